import PyProof.Rows.All
import Wide.All
import OpenK.AllK
import Wide.FinOn
import PySem.Challenge.RW_kn0093_01
set_option Elab.async false
set_option linter.all false
section -- G0
open PySem PySem.W PyProof.Rows PySem.Calls
set_option maxRecDepth 100000
namespace Mine
open Sem (wp)

/- A logic over the contexts in which no code stands that holds a bytearray (a decoder amid its work):
   the model's look «exported» asks the whole stack; wpAny speaks of every stack. -/
def badIds : List String := Builtin.Bytes.decodersThatHold ++ ["bytearray.__contains__", "bytearray.__mod__", "bytearray.__rmod__", "_struct.pack_into.held", "bytearray.find.held"]
def bad : Code → Bool
  | .builtin id _ => badIds.contains id
  | _ => false
def Good (Γ : Ctx) : Prop := bad Γ.code = false ∧ ∀ x ∈ Γ.below, bad x.1 = false

theorem Good.enter {Γ : Ctx} (g : Good Γ) {c : Code} (hc : bad c = false) (h : Option Value) (p : Pos) : Good (Γ.enter c h p) :=
  ⟨hc, fun x hx => by
    rcases List.mem_cons.mp hx with rfl | hx
    · exact g.1
    · exact g.2 x hx⟩
theorem Good.goto {Γ : Ctx} (g : Good Γ) {c : Code} (hc : bad c = false) : Good (Γ.goto c) := ⟨hc, g.2⟩

def wpG {α : Type} (M : Model) (A : Around) (t : Sem α) (Q : α → Shared → Prop) (E : Value → Shared → Prop) (s : Shared) : Prop :=
  ∀ Γ p, Γ.In A → Good Γ → wp M Γ t (fun a _ s' => Q a s') (fun e _ s' => E e s') p s
def codeG (M : Model) (A : Around) (c : Code) (R : Result → Shared → Prop) (s : Shared) : Prop :=
  ∀ Γ p, Γ.code = c → Γ.Below A → Good Γ → wpCode M Γ R p s

section
variable {α β : Type} {M : Model} {A : Around} {E : Value → Shared → Prop} {s : Shared}
theorem lift {t : Sem α} {Q : α → Shared → Prop} (h : wpAny M A t Q E s) : wpG M A t Q E s := fun Γ p hΓ _ => h Γ p hΓ
theorem liftC {c : Code} {R : Result → Shared → Prop} (h : codeAny M A c R s) : codeG M A c R s := fun Γ p hc hΓ _ => h Γ p hc hΓ
theorem g_pure {a : α} {Q : α → Shared → Prop} (h : Q a s) : wpG M A (pure a) Q E s := lift (wpAny_pure h)
theorem g_mono {t : Sem α} {Q Q' : α → Shared → Prop} {E' : Value → Shared → Prop} (h : wpG M A t Q E s) (hQ : ∀ a s, Q a s → Q' a s) (hE : ∀ e s, E e s → E' e s) : wpG M A t Q' E' s :=
  fun Γ p hΓ g => Sem.wp_mono M Γ t (fun a _ s => hQ a s) (fun e _ s => hE e s) p s (h Γ p hΓ g)
theorem g_bind {m : Sem α} {f : α → Sem β} {Q : β → Shared → Prop} (h : wpG M A m (fun a s' => wpG M A (f a) Q E s') E s) : wpG M A (m >>= f) Q E s := fun Γ p hΓ g => by
  rw [Sem.wp_bind']
  exact Sem.wp_mono M Γ m (fun a p' s' h' => h' Γ p' hΓ g) (fun _ _ _ h' => h') p s (h Γ p hΓ g)
/-- a part that is walked by the kit's lines, then the rest -/
theorem g_step {m : Sem α} {f : α → Sem β} {Q : β → Shared → Prop} (h : wpAny M A m (fun a s' => wpG M A (f a) Q E s') E s) : wpG M A (m >>= f) Q E s := g_bind (lift h)
theorem g_holding {vs : List Value} {m : Sem α} {Q : α → Shared → Prop} (h : wpG M A m Q E s) : wpG M A (holding vs m) Q E s := fun Γ p hΓ g => by rw [Sem.wp_holding]; exact h Γ p hΓ g
theorem g_keep {vs : List Value} {m : Sem α} {Q : α → Shared → Prop} (h : wpG M A m Q E s) : wpG M A (m.keep vs) Q E s := fun Γ p hΓ g => by rw [Sem.wp_keep]; exact h Γ p hΓ g
theorem g_onRaise {m : Sem α} {k : Value → Sem Unit} {Q : α → Shared → Prop} (h : wpG M A m Q (fun e s' => wpG M A (k e) (fun _ s'' => E e s'') E s') s) : wpG M A (m.onRaise k) Q E s := fun Γ p hΓ g => by
  rw [Sem.wp_onRaise]
  exact Sem.wp_mono M Γ m (fun _ _ _ h' => h') (fun e p' s' h' => h' Γ p' hΓ g) p s (h Γ p hΓ g)
theorem g_at {q : Pos} {f : Unit → Sem α} {Q : α → Shared → Prop} (h : wpG M A (f ()) Q E s) : wpG M A (standAt q >>= f) Q E s := g_step (wpAny_standAt h)
theorem g_eq {t t' : Sem α} {Q : α → Shared → Prop} (e : t = t') (h : wpG M A t' Q E s) : wpG M A t Q E s := e ▸ h
theorem g_codeMono {c : Code} {R R' : Result → Shared → Prop} (h : codeG M A c R s) (hR : ∀ r s, R r s → R' r s) : codeG M A c R' s := fun Γ p hc hΓ g => wpCode_mono hR (h Γ p hc hΓ g)
theorem g_run {c : Code} {h : Option Value} {Q : Flow → Shared → Prop} (hc : codeG M (A.mark h) c (fun r s' => match r with | .ok f => Q f s' | .error e => E e s') s) (hb : bad c = false := by rfl) (hnb : h ≠ some byPass := by intro x; cases x) :
    wpG M A (run c h) Q E s := fun Γ p hΓ g => by rw [Sem.wp_run]; exact hc _ p rfl (hΓ.enter c h p hnb) (g.enter hb h p)
theorem g_runValue {c : Code} {Q : Value → Shared → Prop} (hc : codeG M A c (fun r s' => match r with | .ok (.ret v) => Q v s' | .ok _ => False | .error e => E e s') s) (hb : bad c = false := by rfl) :
    wpG M A (runValue c) Q E s := fun Γ p hΓ g => by rw [Sem.wp_runValue]; exact hc _ p rfl (hΓ.enter c none p (by intro x; cases x)) (g.enter hb none p)
theorem g_call {f : Value} {pos : List Value} {kw : List (Str × Value)} {Q : Value → Shared → Prop}
    (hc : codeG M A (.call f ⟨pos, kw⟩) (fun r s' => match r with | .ok (.ret v) => Q v s' | .ok _ => False | .error e => E e s') s) : wpG M A (call f pos kw) Q E s := g_runValue hc
theorem g_tree {c : Code} {R : Result → Shared → Prop}
    (h : wpG M (A.under c) (M.den c) (fun fin s' => match fin with | .done f => R (.ok f) s' | .again c' => c'.quiet = true ∧ bad c' = false ∧ codeG M A c' R s') (fun e s' => R (.error e) s') s) : codeG M A c R s := fun Γ p hc hΓ g => by
  rw [wpCode_iff_wp, hc]
  refine Sem.wp_mono M Γ _ (fun fin p' s' h' => ?_) (fun _ _ _ h' => h') p s (h Γ p (hc ▸ hΓ.in) g)
  cases fin with
  | done f => exact h'
  | again c' => exact ⟨h'.1, h'.2.2 (Γ.goto c') p' rfl (hΓ.goto c') (g.goto h'.2.1)⟩
end

/- the head -/
theorem callerGood : Good ⟨.builtin "claim.caller" {}, none, none, [], none⟩ := ⟨by decide +kernel, fun _ h => nomatch h⟩

theorem thread_endsG {prog : Program} {w : World} {t : Sem Fin} {s : Shared} {R : Result → Shared → Prop} (hreg : s.asleep)
    (h : wpG (model prog w) callerA t (fun fin s' => ∃ f, fin = .done f ∧ (R (.ok f) s' ∧ leftWithCleanup s'.gens = false)) (fun e s' => R (.error e) s' ∧ leftWithCleanup s'.gens = false) s) :
    ∃ n r s' s'', runN (denote table) prog w n s ⟨t, .builtin "claim.caller" {}, default, []⟩ = .halted (outcomeOf r) s' ∧
      schedN (denote table) prog w n (.single s ⟨t, .builtin "claim.caller" {}, default, []⟩) = .halted (outcomeOf r) s' ∧ s'.forget = s''.forget ∧ R r s'' := by
  have hw : wp (model prog w) ⟨.builtin "claim.caller" {}, none, none, [], none⟩ t (Sem.finPost (model prog w) ⟨.builtin "claim.caller" {}, none, none, [], none⟩ fun r s' => R r s' ∧ leftWithCleanup s'.gens = false)
      (fun e _ s' => R (.error e) s' ∧ leftWithCleanup s'.gens = false) default s :=
    Sem.wp_mono _ _ t (fun fin _ s' ⟨f, e, x⟩ => by subst e; exact x) (fun _ _ _ x => x) default s (h _ default caller_in callerGood)
  obtain ⟨n, r, s₁, s₂, a, b, c, d⟩ := wp_halts_full (M := model prog w) (R := R) hreg hw
  exact ⟨n, r, s₂, s₁, b, a, c, d⟩

theorem callFromG {c : ClaimW} {tree : List Value → Sem Fin} {w : World} {s : Shared} {free : Addr → Prop} {gens : Prop} {kept : Heap → Prop} (hz : s.asleep) (hgens : s.gens = #[])
    (hspec : ∀ args, c.pre args = true → WData.layableAll args = true → ∀ ord : List DictEntry → List DictEntry, (∀ l, (ord l).Perm l) →
      ∃ vs s₁, layAllW c.records (classAt s.heap) w.params ord args s = some (vs, s₁) ∧
        wpG (model c.prog w) callerA (tree vs) (fun fin s' => ∃ f, fin = .done f ∧ (c.Ends s args vs s₁ (.ok f) s' ∧ s'.os = s.os ∧ AllBare s'.gens ∧ kept s'.heap))
          (fun e s' => c.Ends s args vs s₁ (.error e) s' ∧ s'.os = s.os ∧ AllBare s'.gens ∧ kept s'.heap) s₁) :
    c.CallFrom (fun vs => ⟨tree vs, .builtin "claim.caller" {}, default, []⟩) w free gens kept s := by
  intro args hpre hlay ord hord
  obtain ⟨vs, s₁, hlaid, hcode⟩ := hspec args hpre hlay ord hord
  have hal := layAllW_rest _ _ _ hlaid
  obtain ⟨k, r, s', s'', hrun, hsched, hfo, hcase, hos, hkp⟩ := thread_endsG (prog := c.prog) (w := w) (t := tree vs) (s := s₁)
    (R := fun r s' => c.Ends s args vs s₁ r s' ∧ s'.os = s.os ∧ kept s'.heap) (Shared.asleep_of_life hal.2.2.2 hz)
    (g_mono hcode (fun _ _ ⟨f, e, a, b, d, k⟩ => ⟨f, e, ⟨a, b, k⟩, leftWithCleanup_false_of_bare d⟩) fun _ _ ⟨a, b, d, k⟩ => ⟨⟨a, b, k⟩, leftWithCleanup_false_of_bare d⟩)
  obtain ⟨eh, _, _, eo, _⟩ := Shared.forget_eq hfo
  have hcase := hcase.congr eh
  rw [← eh] at hkp
  rw [← eo] at hos
  have hlife : s'.heap.life = s.heap.life := (runN_life _ _ _ hrun).trans hal.2.2.2
  refine ⟨vs, s₁, hlaid, k, _, s', hsched, ?_, (fun _ i x hx => by rw [hgens] at hx; simp at hx), hkp, by rw [hlife], Shared.rest_eq hos⟩
  rcases hcase with ⟨v, rfl, d1, d2, d3, d4, d5⟩ | ⟨e, ob, cls, rfl, d1, d2, d3, d4, d5⟩
  · exact .inl ⟨v, rfl, d1, d2, d3, fun b o y _ => d4 b o y, d5⟩
  · exact .inr ⟨e, ob, cls, rfl, d1, d2, d3, d4, fun b o y _ => d5 b o y⟩

/-- what is to be walked: the call, in good contexts -/
abbrev WalkMine (q : Program) (loose : List Str) (XP : (Str → Option Value) → Heap → Prop) (YP : World → Heap → Prop) (r : RowW) (d : DefRec) (kwd : List (Str × Expr)) : Prop :=
  ∀ (w : World) (s₀ s₁ : Shared) (mg mb : Str → Option Value), Ground q loose r.records XP w s₀ mg mb s₁.heap → YP w s₁.heap → ∀ (a : Addr) (o : Obj) (pm cd doc dV kV : Value), s₁.heap.get? a = some o →
    o.data = .func { docDef d.name d.params d.body d.scope pm cd doc with defaults := dV, kwdefaults := kV } → s₁.heap.CodeRec cd d.name → Dflts mg s₁.heap d.params kwd dV kV → mg d.name = some (.ref a) → s₁.gens = #[] →
    ∀ (args : List WData) (vals : List Value) (as : List Addr), r.claim.pre args = true → WData.layableAll args = true → ReadsAllW r.records (classAt s₀.heap) s₁.heap vals args as → WellAll w.params s₁.heap vals args → (∀ a ∈ as, (a == sysModules) = false) →
      wpG (model r.prog w) callerA (PySem.call (.ref a) vals) (fun v s' => GoodWG r.claim (classAt s₀.heap) (ExcName.means s₀.heap) args s₁ (.ok (.ret v)) s')
        (fun e s' => GoodWG r.claim (classAt s₀.heap) (ExcName.means s₀.heap) args s₁ (.error e) s') s₁
end Mine

theorem Mine.PySem.W.holds_open {r : OpenRow} {q : Program} {loose : List Str} {Xt : Shared → Bool} {XP : (Str → Option Value) → Heap → Prop} {α : Type} {Yf : Shared → α} {Ya : World → α} {YP : World → Heap → Prop} {d : DefRec} {kwd : List (Str × Expr)} {N : Nat}
    (left : LeftO r.prog q loose Xt Yf Ya N) (hY : ∀ w s, Yf s = Ya w → YP w s.heap) (hYk : ∀ w h h', YP w h → (∀ b o, h.get? b = some o → h'.get? b = some o) → YP w h')
    (hX : ∀ s, Xt s = true → XP (s.heap.nsMap mainGlobals) s.heap) (hXk : ∀ mg h h', XP mg h → (∀ b o, h.get? b = some o → h'.get? b = some o) → XP mg h')
    (hdef : defOf q r.name = some (d, kwd)) (hp : r.prog.theDef r.name = some (d.params, d.body, d.scope)) (hk : kwWritten? d.params.kwonlyargs d.params.kw_defaults = some kwd) (hRf : ∀ s, Xt s = true → RecFacts r.records s.heap) (hwr : (!r.writes || r.records.isEmpty) = true)
    (k1 : r.wellSaid = true) (ok : (chainsOk q && opensWell r.prog && (frees r.toRowW && r.within.isEmpty)) = true) (hb : r.prog.bare) (hw : r.toRowW.promised)
    (call : Mine.WalkMine q loose XP YP r.toRowW d kwd) : r.Holds := by
  obtain ⟨ok, k5⟩ := Bool.and_eq_true_iff.mp ok
  obtain ⟨hch, o1⟩ := Bool.and_eq_true_iff.mp ok
  obtain ⟨k5, k6⟩ := Bool.and_eq_true_iff.mp k5
  obtain ⟨hsame, hu, ha, hap, hm⟩ := frees_parts k5
  have hi := ident_freeW hu ha hap
  have hwi : r.toRowW.claim.within = [] := List.isEmpty_iff.mp k6
  refine ⟨k1, hw, ⟨hb, o1, by show r.makers.map _ = []; rw [hm]; rfl⟩, hw.witness, fun w => ⟨(left.behind hX hch w).1, fun s' hs' => ?_⟩⟩
  obtain ⟨s₀, hf, hg0, s, hT, hz, hgens, hg, G00, y⟩ := (left.behind (XP := fun mg h => XP mg h ∧ RecFacts r.records h) (fun s hs => ⟨hX s hs, hRf s hs⟩) hch w).2 s' hs'
  have G0 : Ground q loose [] XP w s (s.heap.nsMap mainGlobals) (s.heap.nsMap builtinsNs) s.heap := ⟨G00.T, G00.B, G00.D, G00.TE, G00.TD, G00.W, G00.X.1, G00.cls, G00.has, G00.apart, G00.once, G00.K⟩
  have RF := G00.X.2
  have hT' := hT
  have hgens : s.gens = #[] := Array.eq_empty_of_size_eq_zero (beq_iff_eq.mp hgens)
  have G : Ground q loose r.records XP w s _ _ s.heap := RF.ground G0
  refine ⟨s₀, hf, hg0, s, hT, fun n hn => ?_, RF.1, RF.2.1, Mine.callFromG (c := r.toRowW.claim) (tree := fun vs => do match ← nsGet mainNs r.name with
      | some f => do ret (← PySem.call f vs)
      | none => unsupported "claim.caller:no-such-global") hz hgens fun args hpre hlay ord hord => ?_⟩
  · obtain rfl : n = r.name := by split at hn <;> simp_all
    exact pinned_of_view hg G0 hdef hp hk
  · obtain ⟨⟨vs, s₁⟩, hlaid⟩ := Option.isSome_iff_exists.mp (layAllW_isSome (P := w.params) (ord := ord) G.has args r.args s (pre_splitW hpre).1)
    have keeps := layAllW_keeps _ _ _ hlaid
    have hal := layAllW_rest _ _ _ hlaid
    obtain ⟨as, hrd, hin, hold⟩ := reads_layAllW hord _ _ _ hlaid hlay s₁.heap (fun _ _ e => e)
    have L : Laid r.records w s s₁ args vs as := ⟨⟨ord, hord, hlaid⟩, hrd, hin, hold, keeps, hal.1.trans hgens, hal.2.2.1⟩
    have G₁ := G.keeps hXk keeps
    obtain ⟨a, o, pm, cd, doc, dV, kV, h1, h2, h3, h4, h5⟩ := G₁.fn hdef
    have hc := call w s s₁ _ _ G₁ (hYk _ _ _ (hY w s y) keeps) a o pm cd doc dV kV h2 h3 h4 h5 (defOf_name hdef ▸ h1) L.gens args vs as hpre hlay L.reads L.well (L.low G.low)
    refine ⟨vs, s₁, hlaid, Mine.g_step (wpAny_nsGet G₁.T.g ?_)⟩
    rw [h1]
    refine Mine.g_bind (Mine.g_mono hc (fun v s' g => Mine.g_pure ⟨_, rfl, ?_⟩) fun e s' g => ?_)
    · have z := GoodWG.laid (c := r.toRowW.claim) hsame hwi hi L g
      exact ⟨z.1, z.2.1, z.2.2, fun q => ⟨namesKept_of hT' hg r.keeps keeps g.2.1.old, noTable hwr q⟩⟩
    · have z := GoodWG.laid (c := r.toRowW.claim) hsame hwi hi L g
      exact ⟨z.1, z.2.1, z.2.2, fun q => ⟨namesKept_of hT' hg r.keeps keeps g.2.1.old, noTable hwr q⟩⟩
end
section -- G1
open PySem PySem.W PyProof.Rows PySem.Calls
set_option maxRecDepth 100000
namespace Mine

section
variable {M : Model} {A : Around} {E : Value → Shared → Prop} {s : Shared} {env : Env}

theorem g_execs {st : Stmt} {rest : List Stmt} {Q : Flow → Shared → Prop}
    (h : wpG M A (exec st env) (fun f s' => match f with | .next => wpG M A (execs rest env) Q E s' | f => Q f s') E s) : wpG M A (execs (st :: rest) env) Q E s := by
  rw [execs_cons]
  refine g_bind (g_mono h (fun f s' h' => ?_) fun _ _ e => e)
  cases f <;> first | exact h' | exact g_pure h'
theorem g_nil {Q : Flow → Shared → Prop} (h : Q .next s) : wpG M A (execs [] env) Q E s := g_pure h
theorem g_If {test : Expr} {body orelse : List Stmt} {pos : Pos} {Q : Flow → Shared → Prop}
    (h : wpG M A (isTrue test env (eval test env)) (fun b s₂ => if b then wpG M A (execs body env) Q E s₂ else wpG M A (execs orelse env) Q E s₂) E s) : wpG M A (exec (.If test body orelse pos) env) Q E s := by
  rw [exec_If]
  refine g_at (g_bind (g_mono h (fun b s' h' => ?_) fun _ _ e => e))
  cases b <;> exact h'
/-- an expression as a statement -/
theorem g_Expr {e : Expr} {pos : Pos} {Q : Flow → Shared → Prop} (h : wpG M A (eval e env) (fun v s' => wpG M A (dropValue e pos v) Q E s') E s)
    (hi : interactive env = false := by rfl) (hs : swapsWith e none pos.line env = pure false := by rfl) : wpG M A (exec (.Expr e pos) env) Q E s := by
  rw [exec_Expr env e pos hi hs]
  exact g_at (g_bind h)
theorem g_IfExp {test body orelse : Expr} {pos : Pos} {Q : Value → Shared → Prop}
    (h : wpG M A (isTrue test env (eval test env)) (fun b s₂ => if b then wpG M A (eval body env) Q E s₂ else wpG M A (eval orelse env) Q E s₂) E s)
    (he : eval (.IfExp test body orelse pos) env = (do if ← isTrue test env (eval test env) then eval body env else eval orelse env) := by rfl) : wpG M A (eval (.IfExp test body orelse pos) env) Q E s := by
  rw [he]
  refine g_bind (g_mono h (fun b s' h' => ?_) fun _ _ e => e)
  cases b <;> exact h'
theorem g_callWith {pos : Pos} {f : Value} {first : List Value} {args : List (Bool × Sem Value)} {Q : Value → Shared → Prop} (hplain : (args.any (·.1) || ([] : List (Option Str × Sem Value)).any (·.1.isNone)) = false)
    (h : wpG M A (evalArgs f true args []) (fun a s₁ => (∃ k, (k = Keeper.frame ∨ k = Keeper.machine ∨ k = Keeper.boundFrame) ∧ Looks M s₁.heap (keeperOf f) k) ∧ wpG M A (call f (first ++ a.pos) a.kw) Q E s₁) E s) : wpG M A (callWith pos f first args []) Q E s := by
  unfold callWith
  refine g_bind (g_holding (g_mono h (fun a s₁ h₁ => g_at ?_) fun _ _ x => x))
  obtain ⟨⟨k, hk', L⟩, h₁⟩ := h₁
  simp only [hplain]
  refine g_step (L.here ?_)
  have tail : ∀ {t : Sem Value}, wpG M A t Q E s₁ → wpG M A (t >>= fun r => holding [r] point >>= fun _ => pure r) Q E s₁ :=
    fun ht => g_bind (g_mono ht (fun r s₂ hr => g_bind (g_holding (lift (wpAny_point (g_pure hr))))) fun _ _ x => x)
  have marked (mk : Value) : wpG M A (callMarked mk f (first ++ a.pos) a.kw) Q E s₁ := by unfold callMarked; exact g_keep h₁
  rcases hk' with rfl | rfl | rfl <;> dsimp only <;> first | exact tail h₁ | (split <;> first | exact tail h₁ | exact tail (marked _))
theorem g_args {f : Value} {x : Sem Value} {rest : List (Bool × Sem Value)} {Q : Args → Shared → Prop} (h : wpG M A (spliced ((false, x) :: rest)) (fun vs s₁ => Q ⟨vs, []⟩ s₁) E s) : wpG M A (evalArgs f true ((false, x) :: rest) []) Q E s := by
  unfold evalArgs
  show wpG M A (spliced ((false, x) :: rest) >>= _) Q E s
  refine g_bind (g_mono h (fun vs s' h' => ?_) fun _ _ x => x)
  refine g_holding (lift ?_)
  exact wpAny_bind (wpAny_pure (wpAny_bind (wpAny_pure (wpAny_pure h'))))
theorem g_spliced {x : Sem Value} {rest : List (Bool × Sem Value)} {Q : List Value → Shared → Prop} (h : wpG M A x (fun v s₁ => wpG M A (spliced rest) (fun vs s₂ => Q (v :: vs) s₂) E s₁) E s) : wpG M A (spliced ((false, x) :: rest)) Q E s := by
  have e : spliced ((false, x) :: rest) = (do
      let v ← x
      let here ← (pure [v] : Sem (List Value))
      let r ← holding here (spliced rest)
      pure (here ++ r)) := by rw [spliced]; rfl
  rw [e]
  exact g_bind (g_mono h (fun v s₁ h₁ => g_bind (g_pure (g_bind (g_holding (g_mono h₁ (fun vs s₂ h₂ => g_pure h₂) fun _ _ x => x))))) fun _ _ x => x)
theorem g_spliced0 {Q : List Value → Shared → Prop} (h : Q [] s) : wpG M A (spliced []) Q E s := g_pure h
theorem g_CallName {func : Expr} {args : List Expr} {pos : Pos} {Q : Value → Shared → Prop} (h : wpG M A (eval func env) (fun f s₁ => wpG M A (callWith pos f [] (backTo pos (starEach args env)) []) Q E s₁) E s)
    (he : eval (.Call func args [] pos) env = (do callWith pos (← eval func env) [] (backTo pos (starEach args env)) []) := by rfl) : wpG M A (eval (.Call func args [] pos) env) Q E s := by
  rw [he]; exact g_bind h
theorem g_CallMeth {o : Expr} {name : Str} {apos pos : Pos} {args : List Expr} {pl : Sem Bool} {Q : Value → Shared → Prop}
    (h : wpG M A (eval o env) (fun ov s₁ => wpG M A (getMethod ov name pl) (fun fx s₂ => wpG M A (callWith pos fx.1 fx.2 (backTo pos (starEach args env)) []) Q E s₂) E s₁) E s)
    (he : eval (.Call (.Attribute o name apos) args [] pos) env = (do
      let ov ← eval o env
      standAt apos.atName
      let (f, first) ← holding [ov] (getMethod ov name pl)
      callWith pos f first (backTo pos (starEach args env)) []) := by rfl) : wpG M A (eval (.Call (.Attribute o name apos) args [] pos) env) Q E s := by
  rw [he]
  exact g_bind (g_mono h (fun ov s₁ h₁ => g_at (g_bind (g_holding (g_mono h₁ (fun fx s₂ h₂ => h₂) fun _ _ x => x)))) fun _ _ x => x)
theorem g_SetAttr {o value : Expr} {attr : Str} {tpos pos : Pos} {Q : Flow → Shared → Prop}
    (h : wpG M A (eval value env) (fun v s₁ => wpAny M A (eval o env) (fun ov s₂ => wpAny M A (setAttr ov attr v) (fun _ s₃ => Q .next s₃) E s₂) E s₁) E s)
    (he : exec (.Assign [.Attribute o attr tpos] value pos) env = (do
      standAt pos
      let v ← eval value env
      assignStores env v none [assign (.Attribute o attr tpos) env]) := by rfl) : wpG M A (exec (.Assign [.Attribute o attr tpos] value pos) env) Q E s := by
  rw [he]
  refine g_at (g_bind (g_mono h (fun v s₁ h₁ => ?_) fun _ _ x => x))
  show wpG M A (do assignAll v [assign (.Attribute o attr tpos) env]; pure .next) Q E s₁
  refine g_bind ?_
  show wpG M A (assign (.Attribute o attr tpos) env v) _ E s₁
  have e2 : assign (.Attribute o attr tpos) env v = (do
      let ov ← holding [v] (eval o env)
      standAt tpos.atName
      holding [v, ov] (setAttr ov attr v)
      release [v, ov] []) := by rfl
  rw [e2]
  refine g_bind (g_holding (lift (wpAny_mono h₁ (fun ov s₂ h₂ => g_at (g_bind (g_holding (lift (wpAny_mono h₂ (fun _ s₃ h₃ => ?_) fun _ _ x => x))))) fun _ _ x => x)))
  exact fun Γ p hΓ g => by rw [Sem.wp_release]; exact (g_pure h₃ : wpG M A (pure Flow.next) Q E s₃)
end

section
variable {prog : Program} {w : World} {A A₀ : Around} {s : Shared} {base h₀ : Heap} {outer : List Env} {L : Addr} {m : Str → Option Value} {env : Env} {news : List (Addr × Obj)} {E : Value → Shared → Prop}
  {R : Result → Shared → Prop} {name qual : Str} {params : Arguments} {body : List Stmt} {scope : Scope} {cl : List (Str × Addr)} {dV kV doc pm cdv ct : Value} {an : Option Addr} {fo : Obj} {f : Addr} {args : Args} {binds : List (Str × Value)}

theorem g_fun {env' : Env} (h : wpG (model prog w) (A.deeper env') (execs body env') (fun f s' => R (.ok (.ret (match f with | .ret v => v | _ => .none))) s') (fun _ _ => False) s) : codeG (model prog w) A (.func body env') R s := by
  refine g_tree ?_
  show wpG _ (A.deeper env') (do point; match ← (execs body env').onRaise (leaving env') with | .ret v => ret v | _ => ret .none) _ _ s
  refine g_step (wpAny_point (g_bind (g_onRaise (g_mono h (fun f s' h' => ?_) fun _ _ h' => h'.elim))))
  cases f <;> exact g_pure h'

theorem g_callFunction {fd : FuncData} (hroom : A.depth < recursionLimit) (ho : s.heap.get? f = some fo) (hd' : fo.data = .func fd) (hco : fd.scope.isCoroutine = false) (hgen : fd.scope.isGenerator = false) (hbody : fd.body = .stmts body) (hcd : s.heap.CodeRec fd.code fd.qualname)
    (h : wpAny (model prog w) A.in1 (bindArgs fd args) (fun binds s₁ =>
      wpAny (model prog w) A.in1 (newFunctionEnv fd.scope fd.globals fd.closure binds (fd.qualname ++ ".<locals>.") (some f) fd.code none fd.builtins)
        (fun env s₂ => s₂.heap.NoLimit ∧ codeG (model prog w) A (.func body env) R s₂) (fun e s' => R (.error e) s') s₁) (fun e s' => R (.error e) s') s) :
    codeG (model prog w) A (.call (.ref f) args) R s := by
  refine g_tree ?_
  show wpG _ A.in1 (callAny (.ref f) args) _ _ s
  simp only [callAny]
  refine g_step (wpAny_load ho ?_)
  obtain ⟨c, oc, vs, tq, hc, hoc, hdc, hq⟩ := hcd
  simp only [hd', callFunction, hco, hgen, hbody, hc]
  rw [hc] at h
  refine lift (wpAny_bind (m := field (.ref c) 1) (wpAny_field hoc hdc hq (wpAny_bind (wpAny_pure ?_))))
  exact wpAny_bind (wpAny_mono h (fun binds s₁ h₁ => wpAny_bind (wpAny_mono h₁ (fun env s₂ h₂ => wpAny_bind (wpAny_enterFrame h₂.1 hroom
    (wpAny_pure ⟨rfl, rfl, h₂.2⟩))) fun _ _ h' => h')) fun _ _ h' => h')

/-- the call of a def: what is not told in the ledger stands behind the call as it stood -/
theorem g_def (B : Below A₀ base outer h₀) (F : Fr h₀ L s.heap m) (N : News h₀ L s.heap news) (hlim : h₀.NoLimit) (hA : A.frames = some (env :: outer)) (hf : env.frame = some L) (hke : env.scope.kind = .function)
    (ho : s.heap.get? f = some fo) (hd : fo.data = .func (fnX name qual params body scope cl dV kV doc pm an cdv ct)) (hcd : s.heap.CodeRec cdv qual) (hroom : A.depth < recursionLimit)
    (hbind : BindsTo s (fnX name qual params body scope cl dV kV doc pm an cdv ct) args binds) (hloc : ∀ y ∈ binds, scope.names.lookup y.1 = some .local)
    (h : ∀ g L' h₁, (∀ b o, s.heap.get? b = some o → b ∉ news.map (·.1) → g.get? b = some o) → Fr g L' h₁ (fun y => binds.reverse.lookup y) → News g L' h₁ news → Below A base (env :: outer) g → h₀.StaysIn g → (∀ p ∈ news, p.1 < L') →
      wpG (model prog w) (A.deeper (envX qual scope L' f cdv cl)) (execs body (envX qual scope L' f cdv cl))
        (fun fl s' => R (.ok (.ret (match fl with | .ret v => v | _ => .none))) s') (fun _ _ => False) { s with heap := h₁, toks := s.toks + binds.length })
    (hcell : ∀ x ∈ scope.names, x.2 ≠ .cell) (hco : scope.isCoroutine = false := by rfl) (hgen : scope.isGenerator = false := by rfl) (hk : scope.kind = .function := by rfl) : codeG (model prog w) A (.call (.ref f) args) R s := by
  obtain ⟨FG, BG, st, lv⟩ := groundX (R := R) B F N hA hf hke
  refine g_callFunction (fd := fnX name qual params body scope cl dV kV doc pm an cdv ct) (body := body) hroom ho hd hco hgen rfl hcd (hbind _ _ _ _ ?_)
  refine wpAny_newFunctionEnv hcell hloc (fun h₁ hns hsb => ⟨(hlim.keeps F.keep).fresh _ hsb, g_fun ?_⟩) hk
  have hk₁ : ∀ b o, s.heap.get? b = some o → h₁.get? b = some o := fun b o e => hsb.extBut b o (Nat.ne_of_lt (Heap.lt_size e)) (Heap.get?_push_of_some _ e)
  exact h _ s.heap.objs.size h₁ (fun b o e nb => hideAll_get _ e nb) ⟨hns, fun b o e => hk₁ b o (of_hideAll _ e), Nat.le_of_eq (hideAll_size _ _)⟩
    (fun p hp => ⟨hk₁ _ _ (N p hp).1, Nat.ne_of_lt (Heap.lt_size (N p hp).1), hideAll_none _ (List.mem_map_of_mem hp)⟩) BG st (fun p hp => Heap.lt_size (N p hp).1)

theorem a_def (B : Below A₀ base outer h₀) (F : Fr h₀ L s.heap m) (N : News h₀ L s.heap news) (hlim : h₀.NoLimit) (hA : A.frames = some (env :: outer)) (hf : env.frame = some L) (hke : env.scope.kind = .function)
    (ho : s.heap.get? f = some fo) (hd : fo.data = .func (fnX name qual params body scope cl dV kV doc pm an cdv ct)) (hcd : s.heap.CodeRec cdv qual) (hroom : A.depth < recursionLimit)
    (hbind : BindsTo s (fnX name qual params body scope cl dV kV doc pm an cdv ct) args binds) (hloc : ∀ y ∈ binds, scope.names.lookup y.1 = some .local)
    (h : ∀ g L' h₁, (∀ b o, s.heap.get? b = some o → b ∉ news.map (·.1) → g.get? b = some o) → Fr g L' h₁ (fun y => binds.reverse.lookup y) → News g L' h₁ news → Below A base (env :: outer) g → h₀.StaysIn g → (∀ p ∈ news, p.1 < L') →
      wpAny (model prog w) (A.deeper (envX qual scope L' f cdv cl)) (execs body (envX qual scope L' f cdv cl))
        (fun fl s' => R (.ok (.ret (match fl with | .ret v => v | _ => .none))) s') (fun _ _ => False) { s with heap := h₁, toks := s.toks + binds.length })
    (hcell : ∀ x ∈ scope.names, x.2 ≠ .cell) (hco : scope.isCoroutine = false := by rfl) (hgen : scope.isGenerator = false := by rfl) (hk : scope.kind = .function := by rfl) : codeAny (model prog w) A (.call (.ref f) args) R s := by
  obtain ⟨FG, BG, st, lv⟩ := groundX (R := R) B F N hA hf hke
  refine codeAny_call_def (fd := fnX name qual params body scope cl dV kV doc pm an cdv ct) (body := body) (binds := binds) hroom ho hd (hlim.keeps F.keep) hcd rfl hbind hcell hloc (fun h₁ hns hk₁ => ?_) hco hgen hk
  exact wpAny_mono (h _ s.heap.objs.size h₁ (fun b o e nb => hideAll_get _ e nb) ⟨hns, fun b o e => hk₁ b o (of_hideAll _ e), Nat.le_of_eq (hideAll_size _ _)⟩
    (fun p hp => ⟨hk₁ _ _ (N p hp).1, Nat.ne_of_lt (Heap.lt_size (N p hp).1), hideAll_none _ (List.mem_map_of_mem hp)⟩) BG st (fun p hp => Heap.lt_size (N p hp).1)) (fun _ _ x => x) fun _ _ x => x.elim
end
end Mine
end
section -- G2
open PySem PySem.W PyProof.Rows PySem.Calls
set_option maxRecDepth 100000
namespace Mine
theorem g_builtin {prog : Program} {w : World} {A : Around} {R : Result → Shared → Prop} {s : Shared} {id : String} {B : Builtin} {args : Args} (entry : entryFor table id = some B)
    (h : wpG (model prog w) (A.under (.builtin id args)) (B args) (fun fin s' => match fin with | .done f => R (.ok f) s' | .again c' => c'.quiet = true ∧ bad c' = false ∧ codeG (model prog w) A c' R s') (fun e s' => R (.error e) s') s) :
    codeG (model prog w) A (.builtin id args) R s := by
  refine g_tree ?_
  show wpG _ _ (match entryFor table id with | some b => b args | none => unsupported ((withoutEnding? id "#data").getD id)) _ _ s
  rw [entry]; exact h
def clsOk (K : Frag) (C : Addr) : Bool := match K.lookup C with
  | some ⟨_, _, .cls cd, _⟩ => !cd.abstract && !cd.hasDel && !cd.mro.isEmpty
  | _ => false
theorem clsOk_of {K : Frag} {h : Heap} (X : K.In h) {C : Addr} (e : clsOk K C = true) :
    ∃ oc od cd sl, h.get? C = some ⟨oc, od, .cls cd, sl⟩ ∧ cd.abstract = false ∧ cd.hasDel = false ∧ cd.mro.isEmpty = false := by
  unfold clsOk at e
  split at e
  · rename_i ho
    simp only [Bool.and_eq_true, Bool.not_eq_true'] at e
    exact ⟨_, _, _, _, X _ _ ho, e.1.1, e.1.2, e.2⟩
  · cases e

/-- what a class is that is made by a __new__ of the text's own, over object.__new__ -/
structure NewBy (M : Model) (h : Heap) (C : Addr) (fI : Addr) : Prop where
  obj : ∃ oc od cd sl, h.get? C = some ⟨oc, od, .cls cd, sl⟩ ∧ cd.abstract = false ∧ cd.hasDel = false ∧ cd.mro.isEmpty = false
  made : Looks M h (Bind.madeBy (.ref C)) none
  base : Looks M h (Bind.staticBase (.ref C)) (.type "object")
  root : Looks M h (Bind.madeBy (.type "object")) (some "object.__new__")
  self : Looks M h (isSubtype (.ref C) (.ref C)) true
  top : Looks M h (isSubtype (.ref C) (.type "object")) true
  call : Looks M h (specialOf (.ref C) "__call__") (some (.builtin "type.__call__"))
  typ : Looks M h (isInstance (.ref C) (.type "type")) true
  init : Looks M h (typeLookup (.ref C) "__init__") (some (.ref fI))
  bindI : ∀ self, Looks M h (bindSpecial (.ref fI) self) (.ref fI, [self])
  isTy : Looks M h (isType (.ref C)) true

section
variable {prog : Program} {w : World} {A : Around} {K : Frag} {C fI : Addr} {R : Result → Shared → Prop} {h : Heap} {g : Array GenState} {d : Drawn} {t : Nat} {os : OsState}

/-- object.__new__(C) for a class whose own __new__ calls it -/
theorem objnew_user (Y : NewBy (model prog w) h C fI)
    (hq : R (.ok (.ret (.ref (h.objs.size + 1)))) ⟨(h.push emptyDict).push (instObj C h.objs.size), g, d, t, os⟩) :
    codeAny (model prog w) A (.call (.builtin "object.__new__") ⟨[.ref C], []⟩) R ⟨h, g, d, t, os⟩ := by
  obtain ⟨⟨oc, od, cd, sl, hC, e1, e2, e4⟩, made, base, root, self, top, call, typ, init, bindI, isTy⟩ := Y
  have F := PySem.F.objNew
  refine codeAny_call_builtin_code (Code.quiet_builtin _ F.quiet) ?_
  simp only [checkBuiltinCall, F.kind, F.split, F.row]
  have here : Looks (model prog w) h (Bind.madeHere "object.__new__" (.ref C)) () := base.andThen (root.andThen (Looks.of_pure (by simp only [Option.map_some, bne_self_eq_false, Bool.false_eq_true, if_false])))
  have args : Bind.checkArgs "object.__new__" ⟨.hand, "object.__new__", "__new__", .cls, []⟩ ⟨[.ref C], []⟩ = pure () := by kernel_rfl
  rw [args]
  repeat (first | lk | simp only [bne_self_eq_false, Bool.false_eq_true, if_false])
  refine codeAny_builtin F.entry ?_
  unfold Builtin.«object.__new__»
  have hC' := Heap.get?_push_of_some (instObj C (h.push emptyDict).objs.size.pred) (Heap.get?_push_of_some emptyDict hC)
  have fin : ∀ A', wpAny (model prog w) A' (do
      let d ← if typeHasDict (.ref C) then some <$> alloc { cls := .type "dict", data := .dict #[] } else pure none
      ret (← newObj (.ref C) .plain d)) (fun fin s' => match fin with | .done f => R (.ok f) s' | .again c' => c'.quiet = true ∧ codeAny (model prog w) A c' R s') (fun e s' => R (.error e) s') ⟨h, g, d, t, os⟩ := by
    intro A'
    show wpAny _ _ ((alloc emptyDict >>= fun x => pure (some x)) >>= _) _ _ _
    refine wpAny_bind (wpAny_bind (wpAny_alloc (wpAny_pure (wpAny_bind ?_))))
    show wpAny _ _ (newObjAsIs _ _ _) _ _ _
    unfold newObjAsIs classHasDel
    refine wpAny_bind (wpAny_alloc (wpAny_bind (wpAny_bind (wpAny_load (Heap.get?_push_of_some _ (Heap.get?_push_of_some _ hC)) (wpAny_pure ?_)))))
    rw [e2]
    refine wpAny_pure (wpAny_pure ?_)
    show R _ _
    rw [Heap.size_push]
    exact hq
  repeat (first | exact fin _ | lk | simp only [e1, Bool.false_eq_true, if_false])


set_option maxHeartbeats 4000000 in
/-- the call of such a class, no argument; what the __new__ gives back, and the __init__ in good contexts -/
theorem make_userG {s : Shared} {fN : Addr} (Y : NewBy (model prog w) s.heap C fI)
    (hnew : wpAny (model prog w) (A.under (.builtin "type.__call__" ⟨[.ref C], []⟩)) (getAttr (.ref C) "__new__") (fun v s₁ => v = .ref fN ∧
        wpAny (model prog w) (A.under (.builtin "type.__call__" ⟨[.ref C], []⟩)) (call (.ref fN) [.ref C]) (fun v s' => ∃ x dx, v = .ref x ∧ s'.heap.get? x = some (instObj C dx) ∧ (∀ b o, s.heap.get? b = some o → s'.heap.get? b = some o) ∧
          codeG (model prog w) (A.under (.builtin "type.__call__" ⟨[.ref C], []⟩)) (.call (.ref fI) ⟨[.ref x], []⟩) (InitBack x R) s') (fun _ _ => False) s₁) (fun _ _ => False) s) :
    codeG (model prog w) A (.call (.ref C) ⟨[], []⟩) R s := by
  obtain ⟨⟨oc, od, cd, sl, hC, e1, e2, e4⟩, made, base, root, self, top, call, typ, init, bindI, isTy⟩ := Y
  refine g_tree ?_
  show wpG _ _ (callAny (.ref C) _) _ _ _
  refine lift ?_
  refine nd_load hC ?_
  show wpAny _ _ (callAny.viaDunder (.ref C) _) _ _ _
  unfold callAny.viaDunder
  refine wpAny_bind (call.at ?_)
  dsimp only
  rw [tc_bind]
  refine wpAny_bind (wpAny_pure (wpAny_bind (wpAny_pure ?_)))
  refine wpAny_pure (a := Fin.again (.call (.builtin "type.__call__") ⟨.ref C :: [], []⟩)) ⟨rfl, rfl, ?_⟩
  refine g_tree (lift ?_)
  show wpAny _ _ (callAny (.builtin "type.__call__") ⟨.ref C :: [], []⟩) _ _ _
  unfold callAny
  refine wpAny_bind (check_slot tc_kind tc_split typ (tc_args _ _ _) ?_)
  refine wpAny_pure ⟨Code.quiet_builtin _ (by decide +kernel), (show badIds.contains "type.__call__" = false from by decide +kernel), ?_⟩
  refine g_builtin entry_typeCall ?_
  unfold Builtin.«type.__call__»
  have hm : Looks (model prog w) s.heap (mroOf (.ref C)) cd.mro := ((Looks.ld (part := none) hC).andThen .now).andThen .now
  show wpG _ _ (mroOf (.ref C) >>= _) _ _ _
  refine g_step (hm.here ?_)
  simp only [e4, Bool.false_eq_true, if_false]
  refine g_step (made.here ?_)
  dsimp only
  refine g_step (wpAny_mono hnew (fun v s₁ hv => ?_) fun _ _ e => e.elim)
  obtain ⟨rfl, hv⟩ := hv
  refine g_bind (g_holding (lift (wpAny_mono hv (fun v s' hv' => ?_) fun _ _ e => e.elim)))
  obtain ⟨x, dx, rfl, hx, k, hq⟩ := hv'
  have t1 : Looks (model prog w) s'.heap (typeOf (.ref x)) (.ref C) := (Looks.ld hx).andThen .now
  have s1 := self.keeps k
  have i1 := init.keeps k
  have b1 := (bindI (.ref x)).keeps k
  refine g_step ((t1.andThen s1 : Looks (model prog w) s'.heap (isInstance (.ref x) (.ref C)) true).here ?_)
  simp only [Bool.not_true, Bool.false_eq_true, if_false]
  refine g_bind (g_holding ?_)
  unfold callSpecial?
  refine g_step ((t1.andThen i1 : Looks (model prog w) s'.heap (specialOf (.ref x) (Str.ofString "__init__")) (some (.ref fI))).here ?_)
  dsimp only
  refine g_holding (g_step (b1.here ?_))
  dsimp only
  refine g_bind (g_call (g_codeMono hq fun r s' z => ?_))
  rcases r with e | (v | _ | _ | _) <;> first | exact z | exact z.elim | skip
  obtain ⟨rfl, z⟩ := z
  exact g_pure (g_pure z)
end
end Mine
end
section -- G3
open PySem PySem.W PyProof.Rows PySem.Calls
set_option maxRecDepth 100000
namespace Mine

theorem emptyIn {h : Heap} : Frag.In [] h := fun _ _ e => nomatch e
theorem ba_mro {M : Model} {h : Heap} : Looks M h (mroOf (.type "bytearray")) [.type "bytearray", .type "object"] := Looks.of_peek emptyIn (by kernel_rfl)
theorem ba_made {M : Model} {h : Heap} : Looks M h (Bind.madeBy (.type "bytearray")) (some "bytearray.__new__") := Looks.of_peek emptyIn (by kernel_rfl)
theorem ba_sub {M : Model} {h : Heap} : Looks M h (isSubtype (.type "bytearray") (.type "bytearray")) true := Looks.of_peek emptyIn (by kernel_rfl)
theorem ba_init {M : Model} {h : Heap} : Looks M h (typeLookup (.type "bytearray") "__init__") (some (.builtin "bytearray.__init__")) := Looks.of_peek emptyIn (by kernel_rfl)
theorem ba_bind {M : Model} {h : Heap} (v : Value) : Looks M h (bindSpecial (.builtin "bytearray.__init__") v) (.builtin "bytearray.__init__", [v]) := Looks.of_peek emptyIn (by kernel_rfl)
theorem ba_tc {M : Model} {h : Heap} : Looks M h (checkTypeCall "bytearray" ⟨[], []⟩) () := Looks.of_peek emptyIn (by kernel_rfl)
theorem ba_can : ((Manifest.find? "bytearray").bind (·.mro.findSome? fun t => (Manifest.find? t).bind fun b => if b.noNew then some true else if b.attrs.any (·.1 == "__new__") then some false else none)).getD false = false := by decide +kernel
theorem ba_newCall : checkBuiltinCall "bytearray.__new__" ⟨[.type "bytearray"], []⟩ = pure () := by kernel_rfl
theorem ba_newPlain : plainId "bytearray.__new__" = true := by decide +kernel
theorem ba_newEntry : entryFor table "bytearray.__new__" = some Builtin.«list.__new__» := entryFor_alias (id' := "list.__new__") (by kernel_rfl) (by first | rfl | (unfold String.splitOn; simp +decide [String.splitOnAux])) (by decide +kernel) (by kernel_rfl)
theorem ba_initEntry : entryFor table "bytearray.__init__" = some Builtin.«bytearray.__init__» := entryFor_of_tree (by kernel_rfl)
set_option maxRecDepth 1000000 in
set_option maxHeartbeats 4000000 in
theorem ba_owner : ("bytearray.__new__".splitOn ".__new__").headD "" = "bytearray" := by simp +decide [String.splitOn, String.splitOnAux]
theorem ba_subEq : isSubtype (.type "bytearray") (.type "bytearray") = pure true := by rw [isSubtype_type]; kernel_rfl
abbrev baObj (b : Array UInt8) : Obj := { cls := .type "bytearray", data := .bytearray b }

theorem ba_initArgs (x : Addr) : argsOk "bytearray.__init__" ⟨[.ref x], []⟩ := by unfold argsOk; kernel_rfl
section
variable {M : Model} {A : Around} {E : Value → Shared → Prop} {s : Shared}
theorem ba_check {x : Addr} {b : Array UInt8} {R : Unit → Shared → Prop} (hx : s.heap.get? x = some (baObj b)) (h : R () s) : wpAny M A (checkBuiltinCall "bytearray.__init__" ⟨[.ref x], []⟩) R E s := by
  have t1 : Looks M s.heap (typeOf (.ref x)) (.type "bytearray") := (Looks.ld hx).andThen .now
  have t2 : Looks M s.heap (isInstance (.ref x) (.type "bytearray")) true := t1.andThen ba_sub
  have z := @check_slot M A E s "bytearray.__init__" "bytearray" "__init__" (.ref x) [] [] R
  have z1 := z (by decide +kernel)
  have z2 := z1 (by decide +kernel)
  have z3 := z2 t2
  have z4 := z3 (ba_initArgs _)
  exact z4 h
end

section
variable {prog : Program} {w : World} {A : Around} {E : Value → Shared → Prop} {s : Shared}
theorem ba_new {Q₁ : Value → Shared → Prop} (h : Q₁ (.ref s.heap.objs.size) { s with heap := s.heap.push (baObj #[]) }) :
    codeAny (model prog w) A (.call (.builtin "bytearray.__new__") ⟨[.type "bytearray"], []⟩) (wants Q₁ E) s := by
  refine codeAny_of_tree ?_
  show wpAny _ A.in1 (do checkBuiltinCall "bytearray.__new__" ⟨[.type "bytearray"], []⟩; again (.builtin "bytearray.__new__" ⟨[.type "bytearray"], []⟩)) _ _ s
  refine wpAny_bind (wpAny_of_eq ba_newCall (wpAny_pure ⟨plainId_quiet ba_newPlain _, codeAny_builtin_stack ba_newEntry rfl fun p st => ?_⟩))
  rw [Around.under_plainId ba_newPlain _]
  have hsub := ba_subEq
  have hown := ba_owner
  obtain ⟨hp, g, d, tk, os⟩ := s
  simp only [hown]
  wp_walk
  exact h

theorem g_exported {v : Value} {Q : Bool → Shared → Prop} (h : Q false s) : wpG (model prog w) A (Builtin.Bytes.exported v) Q E s := by
  intro Γ p hΓ g
  unfold Builtin.Bytes.exported
  rw [Sem.wp_bind']
  unfold stack
  rw [Sem.wp_stack, Sem.wp_pure, Sem.wp_pure']
  refine (congrArg (fun b => Q b s) ?_).mpr h
  rw [List.any_eq_false]
  intro x hx
  have hb : bad x.1 = false := by
    rcases List.mem_cons.mp hx with rfl | hx
    · exact g.1
    · exact g.2 x hx
  have hd : ∀ id, badIds.contains id = false → Builtin.Bytes.decodersThatHold.contains id = false := fun id e => by
    unfold badIds at e
    simp only [List.contains_eq_any_beq, List.any_append, Bool.or_eq_false_iff] at e ⊢
    exact e.1
  obtain ⟨cd, y⟩ := x
  cases cd with
  | builtin id args =>
    have n1 : id ≠ "bytearray.__contains__" := fun e => absurd (show badIds.contains "bytearray.__contains__" = false from e ▸ hb) (by decide +kernel)
    have n2 : id ≠ "bytearray.__mod__" := fun e => absurd (show badIds.contains "bytearray.__mod__" = false from e ▸ hb) (by decide +kernel)
    have n3 : id ≠ "bytearray.__rmod__" := fun e => absurd (show badIds.contains "bytearray.__rmod__" = false from e ▸ hb) (by decide +kernel)
    have n4 : id ≠ "_struct.pack_into.held" := fun e => absurd (show badIds.contains "_struct.pack_into.held" = false from e ▸ hb) (by decide +kernel)
    have n5 : id ≠ "bytearray.find.held" := fun e => absurd (show badIds.contains "bytearray.find.held" = false from e ▸ hb) (by decide +kernel)
    have n6 := hd id hb
    obtain ⟨pos, kw⟩ := args
    intro e
    unfold Builtin.Bytes.exported.match_1 at e
    dsimp only at e
    replace e := (show dite (id = "bytearray.__contains__") _ _ = true from e)
    rw [dif_neg n1, dif_neg n2, dif_neg n3, dif_neg n4, dif_neg n5] at e
    cases pos with
    | nil => exact Bool.noConfusion (show false = true from e)
    | cons v r =>
      replace e := show (Builtin.Bytes.sameRef v _ && Builtin.Bytes.decodersThatHold.contains id) = true from e
      rw [n6, Bool.and_false] at e
      cases e
  | _ => exact fun e => Bool.noConfusion (show false = true from e)

theorem wpG_or {a b : Sem Bool} {Q : Bool → Shared → Prop} (h : wpG (model prog w) A a (fun x s' => if x then Q true s' else wpG (model prog w) A b Q E s') E s) : wpG (model prog w) A (a <||> b) Q E s := by
  refine g_bind (g_mono h (fun x s' hx => ?_) fun _ _ e => e)
  cases x
  · exact hx
  · exact g_pure hx

set_option maxHeartbeats 4000000 in
/-- bytearray(), in contexts where none holds one -/
theorem g_bytearray {R : Result → Shared → Prop} (h : ∀ h', (∀ b o, s.heap.get? b = some o → h'.get? b = some o) → h'.get? s.heap.objs.size = some (baObj #[]) → h'.objs.size = s.heap.objs.size + 1 →
      R (.ok (.ret (.ref s.heap.objs.size))) { s with heap := h' }) : codeG (model prog w) A (.call (.type "bytearray") ⟨[], []⟩) R s := by
  refine g_tree (lift ?_)
  show wpAny _ _ (callAny (.type "bytearray") _) _ _ _
  refine wpAny_pure ⟨Code.quiet_builtin _ (by decide +kernel), (show badIds.contains "type.__call__" = false from by decide +kernel), ?_⟩
  refine g_builtin entry_typeCall ?_
  unfold Builtin.«type.__call__»
  dsimp only
  refine g_eq (by rw [if_neg (by decide)]) ?_
  rw [if_neg (by rw [ba_can]; decide)]
  refine g_step (ba_tc.here ?_)
  refine g_step (ba_mro.here ?_)
  rw [if_neg (by decide)]
  refine g_step (ba_made.here ?_)
  dsimp only
  refine g_bind (g_pure ?_)
  refine g_bind (g_holding (lift (wpAny_call (codeAny_mono (ba_new (Q₁ := fun v s' => v = .ref s.heap.objs.size ∧ s' = { s with heap := s.heap.push (baObj #[]) }) (E := fun _ _ => False) ⟨rfl, rfl⟩) fun r s₁ hr => ?_))))
  rcases r with e | (v | _ | _ | _) <;> first | exact hr.elim | skip
  obtain ⟨rfl, rfl⟩ := hr
  let x := s.heap.objs.size
  have hx : (s.heap.push (baObj #[])).get? x = some (baObj #[]) := Heap.get?_push_size _ rfl
  have keep : ∀ b o, s.heap.get? b = some o → (s.heap.push (baObj #[])).get? b = some o := fun b o e => Heap.get?_push_of_some _ e
  have t1 : ∀ {M : Model}, Looks M (s.heap.push (baObj #[])) (typeOf (.ref x)) (.type "bytearray") := (Looks.ld hx).andThen .now
  refine g_step ((t1.andThen ba_sub : Looks (model prog w) _ (isInstance (.ref x) (.type "bytearray")) true).here ?_)
  simp only [Bool.not_true, Bool.false_eq_true, if_false]
  refine g_bind (g_holding ?_)
  unfold callSpecial?
  refine g_step ((t1.andThen ba_init : Looks (model prog w) _ (specialOf (.ref x) (Str.ofString "__init__")) _).here ?_)
  dsimp only
  refine g_holding (g_step ((ba_bind (.ref x)).here ?_))
  dsimp only
  refine g_bind (g_call ?_)
  refine g_tree (lift ?_)
  show wpAny _ _ (callAny (.builtin "bytearray.__init__") ⟨[.ref x], []⟩) _ _ _
  unfold callAny
  refine wpAny_bind (ba_check hx ?_)
  refine wpAny_pure ⟨Code.quiet_builtin _ (by decide +kernel), (show badIds.contains "bytearray.__init__" = false from by decide +kernel), ?_⟩
  refine g_builtin ba_initEntry ?_
  unfold Builtin.«bytearray.__init__»
  dsimp only
  have own : ∀ {M : Model}, Looks M (s.heap.push (baObj #[])) (Builtin.Bytes.ownRelease (.ref x)) false := by
    intro M
    unfold Builtin.Bytes.ownRelease Builtin.Bytes.slotIsOwn
    have r : Looks M (s.heap.push (baObj #[])) (typeLookup (.type "bytearray") (Str.ofString "__release_buffer__")) (some (.builtin "bytearray.__release_buffer__")) := Looks.of_peek emptyIn (by kernel_rfl)
    refine Looks.andThen (a := true) ?_ .now
    refine (t1.andThen r : Looks M _ (specialOf (.ref x) (Str.ofString "__release_buffer__")) _).andThen ?_
    dsimp only
    rw [if_neg (by decide +kernel)]
    exact t1.andThen (Looks.of_peek emptyIn (by kernel_rfl))
  refine g_step (own.here ?_)
  rw [if_neg (by decide)]
  refine g_eq (t' := _) (congrArg (· >>= _) (show Builtin.Bytes.bindOptional "bytearray.__init__" "bytearray" ["source", "encoding", "errors"] [] [] = pure [none, none, none] from by kernel_rfl)) ?_
  refine g_bind (g_pure ?_)
  dsimp only
  refine g_bind (g_pure ?_)
  refine g_bind (g_pure ?_)
  refine g_bind (wpG_or (g_exported ?_))
  rw [if_neg (by decide)]
  refine g_bind ?_
  unfold Builtin.Bytes.exportsOf
  refine g_step (wpAny_load hx (g_pure ?_))
  refine g_pure ?_
  rw [if_neg (by decide)]
  unfold Builtin.Bytes.write
  dsimp only
  unfold updateBytearray
  refine g_bind (g_step (wpAny_load hx ?_))
  dsimp only
  refine g_step (wpAny_update hx ?_)
  have hx₂ : ((s.heap.push (baObj #[])).update x (Obj.mapBytearray fun _ => #[])).get? x = some (baObj #[]) := Heap.get?_update_self _ hx rfl
  have keep₂ : ∀ b o, s.heap.get? b = some o → ((s.heap.push (baObj #[])).update x (Obj.mapBytearray fun _ => #[])).get? b = some o := fun b o e =>
    Heap.get?_update_of_ne _ (Nat.ne_of_gt (Heap.lt_size e)) (keep b o e)
  refine lift (wpAny_lookBehind hx₂ (by decide +kernel) ?_)
  refine g_bind (g_pure ?_)
  refine g_pure ?_
  refine g_pure ?_
  refine g_pure ?_
  exact h _ keep₂ hx₂ (by simp)
end
end Mine
end
section -- G4
open PySem PySem.W PyProof.Rows PySem.Calls
set_option maxRecDepth 100000
namespace Mine
theorem wpAny_of_eq' {α : Type} {M : Model} {A : Around} {t t' : Sem α} {Q : α → Shared → Prop} {E : Value → Shared → Prop} {s : Shared} (e : t = t') (h : wpAny M A t' Q E s) : wpAny M A t Q E s := e ▸ h
section
variable {prog : Program} {w : World} {A A₀ : Around} {s : Shared} {base h₀ : Heap} {outer : List Env} {L : Addr} {m : Str → Option Value} {env : Env} {news : List (Addr × Obj)} {E : Value → Shared → Prop}
  {R : Result → Shared → Prop} {name qual : Str} {params : Arguments} {body : List Stmt} {scope : Scope} {dV kV doc pm cdv ct : Value} {an : Option Addr} {K : Frag} {oc : Value} {od : Option Addr} {osl : Array (Option Value)} {f : Addr} {args : Args} {binds : List (Str × Value)}

/-- g_def for a def without a closure, in the words of the kit's engine -/
theorem g_defF (B : Below A₀ base outer h₀) (F : Fr h₀ L s.heap m) (N : News h₀ L s.heap news) (hlim : h₀.NoLimit) (hA : A.frames = some (env :: outer)) (hf : env.frame = some L) (hke : env.scope.kind = .function)
    (X : K.In s.heap) (ho : K.lookup f = some ⟨oc, od, .func (fnOf name qual params body scope dV kV doc pm an cdv ct), osl⟩) (hcd : codeIn K cdv qual = true) (hroom : A.depth < recursionLimit)
    (hbind : BindsTo s (fnOf name qual params body scope dV kV doc pm an cdv ct) args binds) (hloc : ∀ y ∈ binds, scope.names.lookup y.1 = some .local)
    (h : ∀ g L' h₁, (∀ b o, s.heap.get? b = some o → b ∉ news.map (·.1) → g.get? b = some o) → Fr g L' h₁ (fun y => binds.reverse.lookup y) → News g L' h₁ news → Below A base (env :: outer) g → h₀.StaysIn g → (∀ p ∈ news, p.1 < L') →
      wpG (model prog w) (A.deeper (envOf qual scope L' f cdv)) (execs body (envOf qual scope L' f cdv))
        (fun fl s' => R (.ok (.ret (match fl with | .ret v => v | _ => .none))) s') (fun _ _ => False) { s with heap := h₁, toks := s.toks + binds.length })
    (hcell : ∀ x ∈ scope.names, x.2 ≠ .cell) (hco : scope.isCoroutine = false := by rfl) (hgen : scope.isGenerator = false := by rfl) (hk : scope.kind = .function := by rfl) : codeG (model prog w) A (.call (.ref f) args) R s :=
  g_def (cl := []) B F N hlim hA hf hke (X _ _ ho) rfl (codeRec_of X hcd) hroom hbind hloc h hcell hco hgen hk

theorem a_defF (B : Below A₀ base outer h₀) (F : Fr h₀ L s.heap m) (N : News h₀ L s.heap news) (hlim : h₀.NoLimit) (hA : A.frames = some (env :: outer)) (hf : env.frame = some L) (hke : env.scope.kind = .function)
    (X : K.In s.heap) (ho : K.lookup f = some ⟨oc, od, .func (fnOf name qual params body scope dV kV doc pm an cdv ct), osl⟩) (hcd : codeIn K cdv qual = true) (hroom : A.depth < recursionLimit)
    (hbind : BindsTo s (fnOf name qual params body scope dV kV doc pm an cdv ct) args binds) (hloc : ∀ y ∈ binds, scope.names.lookup y.1 = some .local)
    (h : ∀ g L' h₁, (∀ b o, s.heap.get? b = some o → b ∉ news.map (·.1) → g.get? b = some o) → Fr g L' h₁ (fun y => binds.reverse.lookup y) → News g L' h₁ news → Below A base (env :: outer) g → h₀.StaysIn g → (∀ p ∈ news, p.1 < L') →
      wpAny (model prog w) (A.deeper (envOf qual scope L' f cdv)) (execs body (envOf qual scope L' f cdv))
        (fun fl s' => R (.ok (.ret (match fl with | .ret v => v | _ => .none))) s') (fun _ _ => False) { s with heap := h₁, toks := s.toks + binds.length })
    (hcell : ∀ x ∈ scope.names, x.2 ≠ .cell) (hco : scope.isCoroutine = false := by rfl) (hgen : scope.isGenerator = false := by rfl) (hk : scope.kind = .function := by rfl) : codeAny (model prog w) A (.call (.ref f) args) R s :=
  a_def (cl := []) B F N hlim hA hf hke (X _ _ ho) rfl (codeRec_of X hcd) hroom hbind hloc h hcell hco hgen hk

/-- a def whose binding lays something first (*args, **kwargs) -/
theorem a_defB {s₂ : Shared} (B : Below A₀ base outer h₀) (F : Fr h₀ L s₂.heap m) (N : News h₀ L s₂.heap news) (hlim : h₀.NoLimit) (hA : A.frames = some (env :: outer)) (hf : env.frame = some L) (hke : env.scope.kind = .function)
    (X : K.In s.heap) (ho : K.lookup f = some ⟨oc, od, .func (fnOf name qual params body scope dV kV doc pm an cdv ct), osl⟩) (hcd : codeIn K cdv qual = true) (hroom : A.depth < recursionLimit)
    (hbind : ∀ (M : Model) (A : Around) (E : Value → Shared → Prop) (Q : List (Str × Value) → Shared → Prop), Q binds s₂ → wpAny M A (bindArgs (fnOf name qual params body scope dV kV doc pm an cdv ct) args) Q E s) (hloc : ∀ y ∈ binds, scope.names.lookup y.1 = some .local)
    (h : ∀ g L' h₁, (∀ b o, s₂.heap.get? b = some o → b ∉ news.map (·.1) → g.get? b = some o) → Fr g L' h₁ (fun y => binds.reverse.lookup y) → News g L' h₁ news → Below A base (env :: outer) g → h₀.StaysIn g → (∀ p ∈ news, p.1 < L') → s₂.heap.objs.size ≤ L' →
      wpAny (model prog w) (A.deeper (envOf qual scope L' f cdv)) (execs body (envOf qual scope L' f cdv))
        (fun fl s' => R (.ok (.ret (match fl with | .ret v => v | _ => .none))) s') (fun _ _ => False) { s₂ with heap := h₁, toks := s₂.toks + binds.length })
    (hcell : ∀ x ∈ scope.names, x.2 ≠ .cell) (hco : scope.isCoroutine = false := by rfl) (hgen : scope.isGenerator = false := by rfl) (hk : scope.kind = .function := by rfl) : codeAny (model prog w) A (.call (.ref f) args) R s := by
  obtain ⟨FG, BG, st, lv⟩ := groundX (R := R) B F N hA hf hke
  refine codeAny_call_function (fd := fnOf name qual params body scope dV kV doc pm an cdv ct) (body := body) hroom (X _ _ ho) rfl hco hgen rfl (codeRec_of X hcd) (hbind _ _ _ _ ?_)
  refine wpAny_newFunctionEnv hcell hloc (fun h₁ hns hsb => ⟨(hlim.keeps F.keep).fresh _ hsb, codeAny_func ?_⟩) hk
  have hk₁ : ∀ b o, s₂.heap.get? b = some o → h₁.get? b = some o := fun b o e => hsb.extBut b o (Nat.ne_of_lt (Heap.lt_size e)) (Heap.get?_push_of_some _ e)
  show wpAny (model prog w) (A.deeper (envX qual scope s₂.heap.objs.size f cdv [])) (execs body (envX qual scope s₂.heap.objs.size f cdv [])) _ _ _
  exact wpAny_mono (h _ s₂.heap.objs.size h₁ (fun b o e nb => hideAll_get _ e nb) ⟨hns, fun b o e => hk₁ b o (of_hideAll _ e), Nat.le_of_eq (hideAll_size _ _)⟩
    (fun p hp => ⟨hk₁ _ _ (N p hp).1, Nat.ne_of_lt (Heap.lt_size (N p hp).1), hideAll_none _ (List.mem_map_of_mem hp)⟩) BG st (fun p hp => Heap.lt_size (N p hp).1) (Nat.le_refl _)) (fun _ _ x => x) fun _ _ x => x.elim
end

theorem frGrow {g h h' : Heap} {L : Addr} {m : Str → Option Value} (F : Fr g L h m) (k : ∀ b o, h.get? b = some o → h'.get? b = some o) : Fr g L h' m :=
  let ⟨oL, es, ep, hL, r⟩ := F.ns
  ⟨⟨oL, es, ep, k _ _ hL, r⟩, fun b o e => k _ _ (F.keep b o e), F.above⟩
theorem newsGrow {g h h' : Heap} {L : Addr} {news : List (Addr × Obj)} (N : News g L h news) (k : ∀ b o, h.get? b = some o → h'.get? b = some o) : News g L h' news :=
  fun p hp => ⟨k _ _ (N p hp).1, (N p hp).2⟩
theorem newsAdd {g h h' : Heap} {L y : Addr} {oy : Obj} {m : Str → Option Value} {news : List (Addr × Obj)} (F : Fr g L h m) (N : News g L h' news) (hy : h'.get? y = some oy) (f : h.objs.size ≤ y) : News g L h' ((y, oy) :: news) :=
  fun p hp => by
    rcases List.mem_cons.mp hp with rfl | hp
    · obtain ⟨oL, _, _, hL, _⟩ := F.ns
      refine ⟨hy, fun e => ?_, ?_⟩
      · have q : L < h.objs.size := Heap.lt_size hL
        exact absurd ((show y = L from e) ▸ q : y < h.objs.size) (Nat.not_lt.mpr f)
      · cases q : g.get? y with
        | none => rfl
        | some o => exact absurd (Heap.lt_size (F.keep _ _ q)) (Nat.not_lt.mpr f)
    · exact N p hp
theorem g_args0 {M : Model} {A : Around} {E : Value → Shared → Prop} {s : Shared} {f : Value} {Q : Args → Shared → Prop} (h : Q ⟨[], []⟩ s) : wpG M A (evalArgs f true [] []) Q E s := lift (evalArgs_nil3 h)

/-- a halt for the engine -/
def Stop (P : Prop) : Prop := P
theorem Stop.mk {P : Prop} (h : P) : Stop P := h
theorem Stop.out {P : Prop} (h : Stop P) : P := h

/-- the locals of a def are where a frame says, or the ledger's: what stays -/
theorem keepOf {s : Shared} {g h' : Heap} {L' : Addr} {m' : Str → Option Value} (hk : ∀ b o, s.heap.get? b = some o → b ∉ (([] : List (Addr × Obj)).map (·.1)) → g.get? b = some o) (F : Fr g L' h' m') :
    ∀ b o, s.heap.get? b = some o → h'.get? b = some o := fun b o e => F.keep b o (hk b o e (fun q => nomatch q))
end Mine
end
section -- G5
open PySem PySem.W PyProof.Rows PySem.Calls
set_option maxRecDepth 100000
namespace Mine

/- rows of pairs, by name -/
def look {α : Type} (S : List (Str × α)) (k : Str) : Option α := (S.find? fun p => p.1 = k).map (·.2)
def sd {α : Type} (S : List (Str × α)) (k : Str) (d : α) : List (Str × α) := if (look S k).isSome then S else S ++ [(k, d)]
theorem valueAt_look (S : List (Str × Value)) (k : Str) : valueAt S k = look S k := rfl
theorem sd_old {α : Type} {S : List (Str × α)} {k : Str} {d : α} (h : (look S k).isSome = true) : sd S k d = S := by unfold sd; rw [if_pos h]
theorem sd_new {α : Type} {S : List (Str × α)} {k : Str} {d : α} (h : look S k = none) : sd S k d = S ++ [(k, d)] := by unfold sd; rw [h]; rfl
theorem sd_len {α : Type} {S : List (Str × α)} {k : Str} {d : α} {n : Nat} (h : S.length ≤ n) : (sd S k d).length ≤ n + 1 := by
  unfold sd
  split
  · exact Nat.le_trans h (Nat.le_succ n)
  · rw [List.length_append]; exact Nat.succ_le_succ h
theorem look_append {α : Type} (S T : List (Str × α)) (k : Str) : look (S ++ T) k = (look S k).or (look T k) := by
  unfold look
  rw [List.find?_append]
  cases List.find? (fun p => decide (p.1 = k)) S <;> rfl
theorem look_sd {α : Type} (S : List (Str × α)) (k k' : Str) (d : α) : look (sd S k d) k' = if k' = k then some ((look S k).getD d) else look S k' := by
  unfold sd
  cases h : look S k with
  | some x =>
    simp only [Option.isSome_some, if_true, Option.getD_some]
    split
    · rename_i e; rw [e, h]
    · rfl
  | none =>
    simp only [Option.isSome_none, Bool.false_eq_true, if_false, Option.getD_none]
    rw [look_append]
    split
    · rename_i e
      subst e
      rw [h]
      simp [look]
    · rename_i e
      have : look [(k, d)] k' = none := by
        unfold look
        simp [show k ≠ k' from fun q => e q.symm]
      rw [this, Option.or_none]

/- what a value of an environ says -/
inductive D where
  | str (s : Str) | int (n : Int) | ver | obj (a : Addr)
  deriving DecidableEq
abbrev tupObj (items : Array Value) : Obj := { cls := .type "tuple", data := .seq items }
def DV (know : Addr → Obj → Prop) : Value → D → Prop
  | .str s _, .str s' => s = s'
  | .int n _, .int n' => n = n'
  | .ref a, .ver => ∃ t u, know a (tupObj #[.int 1 t, .int 0 u])
  | .ref a, .obj b => a = b ∧ ∃ C dx, know a (instObj C dx)
  | _, _ => False
theorem DV.mono {P Q : Addr → Obj → Prop} (h : ∀ a o, (∀ n ep, o.data ≠ .dict n ep) → P a o → Q a o) : ∀ {v : Value} {d : D}, DV P v d → DV Q v d := by
  intro v d x
  cases d <;> cases v <;> first | exact x | exact x.elim | skip
  · obtain ⟨t, u, k⟩ := x; exact ⟨t, u, h _ _ (fun _ _ e => nomatch e) k⟩
  · obtain ⟨e, C, dx, k⟩ := x; exact ⟨e, C, dx, h _ _ (fun _ _ e => nomatch e) k⟩

def Rel (know : Addr → Obj → Prop) : List (Str × Value) → List (Str × D) → Prop
  | [], [] => True
  | (k, v) :: r, (k', d) :: r' => k = k' ∧ DV know v d ∧ Rel know r r'
  | _, _ => False
theorem Rel.mono {P Q : Addr → Obj → Prop} (h : ∀ a o, (∀ n ep, o.data ≠ .dict n ep) → P a o → Q a o) : ∀ {l : List (Str × Value)} {S : List (Str × D)}, Rel P l S → Rel Q l S
  | [], [], _ => trivial
  | (_, _) :: _, (_, _) :: _, ⟨a, b, c⟩ => ⟨a, b.mono h, c.mono h⟩
theorem Rel.length {P : Addr → Obj → Prop} : ∀ {l : List (Str × Value)} {S : List (Str × D)}, Rel P l S → l.length = S.length
  | [], [], _ => rfl
  | (_, _) :: _, (_, _) :: _, ⟨_, _, c⟩ => by rw [List.length_cons, List.length_cons, c.length]
theorem Rel.append {P : Addr → Obj → Prop} : ∀ {l l' : List (Str × Value)} {S S' : List (Str × D)}, Rel P l S → Rel P l' S' → Rel P (l ++ l') (S ++ S')
  | [], _, [], _, _, h => h
  | (_, _) :: _, _, (_, _) :: _, _, ⟨a, b, c⟩, h => ⟨a, b, c.append h⟩
theorem Rel.look {P : Addr → Obj → Prop} {k : Str} : ∀ {l : List (Str × Value)} {S : List (Str × D)}, Rel P l S → match look l k, look S k with
    | some v, some d => DV P v d
    | none, none => True
    | _, _ => False
  | [], [], _ => trivial
  | (k₁, v) :: l, (k₂, d) :: S, ⟨a, b, c⟩ => by
    subst a
    by_cases h : k₁ = k
    · have e1 : Mine.look ((k₁, v) :: l) k = some v := by simp [Mine.look, h]
      have e2 : Mine.look ((k₁, d) :: S) k = some d := by simp [Mine.look, h]
      rw [e1, e2]; exact b
    · have e1 : Mine.look ((k₁, v) :: l) k = Mine.look l k := by simp [Mine.look, h]
      have e2 : Mine.look ((k₁, d) :: S) k = Mine.look S k := by simp [Mine.look, h]
      rw [e1, e2]; exact c.look
theorem Rel.isSome {P : Addr → Obj → Prop} {k : Str} {l : List (Str × Value)} {S : List (Str × D)} (h : Rel P l S) : (Mine.look l k).isSome = (Mine.look S k).isSome := by
  have := h.look (k := k)
  cases e1 : Mine.look l k <;> cases e2 : Mine.look S k <;> rw [e1, e2] at this <;> first | rfl | exact this.elim
theorem Rel.at {P : Addr → Obj → Prop} {k : Str} {l : List (Str × Value)} {S : List (Str × D)} {d : D} (h : Rel P l S) (e : Mine.look S k = some d) : ∃ v, Mine.look l k = some v ∧ DV P v d := by
  have := h.look (k := k)
  cases e1 : Mine.look l k <;> rw [e1, e] at this
  · exact this.elim
  · exact ⟨_, rfl, this⟩
theorem Rel.none {P : Addr → Obj → Prop} {k : Str} {l : List (Str × Value)} {S : List (Str × D)} (h : Rel P l S) (e : Mine.look S k = .none) : Mine.look l k = .none := by
  have := h.isSome (k := k)
  rw [e] at this
  cases q : Mine.look l k with
  | none => rfl
  | some _ => rw [q] at this; cases this
theorem Rel.sd {P : Addr → Obj → Prop} {k : Str} {l : List (Str × Value)} {S : List (Str × D)} {v : Value} {d : D} (h : Rel P l S) (b : DV P v d) : Rel P (sd l k v) (sd S k d) := by
  unfold Mine.sd
  rw [h.isSome]
  split
  · exact h
  · exact h.append ⟨rfl, b, trivial⟩

section
variable {prog : Program} {w : World} {A : Around} {E : Value → Shared → Prop} {s : Shared} {h₀ : Heap} {L d : Addr} {m : Str → Option Value} {news : List (Addr × Obj)} {u : Obj → List (Addr × Obj)} {o : Obj} {kvs : List (Str × Value)} {k : Str} {t : Tok} {dflt : Value}
theorem updF_self (U : UpdF d o news u) : u o = news := by
  obtain ⟨pre, post, rfl, hg, _, _⟩ := U.split
  exact hg o
theorem my_setdef {Q : Value → Shared → Prop} (F : Fr h₀ L s.heap m) (N : News h₀ L s.heap news) (U : UpdF d o news u) (hd : o.IsDictOf (strKind prog w) kvs) (lo : (d == sysModules) = false) (hsz : kvs.length ≤ sizeLine)
    (h : ∀ h' o' v', Fr h₀ L h' m → News h₀ L h' (u o') → o'.IsDictOf (strKind prog w) (sd kvs k dflt) → Q v' { s with heap := h', toks := s.toks + 1 }) :
    wpAny (model prog w) A (call (.builtin "dict.setdefault") [.ref d, .str k t, dflt]) Q E s := by
  have hp : (d, o) ∈ news := by
    obtain ⟨pre, post, rfl, hg, _, _⟩ := U.split
    exact List.mem_append_right _ (.head _)
  cases e : valueAt kvs k with
  | some v => exact kob_setdef_there N hp hd lo (strKind_is _ _ _ _) (PySem.F.args_dict_setdefault_3 _ _ _) e hsz (h _ o v F (by rw [updF_self U]; exact N) (by rw [sd_old (show (look kvs k).isSome = true from by rw [← valueAt_look, e]; rfl)]; exact hd))
  | none =>
    refine kob_setdef_new F N U hd lo (strKind_is _ _ _ _) (PySem.F.args_dict_setdefault_3 _ _ _) e hsz fun h' o' F' N' hd' => h h' o' _ F' N' ?_
    rw [sd_new (show look kvs k = none from e)]
    rw [stored_absent e] at hd'
    exact hd'
theorem dv_str {P : Addr → Obj → Prop} {x : Str} {t : Tok} : DV P (.str x t) (.str x) := rfl
theorem dv_int {P : Addr → Obj → Prop} {n : Int} {t : Tok} : DV P (.int n t) (.int n) := rfl
/-- setdefault, told by rows -/
theorem my_setdefR {Q : Value → Shared → Prop} {P : Addr → Obj → Prop} {S : List (Str × D)} {dv : D} {n : Nat} (F : Fr h₀ L s.heap m) (N : News h₀ L s.heap news) (U : UpdF d o news u) (hd : o.IsDictOf (strKind prog w) kvs) (lo : (d == sysModules) = false) (r : Rel P kvs S) (hv : DV P dflt dv)
    (hl : kvs.length ≤ n) (hn : n ≤ 1000)
    (h : ∀ h' o' v' kvs', Fr h₀ L h' m → News h₀ L h' (u o') → o'.IsDictOf (strKind prog w) kvs' → Rel P kvs' (sd S k dv) → kvs'.length ≤ n + 1 → Q v' { s with heap := h', toks := s.toks + 1 }) :
    wpAny (model prog w) A (call (.builtin "dict.setdefault") [.ref d, .str k t, dflt]) Q E s :=
  my_setdef F N U hd lo (Nat.le_trans hl (Nat.le_trans hn (by rw [sizeLine_eq]; decide))) fun h' o' v' F' N' hd' => h h' o' v' _ F' N' hd' (r.sd hv) (sd_len hl)

open PySem.SeqAt in
/-- None in a tuple of texts -/
theorem none_in_strs {a : Addr} {items : List Value} {Q : Value → Shared → Prop} (N : News h₀ L s.heap news) (hm : (a, tupObj items.toArray) ∈ news) (hs : ∀ y ∈ items, ∃ x t, y = .str x t) (h : Q (.bool false) s) :
    wpAny (model prog w) A (compareOp .In .none (.ref a)) Q E s := by
  refine in_tupleAt (fun _ => false) ⟨_, (N _ hm).1, rfl, _, rfl⟩ (fun y hy => ?_) ?_
  · obtain ⟨x, t, rfl⟩ := hs y (by simpa using hy)
    exact EqAt.str_none _ _
  · have e : items.toArray.any (fun _ => false) = false := by simp
    rw [e]; exact h
end
end Mine
end
section -- K01
open PySem PySem.W PyProof.Rows PySem.Calls
set_option maxRecDepth 100000
namespace Mine
def nthT : List Stmt → Nat → Stmt
  | x :: _, 0 => x
  | _ :: r, n + 1 => nthT r n
  | [], _ => .Pass default
def clsB : Stmt → List Stmt
  | .ClassDef _ _ _ b _ _ _ _ _ _ _ => b
  | _ => []
def fnA : Stmt → Arguments
  | .FunctionDef _ a _ _ _ _ _ _ _ _ => a
  | _ => default
def fnB : Stmt → List Stmt
  | .FunctionDef _ _ b _ _ _ _ _ _ _ => b
  | _ => []
def fnS : Stmt → Scope
  | .FunctionDef _ _ _ _ _ _ s _ _ _ => s
  | _ => default
def topT (i : Nat) : Stmt := nthT PySem.Challenge.pw_kn0093_01.main.body i
def inT (i j : Nat) : Stmt := nthT (clsB (topT i)) j
set_option maxHeartbeats 4000000 in
noncomputable def hd.heap_39 : Params → Frag := by
  refine' (?f : ∀ (a0 : Arguments) (_ : a0 = fnA (topT 0)) (b0 : List Stmt) (_ : b0 = fnB (topT 0)) (s0 : Scope) (_ : s0 = fnS (topT 0))
    (a2_0 : Arguments) (_ : a2_0 = fnA (inT 2 0)) (b2_0 : List Stmt) (_ : b2_0 = fnB (inT 2 0)) (s2_0 : Scope) (_ : s2_0 = fnS (inT 2 0))
    (a2_1 : Arguments) (_ : a2_1 = fnA (inT 2 1)) (b2_1 : List Stmt) (_ : b2_1 = fnB (inT 2 1)) (s2_1 : Scope) (_ : s2_1 = fnS (inT 2 1))
    (a2_2 : Arguments) (_ : a2_2 = fnA (inT 2 2)) (b2_2 : List Stmt) (_ : b2_2 = fnB (inT 2 2)) (s2_2 : Scope) (_ : s2_2 = fnS (inT 2 2))
    (a3 : Arguments) (_ : a3 = fnA (topT 3)) (b3 : List Stmt) (_ : b3 = fnB (topT 3)) (s3 : Scope) (_ : s3 = fnS (topT 3))
    (a5 : Arguments) (_ : a5 = fnA (topT 5)) (b5 : List Stmt) (_ : b5 = fnB (topT 5)) (s5 : Scope) (_ : s5 = fnS (topT 5))
    (a6 : Arguments) (_ : a6 = fnA (topT 6)) (b6 : List Stmt) (_ : b6 = fnB (topT 6)) (s6 : Scope) (_ : s6 = fnS (topT 6))
    (a8_1 : Arguments) (_ : a8_1 = fnA (inT 8 1)) (b8_1 : List Stmt) (_ : b8_1 = fnB (inT 8 1)) (s8_1 : Scope) (_ : s8_1 = fnS (inT 8 1))
    (a11_1 : Arguments) (_ : a11_1 = fnA (inT 11 1)) (b11_1 : List Stmt) (_ : b11_1 = fnB (inT 11 1)) (s11_1 : Scope) (_ : s11_1 = fnS (inT 11 1))
    (a11_2 : Arguments) (_ : a11_2 = fnA (inT 11 2)) (b11_2 : List Stmt) (_ : b11_2 = fnB (inT 11 2)) (s11_2 : Scope) (_ : s11_2 = fnS (inT 11 2))
    (a11_3 : Arguments) (_ : a11_3 = fnA (inT 11 3)) (b11_3 : List Stmt) (_ : b11_3 = fnB (inT 11 3)) (s11_3 : Scope) (_ : s11_3 = fnS (inT 11 3))
    (a11_4 : Arguments) (_ : a11_4 = fnA (inT 11 4)) (b11_4 : List Stmt) (_ : b11_4 = fnB (inT 11 4)) (s11_4 : Scope) (_ : s11_4 = fnS (inT 11 4))
    (a11_5 : Arguments) (_ : a11_5 = fnA (inT 11 5)) (b11_5 : List Stmt) (_ : b11_5 = fnB (inT 11 5)) (s11_5 : Scope) (_ : s11_5 = fnS (inT 11 5))
    (a11_6 : Arguments) (_ : a11_6 = fnA (inT 11 6)) (b11_6 : List Stmt) (_ : b11_6 = fnB (inT 11 6)) (s11_6 : Scope) (_ : s11_6 = fnS (inT 11 6))
    (a11_7 : Arguments) (_ : a11_7 = fnA (inT 11 7)) (b11_7 : List Stmt) (_ : b11_7 = fnB (inT 11 7)) (s11_7 : Scope) (_ : s11_7 = fnS (inT 11 7))
    (a11_8 : Arguments) (_ : a11_8 = fnA (inT 11 8)) (b11_8 : List Stmt) (_ : b11_8 = fnB (inT 11 8)) (s11_8 : Scope) (_ : s11_8 = fnS (inT 11 8))
    (a11_9 : Arguments) (_ : a11_9 = fnA (inT 11 9)) (b11_9 : List Stmt) (_ : b11_9 = fnB (inT 11 9)) (s11_9 : Scope) (_ : s11_9 = fnS (inT 11 9))
    (a11_10 : Arguments) (_ : a11_10 = fnA (inT 11 10)) (b11_10 : List Stmt) (_ : b11_10 = fnB (inT 11 10)) (s11_10 : Scope) (_ : s11_10 = fnS (inT 11 10))
    (a11_11 : Arguments) (_ : a11_11 = fnA (inT 11 11)) (b11_11 : List Stmt) (_ : b11_11 = fnB (inT 11 11)) (s11_11 : Scope) (_ : s11_11 = fnS (inT 11 11))
    (a11_12 : Arguments) (_ : a11_12 = fnA (inT 11 12)) (b11_12 : List Stmt) (_ : b11_12 = fnB (inT 11 12)) (s11_12 : Scope) (_ : s11_12 = fnS (inT 11 12))
    (a11_13 : Arguments) (_ : a11_13 = fnA (inT 11 13)) (b11_13 : List Stmt) (_ : b11_13 = fnB (inT 11 13)) (s11_13 : Scope) (_ : s11_13 = fnS (inT 11 13))
    (a11_14 : Arguments) (_ : a11_14 = fnA (inT 11 14)) (b11_14 : List Stmt) (_ : b11_14 = fnB (inT 11 14)) (s11_14 : Scope) (_ : s11_14 = fnS (inT 11 14))
    (a11_15 : Arguments) (_ : a11_15 = fnA (inT 11 15)) (b11_15 : List Stmt) (_ : b11_15 = fnB (inT 11 15)) (s11_15 : Scope) (_ : s11_15 = fnS (inT 11 15))
    (a11_16 : Arguments) (_ : a11_16 = fnA (inT 11 16)) (b11_16 : List Stmt) (_ : b11_16 = fnB (inT 11 16)) (s11_16 : Scope) (_ : s11_16 = fnS (inT 11 16))
    (a11_17 : Arguments) (_ : a11_17 = fnA (inT 11 17)) (b11_17 : List Stmt) (_ : b11_17 = fnB (inT 11 17)) (s11_17 : Scope) (_ : s11_17 = fnS (inT 11 17))
    (a11_18 : Arguments) (_ : a11_18 = fnA (inT 11 18)) (b11_18 : List Stmt) (_ : b11_18 = fnB (inT 11 18)) (s11_18 : Scope) (_ : s11_18 = fnS (inT 11 18))
    (a11_19 : Arguments) (_ : a11_19 = fnA (inT 11 19)) (b11_19 : List Stmt) (_ : b11_19 = fnB (inT 11 19)) (s11_19 : Scope) (_ : s11_19 = fnS (inT 11 19))
    (a11_20 : Arguments) (_ : a11_20 = fnA (inT 11 20)) (b11_20 : List Stmt) (_ : b11_20 = fnB (inT 11 20)) (s11_20 : Scope) (_ : s11_20 = fnS (inT 11 20))
    (a11_21 : Arguments) (_ : a11_21 = fnA (inT 11 21)) (b11_21 : List Stmt) (_ : b11_21 = fnB (inT 11 21)) (s11_21 : Scope) (_ : s11_21 = fnS (inT 11 21))
    (a11_22 : Arguments) (_ : a11_22 = fnA (inT 11 22)) (b11_22 : List Stmt) (_ : b11_22 = fnB (inT 11 22)) (s11_22 : Scope) (_ : s11_22 = fnS (inT 11 22))
    (a11_23 : Arguments) (_ : a11_23 = fnA (inT 11 23)) (b11_23 : List Stmt) (_ : b11_23 = fnB (inT 11 23)) (s11_23 : Scope) (_ : s11_23 = fnS (inT 11 23))
    (a11_24 : Arguments) (_ : a11_24 = fnA (inT 11 24)) (b11_24 : List Stmt) (_ : b11_24 = fnB (inT 11 24)) (s11_24 : Scope) (_ : s11_24 = fnS (inT 11 24))
    (a11_25 : Arguments) (_ : a11_25 = fnA (inT 11 25)) (b11_25 : List Stmt) (_ : b11_25 = fnB (inT 11 25)) (s11_25 : Scope) (_ : s11_25 = fnS (inT 11 25))
    (a11_26 : Arguments) (_ : a11_26 = fnA (inT 11 26)) (b11_26 : List Stmt) (_ : b11_26 = fnB (inT 11 26)) (s11_26 : Scope) (_ : s11_26 = fnS (inT 11 26))
    (a11_27 : Arguments) (_ : a11_27 = fnA (inT 11 27)) (b11_27 : List Stmt) (_ : b11_27 = fnB (inT 11 27)) (s11_27 : Scope) (_ : s11_27 = fnS (inT 11 27))
    (a11_28 : Arguments) (_ : a11_28 = fnA (inT 11 28)) (b11_28 : List Stmt) (_ : b11_28 = fnB (inT 11 28)) (s11_28 : Scope) (_ : s11_28 = fnS (inT 11 28))
    (a11_29 : Arguments) (_ : a11_29 = fnA (inT 11 29)) (b11_29 : List Stmt) (_ : b11_29 = fnB (inT 11 29)) (s11_29 : Scope) (_ : s11_29 = fnS (inT 11 29))
    (a11_30 : Arguments) (_ : a11_30 = fnA (inT 11 30)) (b11_30 : List Stmt) (_ : b11_30 = fnB (inT 11 30)) (s11_30 : Scope) (_ : s11_30 = fnS (inT 11 30))
    (a12_1 : Arguments) (_ : a12_1 = fnA (inT 12 1)) (b12_1 : List Stmt) (_ : b12_1 = fnB (inT 12 1)) (s12_1 : Scope) (_ : s12_1 = fnS (inT 12 1))
    (a12_2 : Arguments) (_ : a12_2 = fnA (inT 12 2)) (b12_2 : List Stmt) (_ : b12_2 = fnB (inT 12 2)) (s12_2 : Scope) (_ : s12_2 = fnS (inT 12 2))
    (a12_3 : Arguments) (_ : a12_3 = fnA (inT 12 3)) (b12_3 : List Stmt) (_ : b12_3 = fnB (inT 12 3)) (s12_3 : Scope) (_ : s12_3 = fnS (inT 12 3))
    (a12_4 : Arguments) (_ : a12_4 = fnA (inT 12 4)) (b12_4 : List Stmt) (_ : b12_4 = fnB (inT 12 4)) (s12_4 : Scope) (_ : s12_4 = fnS (inT 12 4))
    (a12_5 : Arguments) (_ : a12_5 = fnA (inT 12 5)) (b12_5 : List Stmt) (_ : b12_5 = fnB (inT 12 5)) (s12_5 : Scope) (_ : s12_5 = fnS (inT 12 5))
    (a12_6 : Arguments) (_ : a12_6 = fnA (inT 12 6)) (b12_6 : List Stmt) (_ : b12_6 = fnB (inT 12 6)) (s12_6 : Scope) (_ : s12_6 = fnS (inT 12 6))
    (a12_7 : Arguments) (_ : a12_7 = fnA (inT 12 7)) (b12_7 : List Stmt) (_ : b12_7 = fnB (inT 12 7)) (s12_7 : Scope) (_ : s12_7 = fnS (inT 12 7))
    (a12_8 : Arguments) (_ : a12_8 = fnA (inT 12 8)) (b12_8 : List Stmt) (_ : b12_8 = fnB (inT 12 8)) (s12_8 : Scope) (_ : s12_8 = fnS (inT 12 8))
    (a12_9 : Arguments) (_ : a12_9 = fnA (inT 12 9)) (b12_9 : List Stmt) (_ : b12_9 = fnB (inT 12 9)) (s12_9 : Scope) (_ : s12_9 = fnS (inT 12 9))
    (a12_10 : Arguments) (_ : a12_10 = fnA (inT 12 10)) (b12_10 : List Stmt) (_ : b12_10 = fnB (inT 12 10)) (s12_10 : Scope) (_ : s12_10 = fnS (inT 12 10))
    (a12_11 : Arguments) (_ : a12_11 = fnA (inT 12 11)) (b12_11 : List Stmt) (_ : b12_11 = fnB (inT 12 11)) (s12_11 : Scope) (_ : s12_11 = fnS (inT 12 11))
    (a12_12 : Arguments) (_ : a12_12 = fnA (inT 12 12)) (b12_12 : List Stmt) (_ : b12_12 = fnB (inT 12 12)) (s12_12 : Scope) (_ : s12_12 = fnS (inT 12 12))
    (a12_13 : Arguments) (_ : a12_13 = fnA (inT 12 13)) (b12_13 : List Stmt) (_ : b12_13 = fnB (inT 12 13)) (s12_13 : Scope) (_ : s12_13 = fnS (inT 12 13))
    (a12_14 : Arguments) (_ : a12_14 = fnA (inT 12 14)) (b12_14 : List Stmt) (_ : b12_14 = fnB (inT 12 14)) (s12_14 : Scope) (_ : s12_14 = fnS (inT 12 14))
    (a12_15 : Arguments) (_ : a12_15 = fnA (inT 12 15)) (b12_15 : List Stmt) (_ : b12_15 = fnB (inT 12 15)) (s12_15 : Scope) (_ : s12_15 = fnS (inT 12 15))
    (a12_16 : Arguments) (_ : a12_16 = fnA (inT 12 16)) (b12_16 : List Stmt) (_ : b12_16 = fnB (inT 12 16)) (s12_16 : Scope) (_ : s12_16 = fnS (inT 12 16))
    (a12_17 : Arguments) (_ : a12_17 = fnA (inT 12 17)) (b12_17 : List Stmt) (_ : b12_17 = fnB (inT 12 17)) (s12_17 : Scope) (_ : s12_17 = fnS (inT 12 17))
    (a12_18 : Arguments) (_ : a12_18 = fnA (inT 12 18)) (b12_18 : List Stmt) (_ : b12_18 = fnB (inT 12 18)) (s12_18 : Scope) (_ : s12_18 = fnS (inT 12 18))
    (a12_19 : Arguments) (_ : a12_19 = fnA (inT 12 19)) (b12_19 : List Stmt) (_ : b12_19 = fnB (inT 12 19)) (s12_19 : Scope) (_ : s12_19 = fnS (inT 12 19))
    (a12_20 : Arguments) (_ : a12_20 = fnA (inT 12 20)) (b12_20 : List Stmt) (_ : b12_20 = fnB (inT 12 20)) (s12_20 : Scope) (_ : s12_20 = fnS (inT 12 20))
    (a12_21 : Arguments) (_ : a12_21 = fnA (inT 12 21)) (b12_21 : List Stmt) (_ : b12_21 = fnB (inT 12 21)) (s12_21 : Scope) (_ : s12_21 = fnS (inT 12 21))
    (a12_22 : Arguments) (_ : a12_22 = fnA (inT 12 22)) (b12_22 : List Stmt) (_ : b12_22 = fnB (inT 12 22)) (s12_22 : Scope) (_ : s12_22 = fnS (inT 12 22))
    (a12_23 : Arguments) (_ : a12_23 = fnA (inT 12 23)) (b12_23 : List Stmt) (_ : b12_23 = fnB (inT 12 23)) (s12_23 : Scope) (_ : s12_23 = fnS (inT 12 23))
    (a12_24 : Arguments) (_ : a12_24 = fnA (inT 12 24)) (b12_24 : List Stmt) (_ : b12_24 = fnB (inT 12 24)) (s12_24 : Scope) (_ : s12_24 = fnS (inT 12 24))
    (a12_25 : Arguments) (_ : a12_25 = fnA (inT 12 25)) (b12_25 : List Stmt) (_ : b12_25 = fnB (inT 12 25)) (s12_25 : Scope) (_ : s12_25 = fnS (inT 12 25))
    (a12_26 : Arguments) (_ : a12_26 = fnA (inT 12 26)) (b12_26 : List Stmt) (_ : b12_26 = fnB (inT 12 26)) (s12_26 : Scope) (_ : s12_26 = fnS (inT 12 26))
    (a12_27 : Arguments) (_ : a12_27 = fnA (inT 12 27)) (b12_27 : List Stmt) (_ : b12_27 = fnB (inT 12 27)) (s12_27 : Scope) (_ : s12_27 = fnS (inT 12 27))
    (a12_28 : Arguments) (_ : a12_28 = fnA (inT 12 28)) (b12_28 : List Stmt) (_ : b12_28 = fnB (inT 12 28)) (s12_28 : Scope) (_ : s12_28 = fnS (inT 12 28))
    (a12_29 : Arguments) (_ : a12_29 = fnA (inT 12 29)) (b12_29 : List Stmt) (_ : b12_29 = fnB (inT 12 29)) (s12_29 : Scope) (_ : s12_29 = fnS (inT 12 29))
    (a12_30 : Arguments) (_ : a12_30 = fnA (inT 12 30)) (b12_30 : List Stmt) (_ : b12_30 = fnB (inT 12 30)) (s12_30 : Scope) (_ : s12_30 = fnS (inT 12 30))
    (a12_31 : Arguments) (_ : a12_31 = fnA (inT 12 31)) (b12_31 : List Stmt) (_ : b12_31 = fnB (inT 12 31)) (s12_31 : Scope) (_ : s12_31 = fnS (inT 12 31))
    (a12_32 : Arguments) (_ : a12_32 = fnA (inT 12 32)) (b12_32 : List Stmt) (_ : b12_32 = fnB (inT 12 32)) (s12_32 : Scope) (_ : s12_32 = fnS (inT 12 32))
    (a14 : Arguments) (_ : a14 = fnA (topT 14)) (b14 : List Stmt) (_ : b14 = fnB (topT 14)) (s14 : Scope) (_ : s14 = fnS (topT 14))
    (a16 : Arguments) (_ : a16 = fnA (topT 16)) (b16 : List Stmt) (_ : b16 = fnB (topT 16)) (s16 : Scope) (_ : s16 = fnS (topT 16)), Params → Frag) _ ?_ _ ?_ _ ?_ _ ?_ _ ?_ _ ?_ _ ?_ _ ?_ _ ?_ _ ?_ _ ?_ _ ?_ _ ?_ _ ?_ _ ?_ _ ?_ _ ?_ _ ?_ _ ?_ _ ?_ _ ?_ _ ?_ _ ?_ _ ?_ _ ?_ _ ?_ _ ?_ _ ?_ _ ?_ _ ?_ _ ?_ _ ?_ _ ?_ _ ?_ _ ?_ _ ?_ _ ?_ _ ?_ _ ?_ _ ?_ _ ?_ _ ?_ _ ?_ _ ?_ _ ?_ _ ?_ _ ?_ _ ?_ _ ?_ _ ?_ _ ?_ _ ?_ _ ?_ _ ?_ _ ?_ _ ?_ _ ?_ _ ?_ _ ?_ _ ?_ _ ?_ _ ?_ _ ?_ _ ?_ _ ?_ _ ?_ _ ?_ _ ?_ _ ?_ _ ?_ _ ?_ _ ?_ _ ?_ _ ?_ _ ?_ _ ?_ _ ?_ _ ?_ _ ?_ _ ?_ _ ?_ _ ?_ _ ?_ _ ?_ _ ?_ _ ?_ _ ?_ _ ?_ _ ?_ _ ?_ _ ?_ _ ?_ _ ?_ _ ?_ _ ?_ _ ?_ _ ?_ _ ?_ _ ?_ _ ?_ _ ?_ _ ?_ _ ?_ _ ?_ _ ?_ _ ?_ _ ?_ _ ?_ _ ?_ _ ?_ _ ?_ _ ?_ _ ?_ _ ?_ _ ?_ _ ?_ _ ?_ _ ?_ _ ?_ _ ?_ _ ?_ _ ?_ _ ?_ _ ?_ _ ?_ _ ?_ _ ?_ _ ?_ _ ?_ _ ?_ _ ?_ _ ?_ _ ?_ _ ?_ _ ?_ _ ?_ _ ?_ _ ?_ _ ?_ _ ?_ _ ?_ _ ?_ _ ?_ _ ?_ _ ?_ _ ?_ _ ?_ _ ?_ _ ?_ _ ?_ _ ?_ _ ?_ _ ?_ _ ?_ _ ?_ _ ?_ _ ?_ _ ?_ _ ?_ _ ?_ _ ?_ _ ?_ _ ?_ _ ?_ _ ?_ _ ?_ _ ?_ _ ?_ _ ?_ _ ?_ _ ?_ _ ?_ _ ?_ _ ?_ _ ?_ _ ?_ _ ?_ _ ?_ _ ?_ _ ?_ _ ?_ _ ?_ _ ?_ _ ?_ _ ?_ _ ?_ _ ?_ _ ?_ _ ?_ _ ?_ _ ?_ _ ?_ _ ?_ _ ?_ _ ?_ _ ?_ _ ?_ _ ?_ _ ?_ _ ?_ _ ?_ _ ?_ _ ?_ _ ?_ _ ?_ _ ?_ _ ?_ _ ?_ _ ?_ _ ?_ _ ?_ _ ?_ _ ?_ _ ?_ _ ?_ _ ?_
  case f =>
    intro a0 _ b0 _ s0 _ a2_0 _ b2_0 _ s2_0 _ a2_1 _ b2_1 _ s2_1 _ a2_2 _ b2_2 _ s2_2 _ a3 _ b3 _ s3 _ a5 _ b5 _ s5 _ a6 _ b6 _ s6 _ a8_1 _ b8_1 _ s8_1 _ a11_1 _ b11_1 _ s11_1 _ a11_2 _ b11_2 _ s11_2 _ a11_3 _ b11_3 _ s11_3 _ a11_4 _ b11_4 _ s11_4 _ a11_5 _ b11_5 _ s11_5 _ a11_6 _ b11_6 _ s11_6 _ a11_7 _ b11_7 _ s11_7 _ a11_8 _ b11_8 _ s11_8 _ a11_9 _ b11_9 _ s11_9 _ a11_10 _ b11_10 _ s11_10 _ a11_11 _ b11_11 _ s11_11 _ a11_12 _ b11_12 _ s11_12 _ a11_13 _ b11_13 _ s11_13 _ a11_14 _ b11_14 _ s11_14 _ a11_15 _ b11_15 _ s11_15 _ a11_16 _ b11_16 _ s11_16 _ a11_17 _ b11_17 _ s11_17 _ a11_18 _ b11_18 _ s11_18 _ a11_19 _ b11_19 _ s11_19 _ a11_20 _ b11_20 _ s11_20 _ a11_21 _ b11_21 _ s11_21 _ a11_22 _ b11_22 _ s11_22 _ a11_23 _ b11_23 _ s11_23 _ a11_24 _ b11_24 _ s11_24 _ a11_25 _ b11_25 _ s11_25 _ a11_26 _ b11_26 _ s11_26 _ a11_27 _ b11_27 _ s11_27 _ a11_28 _ b11_28 _ s11_28 _ a11_29 _ b11_29 _ s11_29 _ a11_30 _ b11_30 _ s11_30 _ a12_1 _ b12_1 _ s12_1 _ a12_2 _ b12_2 _ s12_2 _ a12_3 _ b12_3 _ s12_3 _ a12_4 _ b12_4 _ s12_4 _ a12_5 _ b12_5 _ s12_5 _ a12_6 _ b12_6 _ s12_6 _ a12_7 _ b12_7 _ s12_7 _ a12_8 _ b12_8 _ s12_8 _ a12_9 _ b12_9 _ s12_9 _ a12_10 _ b12_10 _ s12_10 _ a12_11 _ b12_11 _ s12_11 _ a12_12 _ b12_12 _ s12_12 _ a12_13 _ b12_13 _ s12_13 _ a12_14 _ b12_14 _ s12_14 _ a12_15 _ b12_15 _ s12_15 _ a12_16 _ b12_16 _ s12_16 _ a12_17 _ b12_17 _ s12_17 _ a12_18 _ b12_18 _ s12_18 _ a12_19 _ b12_19 _ s12_19 _ a12_20 _ b12_20 _ s12_20 _ a12_21 _ b12_21 _ s12_21 _ a12_22 _ b12_22 _ s12_22 _ a12_23 _ b12_23 _ s12_23 _ a12_24 _ b12_24 _ s12_24 _ a12_25 _ b12_25 _ s12_25 _ a12_26 _ b12_26 _ s12_26 _ a12_27 _ b12_27 _ s12_27 _ a12_28 _ b12_28 _ s12_28 _ a12_29 _ b12_29 _ s12_29 _ a12_30 _ b12_30 _ s12_30 _ a12_31 _ b12_31 _ s12_31 _ a12_32 _ b12_32 _ s12_32 _ a14 _ b14 _ s14 _ a16 _ b16 _ s16 _
    intro P
    exact (((nat_lit 2), ⟨.none, none, (.dict #[⟨(PyData.keyHash P "type.__subclasses__.OSError.0"), (.str "type.__subclasses__.OSError.0" 287), (.int 88 0)⟩, ⟨(PyData.keyHash P "type.__subclasses__.OSError.n"), (.str "type.__subclasses__.OSError.n" 288), (.int 1 0)⟩] 2), #[]⟩) ::
      ((nat_lit 3), ⟨(.type "dict"), none, (.dict (List.toArray (⟨(PyData.keyHash P "__name__"), (.str "__name__" 165), (.str "law_kn0093_01" 917)⟩ :: ⟨(PyData.keyHash P "__doc__"), (.str "__doc__" 166), .none⟩ :: ⟨(PyData.keyHash P "__package__"), (.str "__package__" 167), .none⟩ :: ⟨(PyData.keyHash P "__loader__"), (.str "__loader__" 168), (.builtin "__main__.__loader__#opaque")⟩ :: ⟨(PyData.keyHash P "__spec__"), (.str "__spec__" 169), .none⟩ :: ⟨(PyData.keyHash P "__annotations__"), (.str "__annotations__" 170), (.ref 6)⟩ :: ⟨(PyData.keyHash P "__builtins__"), (.str "__builtins__" 171), (.ref 4)⟩ :: ⟨(PyData.keyHash P "__file__"), (.str "__file__" 173), (.str "/claim/cut.py" 172)⟩ :: ⟨(PyData.keyHash P "__cached__"), (.str "__cached__" 174), .none⟩ :: ⟨(PyData.keyHash P "_wall"), (.str "_wall" 193), (.ref 21)⟩ :: ⟨(PyData.keyHash P "FileWrapper"), (.str "FileWrapper" 243), (.ref 53)⟩ :: ⟨(PyData.keyHash P "guess_scheme"), (.str "guess_scheme" 250), (.ref 64)⟩ :: ⟨(PyData.keyHash P "_whence"), (.str "_whence" 260), (.ref 71)⟩ :: ⟨(PyData.keyHash P "_index"), (.str "_index" 268), (.ref 78)⟩ :: ⟨(PyData.keyHash P "UnsupportedOperation"), (.str "UnsupportedOperation" 290), (.ref 88)⟩ :: ⟨(PyData.keyHash P "IOBase"), (.str "IOBase" 322), (.ref 108)⟩ :: ⟨(PyData.keyHash P "BufferedIOBase"), (.str "BufferedIOBase" 340), (.ref 123)⟩ :: ⟨(PyData.keyHash P "TextIOBase"), (.str "TextIOBase" 358), (.ref 135)⟩ :: ⟨(PyData.keyHash P "BytesIO"), (.str "BytesIO" 620), (.ref 365)⟩ :: ⟨(PyData.keyHash P "StringIO"), (.str "StringIO" 907), (.ref 612)⟩ :: ⟨(PyData.keyHash P "setup_testing_defaults"), (.str "setup_testing_defaults" 916), (.ref 621)⟩ :: ⟨(PyData.keyHash P "law"), (.str "law" 924), (.ref 626)⟩ :: [])) 22), #[]⟩) ::
      ((nat_lit 15), ⟨(.type "tuple"), none, (.seq #[] 0), #[]⟩) ::
      ((nat_lit 17), ⟨(.type "tuple"), none, (.seq #[(.str "k" 190)] 0), #[]⟩) ::
      ((nat_lit 18), ⟨(.type "tuple"), none, (.seq #[] 0), #[]⟩) ::
      ((nat_lit 20), ⟨(.type "code"), none, (.fields (List.toArray ((.str "_wall" 187) :: (.str "_wall" 188) :: (.str "/claim/cut.py" 189) :: (.int 1 0) :: (.int 1 0) :: (.int 0 0) :: (.int 0 0) :: (.int 3 0) :: (.ref 15) :: (.bool true) :: (.int 181 0) :: (.ref 16) :: .none :: (.ref 17) :: (.ref 18) :: (.ref 19) :: (.int 191 0) :: (.int 1 0) :: (.str "/claim/cut.py" 192) :: []))), #[]⟩) ::
      ((nat_lit 21), ⟨(.type "function"), none, (.func ⟨"_wall", "_wall", a0, (.stmts b0), s0, 3, [], .none, .none, .none, (.str "__main__" 164), none, (.ref 20), .none, 0⟩), #[]⟩) ::
      ((nat_lit 29), ⟨(.type "tuple"), none, (.seq #[(.int 8192 208)] 0), #[]⟩) ::
      ((nat_lit 30), ⟨(.type "tuple"), none, (.seq #[] 0), #[]⟩) ::
      ((nat_lit 32), ⟨(.type "tuple"), none, (.seq #[(.str "self" 212), (.str "filelike" 213), (.str "blksize" 214)] 0), #[]⟩) ::
      ((nat_lit 33), ⟨(.type "tuple"), none, (.seq #[] 0), #[]⟩) ::
      ((nat_lit 35), ⟨(.type "code"), none, (.fields (List.toArray ((.str "__init__" 209) :: (.str "FileWrapper.__init__" 210) :: (.str "/claim/cut.py" 211) :: (.int 7 0) :: (.int 3 0) :: (.int 0 0) :: (.int 0 0) :: (.int 3 0) :: (.ref 30) :: (.bool true) :: (.int 181 0) :: (.ref 31) :: .none :: (.ref 32) :: (.ref 33) :: (.ref 34) :: (.int 215 0) :: (.int 7 0) :: (.str "/claim/cut.py" 216) :: []))), #[]⟩) ::
      ((nat_lit 36), ⟨(.type "function"), none, (.func ⟨"__init__", "FileWrapper.__init__", a2_0, (.stmts b2_0), s2_0, 3, [], (.ref 29), .none, .none, (.str "cpy313.wsgiref.util" 194), none, (.ref 35), .none, 0⟩), #[]⟩) ::
      ((nat_lit 37), ⟨(.type "tuple"), none, (.seq #[] 0), #[]⟩) ::
      ((nat_lit 39), ⟨(.type "tuple"), none, (.seq #[(.str "self" 221)] 0), #[]⟩) ::
      ((nat_lit 40), ⟨(.type "tuple"), none, (.seq #[] 0), #[]⟩) ::
      ((nat_lit 42), ⟨(.type "code"), none, (.fields (List.toArray ((.str "__iter__" 218) :: (.str "FileWrapper.__iter__" 219) :: (.str "/claim/cut.py" 220) :: (.int 13 0) :: (.int 1 0) :: (.int 0 0) :: (.int 0 0) :: (.int 3 0) :: (.ref 37) :: (.bool true) :: (.int 181 0) :: (.ref 38) :: .none :: (.ref 39) :: (.ref 40) :: (.ref 41) :: (.int 222 0) :: (.int 13 0) :: (.str "/claim/cut.py" 223) :: []))), #[]⟩) ::
      ((nat_lit 43), ⟨(.type "function"), none, (.func ⟨"__iter__", "FileWrapper.__iter__", a2_1, (.stmts b2_1), s2_1, 3, [], .none, .none, .none, (.str "cpy313.wsgiref.util" 194), none, (.ref 42), .none, 0⟩), #[]⟩) ::
      ((nat_lit 44), ⟨(.type "tuple"), none, (.seq #[] 0), #[]⟩) ::
      ((nat_lit 46), ⟨(.type "tuple"), none, (.seq #[(.str "self" 228), (.str "data" 229)] 0), #[]⟩) ::
      ((nat_lit 47), ⟨(.type "tuple"), none, (.seq #[] 0), #[]⟩) ::
      ((nat_lit 49), ⟨(.type "code"), none, (.fields (List.toArray ((.str "__next__" 225) :: (.str "FileWrapper.__next__" 226) :: (.str "/claim/cut.py" 227) :: (.int 16 0) :: (.int 1 0) :: (.int 0 0) :: (.int 0 0) :: (.int 3 0) :: (.ref 44) :: (.bool true) :: (.int 181 0) :: (.ref 45) :: .none :: (.ref 46) :: (.ref 47) :: (.ref 48) :: (.int 230 0) :: (.int 16 0) :: (.str "/claim/cut.py" 231) :: []))), #[]⟩) ::
      ((nat_lit 50), ⟨(.type "function"), none, (.func ⟨"__next__", "FileWrapper.__next__", a2_2, (.stmts b2_2), s2_2, 3, [], .none, .none, .none, (.str "cpy313.wsgiref.util" 194), none, (.ref 49), .none, 0⟩), #[]⟩) ::
      ((nat_lit 51), ⟨(.type "tuple"), none, (.seq #[(.str "blksize" 233), (.str "close" 234), (.str "filelike" 235)] 0), #[]⟩) ::
      ((nat_lit 52), ⟨(.type "dict"), none, (.dict #[⟨(PyData.keyHash P "__module__"), (.str "__module__" 203), (.str "cpy313.wsgiref.util" 194)⟩, ⟨(PyData.keyHash P "__firstlineno__"), (.str "__firstlineno__" 207), (.int 5 206)⟩, ⟨(PyData.keyHash P "__init__"), (.str "__init__" 217), (.ref 36)⟩, ⟨(PyData.keyHash P "__iter__"), (.str "__iter__" 224), (.ref 43)⟩, ⟨(PyData.keyHash P "__next__"), (.str "__next__" 232), (.ref 50)⟩, ⟨(PyData.keyHash P "__static_attributes__"), (.str "__static_attributes__" 236), (.ref 51)⟩, ⟨(PyData.keyHash P "__dict__"), (.str "__dict__" 238), (.ref 54)⟩, ⟨(PyData.keyHash P "__weakref__"), (.str "__weakref__" 240), (.ref 55)⟩, ⟨(PyData.keyHash P "__doc__"), (.str "__doc__" 241), .none⟩] 4), #[]⟩) ::
      ((nat_lit 53), ⟨(.type "type"), none, (.cls ⟨"FileWrapper", [(.type "object")], [(.ref 53), (.type "object")], 52, "FileWrapper", true, [], [], false, none, false⟩), #[none, none, (some (.str "FileWrapper" 196)), (some (.str "FileWrapper" 204)), (some (.builtin "object.__new__")), (some (.bool true))]⟩) ::
      ((nat_lit 54), ⟨(.type "getset_descriptor"), none, (.fields #[(.str "__dict__" 237), (.ref 53), (.builtin "function.__dict__"), (.builtin "function.__dict__#set")]), #[]⟩) ::
      ((nat_lit 55), ⟨(.type "getset_descriptor"), none, (.fields #[(.str "__weakref__" 239), (.ref 53), (.builtin "ExceptionGroup.__weakref__"), .none]), #[]⟩) ::
      ((nat_lit 58), ⟨(.type "tuple"), none, (.seq #[] 0), #[]⟩) ::
      ((nat_lit 60), ⟨(.type "tuple"), none, (.seq #[(.str "environ" 247)] 0), #[]⟩) ::
      ((nat_lit 61), ⟨(.type "tuple"), none, (.seq #[] 0), #[]⟩) ::
      ((nat_lit 63), ⟨(.type "code"), none, (.fields (List.toArray ((.str "guess_scheme" 244) :: (.str "guess_scheme" 245) :: (.str "/claim/cut.py" 246) :: (.int 21 0) :: (.int 1 0) :: (.int 0 0) :: (.int 0 0) :: (.int 3 0) :: (.ref 58) :: (.bool true) :: (.int 181 0) :: (.ref 59) :: .none :: (.ref 60) :: (.ref 61) :: (.ref 62) :: (.int 248 0) :: (.int 21 0) :: (.str "/claim/cut.py" 249) :: []))), #[]⟩) ::
      ((nat_lit 64), ⟨(.type "function"), none, (.func ⟨"guess_scheme", "guess_scheme", a3, (.stmts b3), s3, 3, [], .none, .none, .none, (.str "cpy313.wsgiref.util" 194), none, (.ref 63), .none, 0⟩), #[]⟩) ::
      ((nat_lit 65), ⟨(.type "tuple"), none, (.seq #[] 0), #[]⟩) ::
      ((nat_lit 67), ⟨(.type "tuple"), none, (.seq #[(.str "n" 256), (.str "what" 257)] 0), #[]⟩) ::
      ((nat_lit 68), ⟨(.type "tuple"), none, (.seq #[] 0), #[]⟩) ::
      ((nat_lit 70), ⟨(.type "code"), none, (.fields (List.toArray ((.str "_whence" 253) :: (.str "_whence" 254) :: (.str "/claim/cut.py" 255) :: (.int 27 0) :: (.int 2 0) :: (.int 0 0) :: (.int 0 0) :: (.int 3 0) :: (.ref 65) :: (.bool true) :: (.int 181 0) :: (.ref 66) :: .none :: (.ref 67) :: (.ref 68) :: (.ref 69) :: (.int 258 0) :: (.int 27 0) :: (.str "/claim/cut.py" 259) :: []))), #[]⟩) ::
      ((nat_lit 71), ⟨(.type "function"), none, (.func ⟨"_whence", "_whence", a5, (.stmts b5), s5, 3, [], .none, .none, .none, (.str "io" 251), none, (.ref 70), .none, 0⟩), #[]⟩) ::
      ((nat_lit 72), ⟨(.type "tuple"), none, (.seq #[] 0), #[]⟩) ::
      ((nat_lit 74), ⟨(.type "tuple"), none, (.seq #[(.str "n" 264), (.str "what" 265)] 0), #[]⟩) ::
      ((nat_lit 75), ⟨(.type "tuple"), none, (.seq #[] 0), #[]⟩) ::
      ((nat_lit 77), ⟨(.type "code"), none, (.fields (List.toArray ((.str "_index" 261) :: (.str "_index" 262) :: (.str "/claim/cut.py" 263) :: (.int 32 0) :: (.int 2 0) :: (.int 0 0) :: (.int 0 0) :: (.int 3 0) :: (.ref 72) :: (.bool true) :: (.int 181 0) :: (.ref 73) :: .none :: (.ref 74) :: (.ref 75) :: (.ref 76) :: (.int 266 0) :: (.int 32 0) :: (.str "/claim/cut.py" 267) :: []))), #[]⟩) ::
      ((nat_lit 78), ⟨(.type "function"), none, (.func ⟨"_index", "_index", a6, (.stmts b6), s6, 3, [], .none, .none, .none, (.str "io" 251), none, (.ref 77), .none, 0⟩), #[]⟩) ::
      ((nat_lit 79), ⟨(.type "tuple"), none, (.seq #[(.type "OSError"), (.type "ValueError")] 0), #[]⟩) ::
      ((nat_lit 86), ⟨(.type "tuple"), none, (.seq #[] 0), #[]⟩) ::
      ((nat_lit 87), ⟨(.type "dict"), none, (.dict #[⟨(PyData.keyHash P "__module__"), (.str "__module__" 276), (.str "io" 281)⟩, ⟨(PyData.keyHash P "__firstlineno__"), (.str "__firstlineno__" 280), (.int 39 279)⟩, ⟨(PyData.keyHash P "__static_attributes__"), (.str "__static_attributes__" 283), (.ref 86)⟩, ⟨(PyData.keyHash P "__weakref__"), (.str "__weakref__" 285), (.ref 89)⟩, ⟨(PyData.keyHash P "__doc__"), (.str "__doc__" 286), .none⟩] 3), #[]⟩) ::
      ((nat_lit 88), ⟨(.type "type"), none, (.cls ⟨"UnsupportedOperation", [(.type "OSError"), (.type "ValueError")], [(.ref 88), (.type "OSError"), (.type "ValueError"), (.type "Exception"), (.type "BaseException"), (.type "object")], 87, "UnsupportedOperation", true, [], [], false, none, false⟩), #[(some (.ref 79)), none, (some (.str "UnsupportedOperation" 269)), (some (.str "UnsupportedOperation" 277)), (some (.builtin "OSError.__new__")), (some (.bool true))]⟩) ::
      ((nat_lit 89), ⟨(.type "getset_descriptor"), none, (.fields #[(.str "__weakref__" 284), (.ref 88), (.builtin "ExceptionGroup.__weakref__"), .none]), #[]⟩) ::
      ((nat_lit 99), ⟨(.type "tuple"), none, (.seq #[] 0), #[]⟩) ::
      ((nat_lit 101), ⟨(.type "tuple"), none, (.seq #[(.str "cls" 308), (.str "args" 309), (.str "kwargs" 310)] 0), #[]⟩) ::
      ((nat_lit 102), ⟨(.type "tuple"), none, (.seq #[] 0), #[]⟩) ::
      ((nat_lit 104), ⟨(.type "code"), none, (.fields (List.toArray ((.str "__new__" 305) :: (.str "IOBase.__new__" 306) :: (.str "/claim/cut.py" 307) :: (.int 44 0) :: (.int 1 0) :: (.int 1 0) :: (.int 0 0) :: (.int 15 0) :: (.ref 99) :: (.bool true) :: (.int 181 0) :: (.ref 100) :: .none :: (.ref 101) :: (.ref 102) :: (.ref 103) :: (.int 311 0) :: (.int 44 0) :: (.str "/claim/cut.py" 312) :: []))), #[]⟩) ::
      ((nat_lit 105), ⟨(.type "function"), none, (.func ⟨"__new__", "IOBase.__new__", a8_1, (.stmts b8_1), s8_1, 3, [], .none, .none, .none, (.str "io" 251), none, (.ref 104), .none, 0⟩), #[]⟩) ::
      ((nat_lit 106), ⟨(.type "tuple"), none, (.seq #[] 0), #[]⟩) ::
      ((nat_lit 107), ⟨(.type "dict"), none, (.dict #[⟨(PyData.keyHash P "__module__"), (.str "__module__" 298), (.str "io" 303)⟩, ⟨(PyData.keyHash P "__firstlineno__"), (.str "__firstlineno__" 302), (.int 41 301)⟩, ⟨(PyData.keyHash P "__new__"), (.str "__new__" 313), (.ref 109)⟩, ⟨(PyData.keyHash P "__static_attributes__"), (.str "__static_attributes__" 314), (.ref 106)⟩, ⟨(PyData.keyHash P "__dict__"), (.str "__dict__" 317), (.ref 110)⟩, ⟨(PyData.keyHash P "__weakref__"), (.str "__weakref__" 319), (.ref 111)⟩, ⟨(PyData.keyHash P "__doc__"), (.str "__doc__" 320), .none⟩] 4), #[]⟩) ::
      ((nat_lit 108), ⟨(.type "type"), none, (.cls ⟨"IOBase", [(.type "object")], [(.ref 108), (.type "object")], 107, "IOBase", true, [], [(.ref 123), (.ref 135)], false, none, false⟩), #[none, none, (some (.str "IOBase" 291)), (some (.str "IOBase" 299)), (some .none), (some (.bool true))]⟩) ::
      ((nat_lit 109), ⟨(.type "staticmethod"), none, (.fields #[(.ref 105)]), #[]⟩) ::
      ((nat_lit 110), ⟨(.type "getset_descriptor"), none, (.fields #[(.str "__dict__" 316), (.ref 108), (.builtin "function.__dict__"), (.builtin "function.__dict__#set")]), #[]⟩) ::
      ((nat_lit 111), ⟨(.type "getset_descriptor"), none, (.fields #[(.str "__weakref__" 318), (.ref 108), (.builtin "ExceptionGroup.__weakref__"), .none]), #[]⟩) ::
      ((nat_lit 114), ⟨(.type "tuple"), none, (.seq #[(.ref 108)] 0), #[]⟩) ::
      ((nat_lit 121), ⟨(.type "tuple"), none, (.seq #[] 0), #[]⟩) ::
      ((nat_lit 122), ⟨(.type "dict"), none, (.dict #[⟨(PyData.keyHash P "__module__"), (.str "__module__" 330), (.str "io" 335)⟩, ⟨(PyData.keyHash P "__firstlineno__"), (.str "__firstlineno__" 334), (.int 48 333)⟩, ⟨(PyData.keyHash P "__static_attributes__"), (.str "__static_attributes__" 337), (.ref 121)⟩, ⟨(PyData.keyHash P "__doc__"), (.str "__doc__" 338), .none⟩] 2), #[]⟩) ::
      ((nat_lit 123), ⟨(.type "type"), none, (.cls ⟨"BufferedIOBase", [(.ref 108)], [(.ref 123), (.ref 108), (.type "object")], 122, "BufferedIOBase", true, [], [(.ref 365)], false, none, false⟩), #[(some (.ref 114)), none, (some (.str "BufferedIOBase" 323)), (some (.str "BufferedIOBase" 331)), (some .none), (some (.bool true))]⟩) ::
      ((nat_lit 126), ⟨(.type "tuple"), none, (.seq #[(.ref 108)] 0), #[]⟩) ::
      ((nat_lit 133), ⟨(.type "tuple"), none, (.seq #[] 0), #[]⟩) ::
      ((nat_lit 134), ⟨(.type "dict"), none, (.dict #[⟨(PyData.keyHash P "__module__"), (.str "__module__" 348), (.str "io" 353)⟩, ⟨(PyData.keyHash P "__firstlineno__"), (.str "__firstlineno__" 352), (.int 50 351)⟩, ⟨(PyData.keyHash P "__static_attributes__"), (.str "__static_attributes__" 355), (.ref 133)⟩, ⟨(PyData.keyHash P "__doc__"), (.str "__doc__" 356), .none⟩] 2), #[]⟩) ::
      ((nat_lit 135), ⟨(.type "type"), none, (.cls ⟨"TextIOBase", [(.ref 108)], [(.ref 135), (.ref 108), (.type "object")], 134, "TextIOBase", true, [], [(.ref 612)], false, none, false⟩), #[(some (.ref 126)), none, (some (.str "TextIOBase" 341)), (some (.str "TextIOBase" 349)), (some .none), (some (.bool true))]⟩) ::
      ((nat_lit 138), ⟨(.type "tuple"), none, (.seq #[(.ref 123)] 0), #[]⟩) ::
      ((nat_lit 145), ⟨(.type "tuple"), none, (.seq #[.none] 0), #[]⟩) ::
      ((nat_lit 146), ⟨(.type "tuple"), none, (.seq #[] 0), #[]⟩) ::
      ((nat_lit 148), ⟨(.type "tuple"), none, (.seq #[(.str "self" 376), (.str "initial_bytes" 377)] 0), #[]⟩) ::
      ((nat_lit 149), ⟨(.type "tuple"), none, (.seq #[] 0), #[]⟩) ::
      ((nat_lit 151), ⟨(.type "code"), none, (.fields (List.toArray ((.str "__init__" 373) :: (.str "BytesIO.__init__" 374) :: (.str "/claim/cut.py" 375) :: (.int 55 0) :: (.int 2 0) :: (.int 0 0) :: (.int 0 0) :: (.int 3 0) :: (.ref 146) :: (.bool true) :: (.int 181 0) :: (.ref 147) :: .none :: (.ref 148) :: (.ref 149) :: (.ref 150) :: (.int 378 0) :: (.int 55 0) :: (.str "/claim/cut.py" 379) :: []))), #[]⟩) ::
      ((nat_lit 152), ⟨(.type "function"), none, (.func ⟨"__init__", "BytesIO.__init__", a11_1, (.stmts b11_1), s11_1, 3, [], (.ref 145), .none, .none, (.str "io" 251), none, (.ref 151), .none, 0⟩), #[]⟩) ::
      ((nat_lit 153), ⟨(.type "tuple"), none, (.seq #[] 0), #[]⟩) ::
      ((nat_lit 155), ⟨(.type "tuple"), none, (.seq #[(.str "self" 384)] 0), #[]⟩) ::
      ((nat_lit 156), ⟨(.type "tuple"), none, (.seq #[] 0), #[]⟩) ::
      ((nat_lit 158), ⟨(.type "code"), none, (.fields (List.toArray ((.str "__check" 381) :: (.str "BytesIO.__check" 382) :: (.str "/claim/cut.py" 383) :: (.int 61 0) :: (.int 1 0) :: (.int 0 0) :: (.int 0 0) :: (.int 3 0) :: (.ref 153) :: (.bool true) :: (.int 181 0) :: (.ref 154) :: .none :: (.ref 155) :: (.ref 156) :: (.ref 157) :: (.int 385 0) :: (.int 61 0) :: (.str "/claim/cut.py" 386) :: []))), #[]⟩) ::
      ((nat_lit 159), ⟨(.type "function"), none, (.func ⟨"__check", "BytesIO.__check", a11_2, (.stmts b11_2), s11_2, 3, [], .none, .none, .none, (.str "io" 251), none, (.ref 158), .none, 0⟩), #[]⟩) ::
      ((nat_lit 160), ⟨(.type "tuple"), none, (.seq #[] 0), #[]⟩) ::
      ((nat_lit 162), ⟨(.type "tuple"), none, (.seq #[(.str "self" 391), (.str "limit" 392), (.str "start" 393), (.str "stop" 394), (.str "i" 395)] 0), #[]⟩) ::
      ((nat_lit 163), ⟨(.type "tuple"), none, (.seq #[] 0), #[]⟩) ::
      ((nat_lit 165), ⟨(.type "code"), none, (.fields (List.toArray ((.str "__line" 388) :: (.str "BytesIO.__line" 389) :: (.str "/claim/cut.py" 390) :: (.int 65 0) :: (.int 2 0) :: (.int 0 0) :: (.int 0 0) :: (.int 3 0) :: (.ref 160) :: (.bool true) :: (.int 181 0) :: (.ref 161) :: .none :: (.ref 162) :: (.ref 163) :: (.ref 164) :: (.int 396 0) :: (.int 65 0) :: (.str "/claim/cut.py" 397) :: []))), #[]⟩) ::
      ((nat_lit 166), ⟨(.type "function"), none, (.func ⟨"__line", "BytesIO.__line", a11_3, (.stmts b11_3), s11_3, 3, [], .none, .none, .none, (.str "io" 251), none, (.ref 165), .none, 0⟩), #[]⟩) ::
      ((nat_lit 167), ⟨(.type "tuple"), none, (.seq #[] 0), #[]⟩) ::
      ((nat_lit 169), ⟨(.type "tuple"), none, (.seq #[(.str "self" 402)] 0), #[]⟩) ::
      ((nat_lit 170), ⟨(.type "tuple"), none, (.seq #[] 0), #[]⟩) ::
      ((nat_lit 172), ⟨(.type "code"), none, (.fields (List.toArray ((.str "closed" 399) :: (.str "BytesIO.closed" 400) :: (.str "/claim/cut.py" 401) :: (.int 78 0) :: (.int 1 0) :: (.int 0 0) :: (.int 0 0) :: (.int 3 0) :: (.ref 167) :: (.bool true) :: (.int 181 0) :: (.ref 168) :: .none :: (.ref 169) :: (.ref 170) :: (.ref 171) :: (.int 403 0) :: (.int 78 0) :: (.str "/claim/cut.py" 404) :: []))), #[]⟩) ::
      ((nat_lit 173), ⟨(.type "function"), none, (.func ⟨"closed", "BytesIO.closed", a11_4, (.stmts b11_4), s11_4, 3, [], .none, .none, .none, (.str "io" 251), none, (.ref 172), .none, 0⟩), #[]⟩) ::
      ((nat_lit 174), ⟨(.type "property"), none, (.fields #[(.ref 173), .none, .none, .none, (.str "closed" 406), (.bool false)]), #[]⟩) ::
      ((nat_lit 175), ⟨(.type "tuple"), none, (.seq #[] 0), #[]⟩) ::
      ((nat_lit 177), ⟨(.type "tuple"), none, (.seq #[(.str "self" 410)] 0), #[]⟩) ::
      ((nat_lit 178), ⟨(.type "tuple"), none, (.seq #[] 0), #[]⟩) ::
      ((nat_lit 180), ⟨(.type "code"), none, (.fields (List.toArray ((.str "close" 407) :: (.str "BytesIO.close" 408) :: (.str "/claim/cut.py" 409) :: (.int 82 0) :: (.int 1 0) :: (.int 0 0) :: (.int 0 0) :: (.int 3 0) :: (.ref 175) :: (.bool true) :: (.int 181 0) :: (.ref 176) :: .none :: (.ref 177) :: (.ref 178) :: (.ref 179) :: (.int 411 0) :: (.int 82 0) :: (.str "/claim/cut.py" 412) :: []))), #[]⟩) ::
      ((nat_lit 181), ⟨(.type "function"), none, (.func ⟨"close", "BytesIO.close", a11_5, (.stmts b11_5), s11_5, 3, [], .none, .none, .none, (.str "io" 251), none, (.ref 180), .none, 0⟩), #[]⟩) ::
      ((nat_lit 182), ⟨(.type "tuple"), none, (.seq #[] 0), #[]⟩) ::
      ((nat_lit 184), ⟨(.type "tuple"), none, (.seq #[(.str "self" 417)] 0), #[]⟩) ::
      ((nat_lit 185), ⟨(.type "tuple"), none, (.seq #[] 0), #[]⟩) ::
      ((nat_lit 187), ⟨(.type "code"), none, (.fields (List.toArray ((.str "__enter__" 414) :: (.str "BytesIO.__enter__" 415) :: (.str "/claim/cut.py" 416) :: (.int 85 0) :: (.int 1 0) :: (.int 0 0) :: (.int 0 0) :: (.int 3 0) :: (.ref 182) :: (.bool true) :: (.int 181 0) :: (.ref 183) :: .none :: (.ref 184) :: (.ref 185) :: (.ref 186) :: (.int 418 0) :: (.int 85 0) :: (.str "/claim/cut.py" 419) :: []))), #[]⟩) ::
      ((nat_lit 188), ⟨(.type "function"), none, (.func ⟨"__enter__", "BytesIO.__enter__", a11_6, (.stmts b11_6), s11_6, 3, [], .none, .none, .none, (.str "io" 251), none, (.ref 187), .none, 0⟩), #[]⟩) ::
      ((nat_lit 189), ⟨(.type "tuple"), none, (.seq #[] 0), #[]⟩) ::
      ((nat_lit 191), ⟨(.type "tuple"), none, (.seq #[(.str "self" 424), (.str "args" 425)] 0), #[]⟩) ::
      ((nat_lit 192), ⟨(.type "tuple"), none, (.seq #[] 0), #[]⟩) ::
      ((nat_lit 194), ⟨(.type "code"), none, (.fields (List.toArray ((.str "__exit__" 421) :: (.str "BytesIO.__exit__" 422) :: (.str "/claim/cut.py" 423) :: (.int 89 0) :: (.int 1 0) :: (.int 0 0) :: (.int 0 0) :: (.int 7 0) :: (.ref 189) :: (.bool true) :: (.int 181 0) :: (.ref 190) :: .none :: (.ref 191) :: (.ref 192) :: (.ref 193) :: (.int 426 0) :: (.int 89 0) :: (.str "/claim/cut.py" 427) :: []))), #[]⟩) ::
      ((nat_lit 195), ⟨(.type "function"), none, (.func ⟨"__exit__", "BytesIO.__exit__", a11_7, (.stmts b11_7), s11_7, 3, [], .none, .none, .none, (.str "io" 251), none, (.ref 194), .none, 0⟩), #[]⟩) ::
      ((nat_lit 196), ⟨(.type "tuple"), none, (.seq #[] 0), #[]⟩) ::
      ((nat_lit 198), ⟨(.type "tuple"), none, (.seq #[(.str "self" 432)] 0), #[]⟩) ::
      ((nat_lit 199), ⟨(.type "tuple"), none, (.seq #[] 0), #[]⟩) ::
      ((nat_lit 201), ⟨(.type "code"), none, (.fields (List.toArray ((.str "readable" 429) :: (.str "BytesIO.readable" 430) :: (.str "/claim/cut.py" 431) :: (.int 92 0) :: (.int 1 0) :: (.int 0 0) :: (.int 0 0) :: (.int 3 0) :: (.ref 196) :: (.bool true) :: (.int 181 0) :: (.ref 197) :: .none :: (.ref 198) :: (.ref 199) :: (.ref 200) :: (.int 433 0) :: (.int 92 0) :: (.str "/claim/cut.py" 434) :: []))), #[]⟩) ::
      ((nat_lit 202), ⟨(.type "function"), none, (.func ⟨"readable", "BytesIO.readable", a11_8, (.stmts b11_8), s11_8, 3, [], .none, .none, .none, (.str "io" 251), none, (.ref 201), .none, 0⟩), #[]⟩) ::
      ((nat_lit 203), ⟨(.type "tuple"), none, (.seq #[] 0), #[]⟩) ::
      ((nat_lit 205), ⟨(.type "tuple"), none, (.seq #[(.str "self" 439)] 0), #[]⟩) ::
      ((nat_lit 206), ⟨(.type "tuple"), none, (.seq #[] 0), #[]⟩) ::
      ((nat_lit 208), ⟨(.type "code"), none, (.fields (List.toArray ((.str "writable" 436) :: (.str "BytesIO.writable" 437) :: (.str "/claim/cut.py" 438) :: (.int 96 0) :: (.int 1 0) :: (.int 0 0) :: (.int 0 0) :: (.int 3 0) :: (.ref 203) :: (.bool true) :: (.int 181 0) :: (.ref 204) :: .none :: (.ref 205) :: (.ref 206) :: (.ref 207) :: (.int 440 0) :: (.int 96 0) :: (.str "/claim/cut.py" 441) :: []))), #[]⟩) ::
      ((nat_lit 209), ⟨(.type "function"), none, (.func ⟨"writable", "BytesIO.writable", a11_9, (.stmts b11_9), s11_9, 3, [], .none, .none, .none, (.str "io" 251), none, (.ref 208), .none, 0⟩), #[]⟩) ::
      ((nat_lit 210), ⟨(.type "tuple"), none, (.seq #[] 0), #[]⟩) ::
      ((nat_lit 212), ⟨(.type "tuple"), none, (.seq #[(.str "self" 446)] 0), #[]⟩) ::
      ((nat_lit 213), ⟨(.type "tuple"), none, (.seq #[] 0), #[]⟩) ::
      ((nat_lit 215), ⟨(.type "code"), none, (.fields (List.toArray ((.str "seekable" 443) :: (.str "BytesIO.seekable" 444) :: (.str "/claim/cut.py" 445) :: (.int 100 0) :: (.int 1 0) :: (.int 0 0) :: (.int 0 0) :: (.int 3 0) :: (.ref 210) :: (.bool true) :: (.int 181 0) :: (.ref 211) :: .none :: (.ref 212) :: (.ref 213) :: (.ref 214) :: (.int 447 0) :: (.int 100 0) :: (.str "/claim/cut.py" 448) :: []))), #[]⟩) ::
      ((nat_lit 216), ⟨(.type "function"), none, (.func ⟨"seekable", "BytesIO.seekable", a11_10, (.stmts b11_10), s11_10, 3, [], .none, .none, .none, (.str "io" 251), none, (.ref 215), .none, 0⟩), #[]⟩) ::
      ((nat_lit 217), ⟨(.type "tuple"), none, (.seq #[] 0), #[]⟩) ::
      ((nat_lit 219), ⟨(.type "tuple"), none, (.seq #[(.str "self" 453)] 0), #[]⟩) ::
      ((nat_lit 220), ⟨(.type "tuple"), none, (.seq #[] 0), #[]⟩) ::
      ((nat_lit 222), ⟨(.type "code"), none, (.fields (List.toArray ((.str "isatty" 450) :: (.str "BytesIO.isatty" 451) :: (.str "/claim/cut.py" 452) :: (.int 104 0) :: (.int 1 0) :: (.int 0 0) :: (.int 0 0) :: (.int 3 0) :: (.ref 217) :: (.bool true) :: (.int 181 0) :: (.ref 218) :: .none :: (.ref 219) :: (.ref 220) :: (.ref 221) :: (.int 454 0) :: (.int 104 0) :: (.str "/claim/cut.py" 455) :: []))), #[]⟩) ::
      ((nat_lit 223), ⟨(.type "function"), none, (.func ⟨"isatty", "BytesIO.isatty", a11_11, (.stmts b11_11), s11_11, 3, [], .none, .none, .none, (.str "io" 251), none, (.ref 222), .none, 0⟩), #[]⟩) ::
      ((nat_lit 224), ⟨(.type "tuple"), none, (.seq #[] 0), #[]⟩) ::
      ((nat_lit 226), ⟨(.type "tuple"), none, (.seq #[(.str "self" 460)] 0), #[]⟩) ::
      ((nat_lit 227), ⟨(.type "tuple"), none, (.seq #[] 0), #[]⟩) ::
      ((nat_lit 229), ⟨(.type "code"), none, (.fields (List.toArray ((.str "flush" 457) :: (.str "BytesIO.flush" 458) :: (.str "/claim/cut.py" 459) :: (.int 108 0) :: (.int 1 0) :: (.int 0 0) :: (.int 0 0) :: (.int 3 0) :: (.ref 224) :: (.bool true) :: (.int 181 0) :: (.ref 225) :: .none :: (.ref 226) :: (.ref 227) :: (.ref 228) :: (.int 461 0) :: (.int 108 0) :: (.str "/claim/cut.py" 462) :: []))), #[]⟩) ::
      ((nat_lit 230), ⟨(.type "function"), none, (.func ⟨"flush", "BytesIO.flush", a11_12, (.stmts b11_12), s11_12, 3, [], .none, .none, .none, (.str "io" 251), none, (.ref 229), .none, 0⟩), #[]⟩) ::
      ((nat_lit 231), ⟨(.type "tuple"), none, (.seq #[] 0), #[]⟩) ::
      ((nat_lit 233), ⟨(.type "tuple"), none, (.seq #[(.str "self" 467)] 0), #[]⟩) ::
      ((nat_lit 234), ⟨(.type "tuple"), none, (.seq #[] 0), #[]⟩) ::
      ((nat_lit 236), ⟨(.type "code"), none, (.fields (List.toArray ((.str "fileno" 464) :: (.str "BytesIO.fileno" 465) :: (.str "/claim/cut.py" 466) :: (.int 111 0) :: (.int 1 0) :: (.int 0 0) :: (.int 0 0) :: (.int 3 0) :: (.ref 231) :: (.bool true) :: (.int 181 0) :: (.ref 232) :: .none :: (.ref 233) :: (.ref 234) :: (.ref 235) :: (.int 468 0) :: (.int 111 0) :: (.str "/claim/cut.py" 469) :: []))), #[]⟩) ::
      ((nat_lit 237), ⟨(.type "function"), none, (.func ⟨"fileno", "BytesIO.fileno", a11_13, (.stmts b11_13), s11_13, 3, [], .none, .none, .none, (.str "io" 251), none, (.ref 236), .none, 0⟩), #[]⟩) ::
      ((nat_lit 238), ⟨(.type "tuple"), none, (.seq #[] 0), #[]⟩) ::
      ((nat_lit 240), ⟨(.type "tuple"), none, (.seq #[(.str "self" 474)] 0), #[]⟩) ::
      ((nat_lit 241), ⟨(.type "tuple"), none, (.seq #[] 0), #[]⟩) ::
      ((nat_lit 243), ⟨(.type "code"), none, (.fields (List.toArray ((.str "detach" 471) :: (.str "BytesIO.detach" 472) :: (.str "/claim/cut.py" 473) :: (.int 114 0) :: (.int 1 0) :: (.int 0 0) :: (.int 0 0) :: (.int 3 0) :: (.ref 238) :: (.bool true) :: (.int 181 0) :: (.ref 239) :: .none :: (.ref 240) :: (.ref 241) :: (.ref 242) :: (.int 475 0) :: (.int 114 0) :: (.str "/claim/cut.py" 476) :: []))), #[]⟩) ::
      ((nat_lit 244), ⟨(.type "function"), none, (.func ⟨"detach", "BytesIO.detach", a11_14, (.stmts b11_14), s11_14, 3, [], .none, .none, .none, (.str "io" 251), none, (.ref 243), .none, 0⟩), #[]⟩) ::
      ((nat_lit 245), ⟨(.type "tuple"), none, (.seq #[] 0), #[]⟩) ::
      ((nat_lit 247), ⟨(.type "tuple"), none, (.seq #[(.str "self" 481)] 0), #[]⟩) ::
      ((nat_lit 248), ⟨(.type "tuple"), none, (.seq #[] 0), #[]⟩) ::
      ((nat_lit 250), ⟨(.type "code"), none, (.fields (List.toArray ((.str "getvalue" 478) :: (.str "BytesIO.getvalue" 479) :: (.str "/claim/cut.py" 480) :: (.int 117 0) :: (.int 1 0) :: (.int 0 0) :: (.int 0 0) :: (.int 3 0) :: (.ref 245) :: (.bool true) :: (.int 181 0) :: (.ref 246) :: .none :: (.ref 247) :: (.ref 248) :: (.ref 249) :: (.int 482 0) :: (.int 117 0) :: (.str "/claim/cut.py" 483) :: []))), #[]⟩) ::
      ((nat_lit 251), ⟨(.type "function"), none, (.func ⟨"getvalue", "BytesIO.getvalue", a11_15, (.stmts b11_15), s11_15, 3, [], .none, .none, .none, (.str "io" 251), none, (.ref 250), .none, 0⟩), #[]⟩) ::
      ((nat_lit 252), ⟨(.type "tuple"), none, (.seq #[] 0), #[]⟩) ::
      ((nat_lit 254), ⟨(.type "tuple"), none, (.seq #[(.str "self" 488)] 0), #[]⟩) ::
      ((nat_lit 255), ⟨(.type "tuple"), none, (.seq #[] 0), #[]⟩) ::
      ((nat_lit 257), ⟨(.type "code"), none, (.fields (List.toArray ((.str "getbuffer" 485) :: (.str "BytesIO.getbuffer" 486) :: (.str "/claim/cut.py" 487) :: (.int 121 0) :: (.int 1 0) :: (.int 0 0) :: (.int 0 0) :: (.int 3 0) :: (.ref 252) :: (.bool true) :: (.int 181 0) :: (.ref 253) :: .none :: (.ref 254) :: (.ref 255) :: (.ref 256) :: (.int 489 0) :: (.int 121 0) :: (.str "/claim/cut.py" 490) :: []))), #[]⟩) ::
      ((nat_lit 258), ⟨(.type "function"), none, (.func ⟨"getbuffer", "BytesIO.getbuffer", a11_16, (.stmts b11_16), s11_16, 3, [], .none, .none, .none, (.str "io" 251), none, (.ref 257), .none, 0⟩), #[]⟩) ::
      ((nat_lit 259), ⟨(.type "tuple"), none, (.seq #[] 0), #[]⟩) ::
      ((nat_lit 261), ⟨(.type "tuple"), none, (.seq #[(.str "self" 495)] 0), #[]⟩) ::
      ((nat_lit 262), ⟨(.type "tuple"), none, (.seq #[] 0), #[]⟩) ::
      ((nat_lit 264), ⟨(.type "code"), none, (.fields (List.toArray ((.str "tell" 492) :: (.str "BytesIO.tell" 493) :: (.str "/claim/cut.py" 494) :: (.int 124 0) :: (.int 1 0) :: (.int 0 0) :: (.int 0 0) :: (.int 3 0) :: (.ref 259) :: (.bool true) :: (.int 181 0) :: (.ref 260) :: .none :: (.ref 261) :: (.ref 262) :: (.ref 263) :: (.int 496 0) :: (.int 124 0) :: (.str "/claim/cut.py" 497) :: []))), #[]⟩) ::
      ((nat_lit 265), ⟨(.type "function"), none, (.func ⟨"tell", "BytesIO.tell", a11_17, (.stmts b11_17), s11_17, 3, [], .none, .none, .none, (.str "io" 251), none, (.ref 264), .none, 0⟩), #[]⟩) ::
      ((nat_lit 266), ⟨(.type "tuple"), none, (.seq #[(.int 0 499)] 0), #[]⟩) ::
      ((nat_lit 267), ⟨(.type "tuple"), none, (.seq #[] 0), #[]⟩) ::
      ((nat_lit 269), ⟨(.type "tuple"), none, (.seq #[(.str "self" 503), (.str "pos" 504), (.str "whence" 505)] 0), #[]⟩) ::
      ((nat_lit 270), ⟨(.type "tuple"), none, (.seq #[] 0), #[]⟩) ::
      ((nat_lit 272), ⟨(.type "code"), none, (.fields (List.toArray ((.str "seek" 500) :: (.str "BytesIO.seek" 501) :: (.str "/claim/cut.py" 502) :: (.int 128 0) :: (.int 3 0) :: (.int 3 0) :: (.int 0 0) :: (.int 3 0) :: (.ref 267) :: (.bool true) :: (.int 181 0) :: (.ref 268) :: .none :: (.ref 269) :: (.ref 270) :: (.ref 271) :: (.int 506 0) :: (.int 128 0) :: (.str "/claim/cut.py" 507) :: []))), #[]⟩) ::
      ((nat_lit 273), ⟨(.type "function"), none, (.func ⟨"seek", "BytesIO.seek", a11_18, (.stmts b11_18), s11_18, 3, [], (.ref 266), .none, .none, (.str "io" 251), none, (.ref 272), .none, 0⟩), #[]⟩) ::
      ((nat_lit 274), ⟨(.type "tuple"), none, (.seq #[.none] 0), #[]⟩) ::
      ((nat_lit 275), ⟨(.type "tuple"), none, (.seq #[] 0), #[]⟩) ::
      ((nat_lit 277), ⟨(.type "tuple"), none, (.seq #[(.str "self" 512), (.str "size" 513)] 0), #[]⟩) ::
      ((nat_lit 278), ⟨(.type "tuple"), none, (.seq #[] 0), #[]⟩) ::
      ((nat_lit 280), ⟨(.type "code"), none, (.fields (List.toArray ((.str "truncate" 509) :: (.str "BytesIO.truncate" 510) :: (.str "/claim/cut.py" 511) :: (.int 145 0) :: (.int 2 0) :: (.int 2 0) :: (.int 0 0) :: (.int 3 0) :: (.ref 275) :: (.bool true) :: (.int 181 0) :: (.ref 276) :: .none :: (.ref 277) :: (.ref 278) :: (.ref 279) :: (.int 514 0) :: (.int 145 0) :: (.str "/claim/cut.py" 515) :: []))), #[]⟩) ::
      ((nat_lit 281), ⟨(.type "function"), none, (.func ⟨"truncate", "BytesIO.truncate", a11_19, (.stmts b11_19), s11_19, 3, [], (.ref 274), .none, .none, (.str "io" 251), none, (.ref 280), .none, 0⟩), #[]⟩) ::
      ((nat_lit 282), ⟨(.type "tuple"), none, (.seq #[(.int (-1) 518)] 0), #[]⟩) ::
      ((nat_lit 283), ⟨(.type "tuple"), none, (.seq #[] 0), #[]⟩) ::
      ((nat_lit 285), ⟨(.type "tuple"), none, (.seq #[(.str "self" 522), (.str "size" 523), (.str "start" 524), (.str "stop" 525)] 0), #[]⟩) ::
      ((nat_lit 286), ⟨(.type "tuple"), none, (.seq #[] 0), #[]⟩) ::
      ((nat_lit 288), ⟨(.type "code"), none, (.fields (List.toArray ((.str "read" 519) :: (.str "BytesIO.read" 520) :: (.str "/claim/cut.py" 521) :: (.int 148 0) :: (.int 2 0) :: (.int 2 0) :: (.int 0 0) :: (.int 3 0) :: (.ref 283) :: (.bool true) :: (.int 181 0) :: (.ref 284) :: .none :: (.ref 285) :: (.ref 286) :: (.ref 287) :: (.int 526 0) :: (.int 148 0) :: (.str "/claim/cut.py" 527) :: []))), #[]⟩) ::
      ((nat_lit 289), ⟨(.type "function"), none, (.func ⟨"read", "BytesIO.read", a11_20, (.stmts b11_20), s11_20, 3, [], (.ref 282), .none, .none, (.str "io" 251), none, (.ref 288), .none, 0⟩), #[]⟩) ::
      ((nat_lit 290), ⟨(.type "tuple"), none, (.seq #[(.int (-1) 530)] 0), #[]⟩) ::
      ((nat_lit 291), ⟨(.type "tuple"), none, (.seq #[] 0), #[]⟩) ::
      ((nat_lit 293), ⟨(.type "tuple"), none, (.seq #[(.str "self" 534), (.str "size" 535)] 0), #[]⟩) ::
      ((nat_lit 294), ⟨(.type "tuple"), none, (.seq #[] 0), #[]⟩) ::
      ((nat_lit 296), ⟨(.type "code"), none, (.fields (List.toArray ((.str "read1" 531) :: (.str "BytesIO.read1" 532) :: (.str "/claim/cut.py" 533) :: (.int 162 0) :: (.int 2 0) :: (.int 2 0) :: (.int 0 0) :: (.int 3 0) :: (.ref 291) :: (.bool true) :: (.int 181 0) :: (.ref 292) :: .none :: (.ref 293) :: (.ref 294) :: (.ref 295) :: (.int 536 0) :: (.int 162 0) :: (.str "/claim/cut.py" 537) :: []))), #[]⟩) ::
      ((nat_lit 297), ⟨(.type "function"), none, (.func ⟨"read1", "BytesIO.read1", a11_21, (.stmts b11_21), s11_21, 3, [], (.ref 290), .none, .none, (.str "io" 251), none, (.ref 296), .none, 0⟩), #[]⟩) ::
      ((nat_lit 298), ⟨(.type "tuple"), none, (.seq #[] 0), #[]⟩) ::
      ((nat_lit 300), ⟨(.type "tuple"), none, (.seq #[(.str "self" 542), (.str "buffer" 543), (.str "start" 544), (.str "n" 545)] 0), #[]⟩) ::
      ((nat_lit 301), ⟨(.type "tuple"), none, (.seq #[] 0), #[]⟩) ::
      ((nat_lit 303), ⟨(.type "code"), none, (.fields (List.toArray ((.str "readinto" 539) :: (.str "BytesIO.readinto" 540) :: (.str "/claim/cut.py" 541) :: (.int 165 0) :: (.int 2 0) :: (.int 2 0) :: (.int 0 0) :: (.int 3 0) :: (.ref 298) :: (.bool true) :: (.int 181 0) :: (.ref 299) :: .none :: (.ref 300) :: (.ref 301) :: (.ref 302) :: (.int 546 0) :: (.int 165 0) :: (.str "/claim/cut.py" 547) :: []))), #[]⟩) ::
      ((nat_lit 304), ⟨(.type "function"), none, (.func ⟨"readinto", "BytesIO.readinto", a11_22, (.stmts b11_22), s11_22, 3, [], .none, .none, .none, (.str "io" 251), none, (.ref 303), .none, 0⟩), #[]⟩) ::
      ((nat_lit 305), ⟨(.type "tuple"), none, (.seq #[] 0), #[]⟩) ::
      ((nat_lit 307), ⟨(.type "tuple"), none, (.seq #[(.str "self" 552), (.str "buffer" 553)] 0), #[]⟩) ::
      ((nat_lit 308), ⟨(.type "tuple"), none, (.seq #[] 0), #[]⟩) ::
      ((nat_lit 310), ⟨(.type "code"), none, (.fields (List.toArray ((.str "readinto1" 549) :: (.str "BytesIO.readinto1" 550) :: (.str "/claim/cut.py" 551) :: (.int 179 0) :: (.int 2 0) :: (.int 2 0) :: (.int 0 0) :: (.int 3 0) :: (.ref 305) :: (.bool true) :: (.int 181 0) :: (.ref 306) :: .none :: (.ref 307) :: (.ref 308) :: (.ref 309) :: (.int 554 0) :: (.int 179 0) :: (.str "/claim/cut.py" 555) :: []))), #[]⟩) ::
      ((nat_lit 311), ⟨(.type "function"), none, (.func ⟨"readinto1", "BytesIO.readinto1", a11_23, (.stmts b11_23), s11_23, 3, [], .none, .none, .none, (.str "io" 251), none, (.ref 310), .none, 0⟩), #[]⟩) ::
      ((nat_lit 312), ⟨(.type "tuple"), none, (.seq #[(.int (-1) 558)] 0), #[]⟩) ::
      ((nat_lit 313), ⟨(.type "tuple"), none, (.seq #[] 0), #[]⟩) ::
      ((nat_lit 315), ⟨(.type "tuple"), none, (.seq #[(.str "self" 562), (.str "size" 563)] 0), #[]⟩) ::
      ((nat_lit 316), ⟨(.type "tuple"), none, (.seq #[] 0), #[]⟩) ::
      ((nat_lit 318), ⟨(.type "code"), none, (.fields (List.toArray ((.str "readline" 559) :: (.str "BytesIO.readline" 560) :: (.str "/claim/cut.py" 561) :: (.int 182 0) :: (.int 2 0) :: (.int 2 0) :: (.int 0 0) :: (.int 3 0) :: (.ref 313) :: (.bool true) :: (.int 181 0) :: (.ref 314) :: .none :: (.ref 315) :: (.ref 316) :: (.ref 317) :: (.int 564 0) :: (.int 182 0) :: (.str "/claim/cut.py" 565) :: []))), #[]⟩) ::
      ((nat_lit 319), ⟨(.type "function"), none, (.func ⟨"readline", "BytesIO.readline", a11_24, (.stmts b11_24), s11_24, 3, [], (.ref 312), .none, .none, (.str "io" 251), none, (.ref 318), .none, 0⟩), #[]⟩) ::
      ((nat_lit 320), ⟨(.type "tuple"), none, (.seq #[.none] 0), #[]⟩) ::
      ((nat_lit 321), ⟨(.type "tuple"), none, (.seq #[] 0), #[]⟩) ::
      ((nat_lit 323), ⟨(.type "tuple"), none, (.seq #[(.str "self" 570), (.str "size" 571)] 0), #[]⟩) ::
      ((nat_lit 324), ⟨(.type "tuple"), none, (.seq #[] 0), #[]⟩) ::
      ((nat_lit 326), ⟨(.type "code"), none, (.fields (List.toArray ((.str "readlines" 567) :: (.str "BytesIO.readlines" 568) :: (.str "/claim/cut.py" 569) :: (.int 189 0) :: (.int 2 0) :: (.int 2 0) :: (.int 0 0) :: (.int 3 0) :: (.ref 321) :: (.bool true) :: (.int 181 0) :: (.ref 322) :: .none :: (.ref 323) :: (.ref 324) :: (.ref 325) :: (.int 572 0) :: (.int 189 0) :: (.str "/claim/cut.py" 573) :: []))), #[]⟩) ::
      ((nat_lit 327), ⟨(.type "function"), none, (.func ⟨"readlines", "BytesIO.readlines", a11_25, (.stmts b11_25), s11_25, 3, [], (.ref 320), .none, .none, (.str "io" 251), none, (.ref 326), .none, 0⟩), #[]⟩) ::
      ((nat_lit 328), ⟨(.type "tuple"), none, (.seq #[] 0), #[]⟩) ::
      ((nat_lit 330), ⟨(.type "tuple"), none, (.seq #[(.str "self" 578)] 0), #[]⟩) ::
      ((nat_lit 331), ⟨(.type "tuple"), none, (.seq #[] 0), #[]⟩) ::
      ((nat_lit 333), ⟨(.type "code"), none, (.fields (List.toArray ((.str "__iter__" 575) :: (.str "BytesIO.__iter__" 576) :: (.str "/claim/cut.py" 577) :: (.int 192 0) :: (.int 1 0) :: (.int 0 0) :: (.int 0 0) :: (.int 3 0) :: (.ref 328) :: (.bool true) :: (.int 181 0) :: (.ref 329) :: .none :: (.ref 330) :: (.ref 331) :: (.ref 332) :: (.int 579 0) :: (.int 192 0) :: (.str "/claim/cut.py" 580) :: []))), #[]⟩) ::
      ((nat_lit 334), ⟨(.type "function"), none, (.func ⟨"__iter__", "BytesIO.__iter__", a11_26, (.stmts b11_26), s11_26, 3, [], .none, .none, .none, (.str "io" 251), none, (.ref 333), .none, 0⟩), #[]⟩) ::
      ((nat_lit 335), ⟨(.type "tuple"), none, (.seq #[] 0), #[]⟩) ::
      ((nat_lit 337), ⟨(.type "tuple"), none, (.seq #[(.str "self" 585), (.str "line" 586)] 0), #[]⟩) ::
      ((nat_lit 338), ⟨(.type "tuple"), none, (.seq #[] 0), #[]⟩) ::
      ((nat_lit 340), ⟨(.type "code"), none, (.fields (List.toArray ((.str "__next__" 582) :: (.str "BytesIO.__next__" 583) :: (.str "/claim/cut.py" 584) :: (.int 195 0) :: (.int 1 0) :: (.int 0 0) :: (.int 0 0) :: (.int 3 0) :: (.ref 335) :: (.bool true) :: (.int 181 0) :: (.ref 336) :: .none :: (.ref 337) :: (.ref 338) :: (.ref 339) :: (.int 587 0) :: (.int 195 0) :: (.str "/claim/cut.py" 588) :: []))), #[]⟩) ::
      ((nat_lit 341), ⟨(.type "function"), none, (.func ⟨"__next__", "BytesIO.__next__", a11_27, (.stmts b11_27), s11_27, 3, [], .none, .none, .none, (.str "io" 251), none, (.ref 340), .none, 0⟩), #[]⟩) ::
      ((nat_lit 342), ⟨(.type "tuple"), none, (.seq #[] 0), #[]⟩) ::
      ((nat_lit 344), ⟨(.type "tuple"), none, (.seq #[(.str "self" 593), (.str "b" 594), (.str "n" 595), (.str "start" 596)] 0), #[]⟩) ::
      ((nat_lit 345), ⟨(.type "tuple"), none, (.seq #[] 0), #[]⟩) ::
      ((nat_lit 347), ⟨(.type "code"), none, (.fields (List.toArray ((.str "write" 590) :: (.str "BytesIO.write" 591) :: (.str "/claim/cut.py" 592) :: (.int 202 0) :: (.int 2 0) :: (.int 2 0) :: (.int 0 0) :: (.int 3 0) :: (.ref 342) :: (.bool true) :: (.int 181 0) :: (.ref 343) :: .none :: (.ref 344) :: (.ref 345) :: (.ref 346) :: (.int 597 0) :: (.int 202 0) :: (.str "/claim/cut.py" 598) :: []))), #[]⟩) ::
      ((nat_lit 348), ⟨(.type "function"), none, (.func ⟨"write", "BytesIO.write", a11_28, (.stmts b11_28), s11_28, 3, [], .none, .none, .none, (.str "io" 251), none, (.ref 347), .none, 0⟩), #[]⟩) ::
      ((nat_lit 349), ⟨(.type "tuple"), none, (.seq #[] 0), #[]⟩) ::
      ((nat_lit 351), ⟨(.type "tuple"), none, (.seq #[(.str "self" 603), (.str "lines" 604)] 0), #[]⟩) ::
      ((nat_lit 352), ⟨(.type "tuple"), none, (.seq #[] 0), #[]⟩) ::
      ((nat_lit 354), ⟨(.type "code"), none, (.fields (List.toArray ((.str "writelines" 600) :: (.str "BytesIO.writelines" 601) :: (.str "/claim/cut.py" 602) :: (.int 218 0) :: (.int 2 0) :: (.int 2 0) :: (.int 0 0) :: (.int 3 0) :: (.ref 349) :: (.bool true) :: (.int 181 0) :: (.ref 350) :: .none :: (.ref 351) :: (.ref 352) :: (.ref 353) :: (.int 605 0) :: (.int 218 0) :: (.str "/claim/cut.py" 606) :: []))), #[]⟩) ::
      ((nat_lit 355), ⟨(.type "function"), none, (.func ⟨"writelines", "BytesIO.writelines", a11_29, (.stmts b11_29), s11_29, 3, [], .none, .none, .none, (.str "io" 251), none, (.ref 354), .none, 0⟩), #[]⟩) ::
      ((nat_lit 356), ⟨(.type "tuple"), none, (.seq #[] 0), #[]⟩) ::
      ((nat_lit 358), ⟨(.type "tuple"), none, (.seq #[(.str "self" 611)] 0), #[]⟩) ::
      ((nat_lit 359), ⟨(.type "tuple"), none, (.seq #[] 0), #[]⟩) ::
      ((nat_lit 361), ⟨(.type "code"), none, (.fields (List.toArray ((.str "__repr__" 608) :: (.str "BytesIO.__repr__" 609) :: (.str "/claim/cut.py" 610) :: (.int 221 0) :: (.int 1 0) :: (.int 0 0) :: (.int 0 0) :: (.int 3 0) :: (.ref 356) :: (.bool true) :: (.int 181 0) :: (.ref 357) :: .none :: (.ref 358) :: (.ref 359) :: (.ref 360) :: (.int 612 0) :: (.int 221 0) :: (.str "/claim/cut.py" 613) :: []))), #[]⟩) ::
      ((nat_lit 362), ⟨(.type "function"), none, (.func ⟨"__repr__", "BytesIO.__repr__", a11_30, (.stmts b11_30), s11_30, 3, [], .none, .none, .none, (.str "io" 251), none, (.ref 361), .none, 0⟩), #[]⟩) ::
      ((nat_lit 363), ⟨(.type "tuple"), none, (.seq #[(.str "__buf" 615), (.str "__pos" 616)] 0), #[]⟩) ::
      ((nat_lit 364), ⟨(.type "dict"), none, (.dict (List.toArray (⟨(PyData.keyHash P "__module__"), (.str "__module__" 366), (.str "_io" 371)⟩ :: ⟨(PyData.keyHash P "__firstlineno__"), (.str "__firstlineno__" 370), (.int 52 369)⟩ :: ⟨(PyData.keyHash P "__init__"), (.str "__init__" 380), (.ref 152)⟩ :: ⟨(PyData.keyHash P "_BytesIO__check"), (.str "_BytesIO__check" 387), (.ref 159)⟩ :: ⟨(PyData.keyHash P "_BytesIO__line"), (.str "_BytesIO__line" 398), (.ref 166)⟩ :: ⟨(PyData.keyHash P "closed"), (.str "closed" 406), (.ref 174)⟩ :: ⟨(PyData.keyHash P "close"), (.str "close" 413), (.ref 181)⟩ :: ⟨(PyData.keyHash P "__enter__"), (.str "__enter__" 420), (.ref 188)⟩ :: ⟨(PyData.keyHash P "__exit__"), (.str "__exit__" 428), (.ref 195)⟩ :: ⟨(PyData.keyHash P "readable"), (.str "readable" 435), (.ref 202)⟩ :: ⟨(PyData.keyHash P "writable"), (.str "writable" 442), (.ref 209)⟩ :: ⟨(PyData.keyHash P "seekable"), (.str "seekable" 449), (.ref 216)⟩ :: ⟨(PyData.keyHash P "isatty"), (.str "isatty" 456), (.ref 223)⟩ :: ⟨(PyData.keyHash P "flush"), (.str "flush" 463), (.ref 230)⟩ :: ⟨(PyData.keyHash P "fileno"), (.str "fileno" 470), (.ref 237)⟩ :: ⟨(PyData.keyHash P "detach"), (.str "detach" 477), (.ref 244)⟩ :: ⟨(PyData.keyHash P "getvalue"), (.str "getvalue" 484), (.ref 251)⟩ :: ⟨(PyData.keyHash P "getbuffer"), (.str "getbuffer" 491), (.ref 258)⟩ :: ⟨(PyData.keyHash P "tell"), (.str "tell" 498), (.ref 265)⟩ :: ⟨(PyData.keyHash P "seek"), (.str "seek" 508), (.ref 273)⟩ :: ⟨(PyData.keyHash P "truncate"), (.str "truncate" 516), (.ref 281)⟩ :: ⟨(PyData.keyHash P "read"), (.str "read" 528), (.ref 289)⟩ :: ⟨(PyData.keyHash P "read1"), (.str "read1" 538), (.ref 297)⟩ :: ⟨(PyData.keyHash P "readinto"), (.str "readinto" 548), (.ref 304)⟩ :: ⟨(PyData.keyHash P "readinto1"), (.str "readinto1" 556), (.ref 311)⟩ :: ⟨(PyData.keyHash P "readline"), (.str "readline" 566), (.ref 319)⟩ :: ⟨(PyData.keyHash P "readlines"), (.str "readlines" 574), (.ref 327)⟩ :: ⟨(PyData.keyHash P "__iter__"), (.str "__iter__" 581), (.ref 334)⟩ :: ⟨(PyData.keyHash P "__next__"), (.str "__next__" 589), (.ref 341)⟩ :: ⟨(PyData.keyHash P "write"), (.str "write" 599), (.ref 348)⟩ :: ⟨(PyData.keyHash P "writelines"), (.str "writelines" 607), (.ref 355)⟩ :: ⟨(PyData.keyHash P "__repr__"), (.str "__repr__" 614), (.ref 362)⟩ :: ⟨(PyData.keyHash P "__static_attributes__"), (.str "__static_attributes__" 617), (.ref 363)⟩ :: ⟨(PyData.keyHash P "__doc__"), (.str "__doc__" 618), .none⟩ :: [])) 2), #[]⟩) ::
      ((nat_lit 365), ⟨(.type "type"), none, (.cls ⟨"BytesIO", [(.ref 123)], [(.ref 365), (.ref 123), (.ref 108), (.type "object")], 364, "BytesIO", true, [], [], false, none, false⟩), #[(some (.ref 138)), none, (some (.str "BytesIO" 359)), (some (.str "BytesIO" 367)), (some .none), (some (.bool true))]⟩) ::
      ((nat_lit 368), ⟨(.type "tuple"), none, (.seq #[(.ref 135)] 0), #[]⟩) ::
      ((nat_lit 375), ⟨(.type "tuple"), none, (.seq #[(.str "" 635), (.str "\n" 636)] 0), #[]⟩) ::
      ((nat_lit 376), ⟨(.type "tuple"), none, (.seq #[] 0), #[]⟩) ::
      ((nat_lit 378), ⟨(.type "tuple"), none, (.seq #[(.str "self" 640), (.str "initial_value" 641), (.str "newline" 642)] 0), #[]⟩) ::
      ((nat_lit 379), ⟨(.type "tuple"), none, (.seq #[] 0), #[]⟩) ::
      ((nat_lit 381), ⟨(.type "code"), none, (.fields (List.toArray ((.str "__init__" 637) :: (.str "StringIO.__init__" 638) :: (.str "/claim/cut.py" 639) :: (.int 226 0) :: (.int 3 0) :: (.int 0 0) :: (.int 0 0) :: (.int 3 0) :: (.ref 376) :: (.bool true) :: (.int 181 0) :: (.ref 377) :: .none :: (.ref 378) :: (.ref 379) :: (.ref 380) :: (.int 643 0) :: (.int 226 0) :: (.str "/claim/cut.py" 644) :: []))), #[]⟩) ::
      ((nat_lit 382), ⟨(.type "function"), none, (.func ⟨"__init__", "StringIO.__init__", a12_1, (.stmts b12_1), s12_1, 3, [], (.ref 375), .none, .none, (.str "io" 251), none, (.ref 381), .none, 0⟩), #[]⟩) ::
      ((nat_lit 383), ⟨(.type "tuple"), none, (.seq #[] 0), #[]⟩) ::
      ((nat_lit 385), ⟨(.type "tuple"), none, (.seq #[(.str "self" 649), (.str "s" 650), (.str "newline" 651)] 0), #[]⟩) ::
      ((nat_lit 386), ⟨(.type "tuple"), none, (.seq #[] 0), #[]⟩) ::
      ((nat_lit 388), ⟨(.type "code"), none, (.fields (List.toArray ((.str "__translated" 646) :: (.str "StringIO.__translated" 647) :: (.str "/claim/cut.py" 648) :: (.int 239 0) :: (.int 2 0) :: (.int 0 0) :: (.int 0 0) :: (.int 3 0) :: (.ref 383) :: (.bool true) :: (.int 181 0) :: (.ref 384) :: .none :: (.ref 385) :: (.ref 386) :: (.ref 387) :: (.int 652 0) :: (.int 239 0) :: (.str "/claim/cut.py" 653) :: []))), #[]⟩) ::
      ((nat_lit 389), ⟨(.type "function"), none, (.func ⟨"__translated", "StringIO.__translated", a12_2, (.stmts b12_2), s12_2, 3, [], .none, .none, .none, (.str "io" 251), none, (.ref 388), .none, 0⟩), #[]⟩) ::
      ((nat_lit 390), ⟨(.type "tuple"), none, (.seq #[] 0), #[]⟩) ::
      ((nat_lit 392), ⟨(.type "tuple"), none, (.seq #[(.str "self" 658)] 0), #[]⟩) ::
      ((nat_lit 393), ⟨(.type "tuple"), none, (.seq #[] 0), #[]⟩) ::
      ((nat_lit 395), ⟨(.type "code"), none, (.fields (List.toArray ((.str "__check" 655) :: (.str "StringIO.__check" 656) :: (.str "/claim/cut.py" 657) :: (.int 247 0) :: (.int 1 0) :: (.int 0 0) :: (.int 0 0) :: (.int 3 0) :: (.ref 390) :: (.bool true) :: (.int 181 0) :: (.ref 391) :: .none :: (.ref 392) :: (.ref 393) :: (.ref 394) :: (.int 659 0) :: (.int 247 0) :: (.str "/claim/cut.py" 660) :: []))), #[]⟩) ::
      ((nat_lit 396), ⟨(.type "function"), none, (.func ⟨"__check", "StringIO.__check", a12_3, (.stmts b12_3), s12_3, 3, [], .none, .none, .none, (.str "io" 251), none, (.ref 395), .none, 0⟩), #[]⟩) ::
      ((nat_lit 397), ⟨(.type "tuple"), none, (.seq #[] 0), #[]⟩) ::
      ((nat_lit 399), ⟨(.type "tuple"), none, (.seq #[(.str "self" 665)] 0), #[]⟩) ::
      ((nat_lit 400), ⟨(.type "tuple"), none, (.seq #[] 0), #[]⟩) ::
      ((nat_lit 402), ⟨(.type "code"), none, (.fields (List.toArray ((.str "__check_dot" 662) :: (.str "StringIO.__check_dot" 663) :: (.str "/claim/cut.py" 664) :: (.int 251 0) :: (.int 1 0) :: (.int 0 0) :: (.int 0 0) :: (.int 3 0) :: (.ref 397) :: (.bool true) :: (.int 181 0) :: (.ref 398) :: .none :: (.ref 399) :: (.ref 400) :: (.ref 401) :: (.int 666 0) :: (.int 251 0) :: (.str "/claim/cut.py" 667) :: []))), #[]⟩) ::
      ((nat_lit 403), ⟨(.type "function"), none, (.func ⟨"__check_dot", "StringIO.__check_dot", a12_4, (.stmts b12_4), s12_4, 3, [], .none, .none, .none, (.str "io" 251), none, (.ref 402), .none, 0⟩), #[]⟩) ::
      ((nat_lit 404), ⟨(.type "tuple"), none, (.seq #[] 0), #[]⟩) ::
      ((nat_lit 406), ⟨(.type "tuple"), none, (.seq #[(.str "self" 672), (.str "limit" 673), (.str "start" 674), (.str "stop" 675), (.str "cut" 676), (.str "newline" 677), (.str "i" 678), (.str "j" 679), (.str "end" 680)] 0), #[]⟩) ::
      ((nat_lit 407), ⟨(.type "tuple"), none, (.seq #[] 0), #[]⟩) ::
      ((nat_lit 409), ⟨(.type "code"), none, (.fields (List.toArray ((.str "__line" 669) :: (.str "StringIO.__line" 670) :: (.str "/claim/cut.py" 671) :: (.int 255 0) :: (.int 2 0) :: (.int 0 0) :: (.int 0 0) :: (.int 3 0) :: (.ref 404) :: (.bool true) :: (.int 181 0) :: (.ref 405) :: .none :: (.ref 406) :: (.ref 407) :: (.ref 408) :: (.int 681 0) :: (.int 255 0) :: (.str "/claim/cut.py" 682) :: []))), #[]⟩) ::
      ((nat_lit 410), ⟨(.type "function"), none, (.func ⟨"__line", "StringIO.__line", a12_5, (.stmts b12_5), s12_5, 3, [], .none, .none, .none, (.str "io" 251), none, (.ref 409), .none, 0⟩), #[]⟩) ::
      ((nat_lit 411), ⟨(.type "tuple"), none, (.seq #[] 0), #[]⟩) ::
      ((nat_lit 413), ⟨(.type "tuple"), none, (.seq #[(.str "self" 687)] 0), #[]⟩) ::
      ((nat_lit 414), ⟨(.type "tuple"), none, (.seq #[] 0), #[]⟩) ::
      ((nat_lit 416), ⟨(.type "code"), none, (.fields (List.toArray ((.str "closed" 684) :: (.str "StringIO.closed" 685) :: (.str "/claim/cut.py" 686) :: (.int 287 0) :: (.int 1 0) :: (.int 0 0) :: (.int 0 0) :: (.int 3 0) :: (.ref 411) :: (.bool true) :: (.int 181 0) :: (.ref 412) :: .none :: (.ref 413) :: (.ref 414) :: (.ref 415) :: (.int 688 0) :: (.int 287 0) :: (.str "/claim/cut.py" 689) :: []))), #[]⟩) ::
      ((nat_lit 417), ⟨(.type "function"), none, (.func ⟨"closed", "StringIO.closed", a12_6, (.stmts b12_6), s12_6, 3, [], .none, .none, .none, (.str "io" 251), none, (.ref 416), .none, 0⟩), #[]⟩) ::
      ((nat_lit 418), ⟨(.type "property"), none, (.fields #[(.ref 417), .none, .none, .none, (.str "closed" 691), (.bool false)]), #[]⟩) ::
      ((nat_lit 419), ⟨(.type "tuple"), none, (.seq #[] 0), #[]⟩) ::
      ((nat_lit 421), ⟨(.type "tuple"), none, (.seq #[(.str "self" 695)] 0), #[]⟩) ::
      ((nat_lit 422), ⟨(.type "tuple"), none, (.seq #[] 0), #[]⟩) ::
      ((nat_lit 424), ⟨(.type "code"), none, (.fields (List.toArray ((.str "line_buffering" 692) :: (.str "StringIO.line_buffering" 693) :: (.str "/claim/cut.py" 694) :: (.int 291 0) :: (.int 1 0) :: (.int 0 0) :: (.int 0 0) :: (.int 3 0) :: (.ref 419) :: (.bool true) :: (.int 181 0) :: (.ref 420) :: .none :: (.ref 421) :: (.ref 422) :: (.ref 423) :: (.int 696 0) :: (.int 291 0) :: (.str "/claim/cut.py" 697) :: []))), #[]⟩) ::
      ((nat_lit 425), ⟨(.type "function"), none, (.func ⟨"line_buffering", "StringIO.line_buffering", a12_7, (.stmts b12_7), s12_7, 3, [], .none, .none, .none, (.str "io" 251), none, (.ref 424), .none, 0⟩), #[]⟩) ::
      ((nat_lit 426), ⟨(.type "property"), none, (.fields #[(.ref 425), .none, .none, .none, (.str "line_buffering" 699), (.bool false)]), #[]⟩) ::
      ((nat_lit 427), ⟨(.type "tuple"), none, (.seq #[] 0), #[]⟩) ::
      ((nat_lit 429), ⟨(.type "tuple"), none, (.seq #[(.str "self" 703)] 0), #[]⟩) ::
      ((nat_lit 430), ⟨(.type "tuple"), none, (.seq #[] 0), #[]⟩) ::
      ((nat_lit 432), ⟨(.type "code"), none, (.fields (List.toArray ((.str "newlines" 700) :: (.str "StringIO.newlines" 701) :: (.str "/claim/cut.py" 702) :: (.int 295 0) :: (.int 1 0) :: (.int 0 0) :: (.int 0 0) :: (.int 3 0) :: (.ref 427) :: (.bool true) :: (.int 181 0) :: (.ref 428) :: .none :: (.ref 429) :: (.ref 430) :: (.ref 431) :: (.int 704 0) :: (.int 295 0) :: (.str "/claim/cut.py" 705) :: []))), #[]⟩) ::
      ((nat_lit 433), ⟨(.type "function"), none, (.func ⟨"newlines", "StringIO.newlines", a12_8, (.stmts b12_8), s12_8, 3, [], .none, .none, .none, (.str "io" 251), none, (.ref 432), .none, 0⟩), #[]⟩) ::
      ((nat_lit 434), ⟨(.type "property"), none, (.fields #[(.ref 433), .none, .none, .none, (.str "newlines" 707), (.bool false)]), #[]⟩) ::
      ((nat_lit 435), ⟨(.type "tuple"), none, (.seq #[] 0), #[]⟩) ::
      ((nat_lit 437), ⟨(.type "tuple"), none, (.seq #[(.str "self" 711)] 0), #[]⟩) ::
      ((nat_lit 438), ⟨(.type "tuple"), none, (.seq #[] 0), #[]⟩) ::
      ((nat_lit 440), ⟨(.type "code"), none, (.fields (List.toArray ((.str "encoding" 708) :: (.str "StringIO.encoding" 709) :: (.str "/claim/cut.py" 710) :: (.int 299 0) :: (.int 1 0) :: (.int 0 0) :: (.int 0 0) :: (.int 3 0) :: (.ref 435) :: (.bool true) :: (.int 181 0) :: (.ref 436) :: .none :: (.ref 437) :: (.ref 438) :: (.ref 439) :: (.int 712 0) :: (.int 299 0) :: (.str "/claim/cut.py" 713) :: []))), #[]⟩) ::
      ((nat_lit 441), ⟨(.type "function"), none, (.func ⟨"encoding", "StringIO.encoding", a12_9, (.stmts b12_9), s12_9, 3, [], .none, .none, .none, (.str "io" 251), none, (.ref 440), .none, 0⟩), #[]⟩) ::
      ((nat_lit 442), ⟨(.type "property"), none, (.fields #[(.ref 441), .none, .none, .none, (.str "encoding" 715), (.bool false)]), #[]⟩) ::
      ((nat_lit 443), ⟨(.type "tuple"), none, (.seq #[] 0), #[]⟩) ::
      ((nat_lit 445), ⟨(.type "tuple"), none, (.seq #[(.str "self" 719)] 0), #[]⟩) ::
      ((nat_lit 446), ⟨(.type "tuple"), none, (.seq #[] 0), #[]⟩) ::
      ((nat_lit 448), ⟨(.type "code"), none, (.fields (List.toArray ((.str "errors" 716) :: (.str "StringIO.errors" 717) :: (.str "/claim/cut.py" 718) :: (.int 303 0) :: (.int 1 0) :: (.int 0 0) :: (.int 0 0) :: (.int 3 0) :: (.ref 443) :: (.bool true) :: (.int 181 0) :: (.ref 444) :: .none :: (.ref 445) :: (.ref 446) :: (.ref 447) :: (.int 720 0) :: (.int 303 0) :: (.str "/claim/cut.py" 721) :: []))), #[]⟩) ::
      ((nat_lit 449), ⟨(.type "function"), none, (.func ⟨"errors", "StringIO.errors", a12_10, (.stmts b12_10), s12_10, 3, [], .none, .none, .none, (.str "io" 251), none, (.ref 448), .none, 0⟩), #[]⟩) ::
      ((nat_lit 450), ⟨(.type "property"), none, (.fields #[(.ref 449), .none, .none, .none, (.str "errors" 723), (.bool false)]), #[]⟩) ::
      ((nat_lit 451), ⟨(.type "tuple"), none, (.seq #[] 0), #[]⟩) ::
      ((nat_lit 453), ⟨(.type "tuple"), none, (.seq #[(.str "self" 727)] 0), #[]⟩) ::
      ((nat_lit 454), ⟨(.type "tuple"), none, (.seq #[] 0), #[]⟩) ::
      ((nat_lit 456), ⟨(.type "code"), none, (.fields (List.toArray ((.str "close" 724) :: (.str "StringIO.close" 725) :: (.str "/claim/cut.py" 726) :: (.int 307 0) :: (.int 1 0) :: (.int 0 0) :: (.int 0 0) :: (.int 3 0) :: (.ref 451) :: (.bool true) :: (.int 181 0) :: (.ref 452) :: .none :: (.ref 453) :: (.ref 454) :: (.ref 455) :: (.int 728 0) :: (.int 307 0) :: (.str "/claim/cut.py" 729) :: []))), #[]⟩) ::
      ((nat_lit 457), ⟨(.type "function"), none, (.func ⟨"close", "StringIO.close", a12_11, (.stmts b12_11), s12_11, 3, [], .none, .none, .none, (.str "io" 251), none, (.ref 456), .none, 0⟩), #[]⟩) ::
      ((nat_lit 458), ⟨(.type "tuple"), none, (.seq #[] 0), #[]⟩) ::
      ((nat_lit 460), ⟨(.type "tuple"), none, (.seq #[(.str "self" 734)] 0), #[]⟩) ::
      ((nat_lit 461), ⟨(.type "tuple"), none, (.seq #[] 0), #[]⟩) ::
      ((nat_lit 463), ⟨(.type "code"), none, (.fields (List.toArray ((.str "__enter__" 731) :: (.str "StringIO.__enter__" 732) :: (.str "/claim/cut.py" 733) :: (.int 310 0) :: (.int 1 0) :: (.int 0 0) :: (.int 0 0) :: (.int 3 0) :: (.ref 458) :: (.bool true) :: (.int 181 0) :: (.ref 459) :: .none :: (.ref 460) :: (.ref 461) :: (.ref 462) :: (.int 735 0) :: (.int 310 0) :: (.str "/claim/cut.py" 736) :: []))), #[]⟩) ::
      ((nat_lit 464), ⟨(.type "function"), none, (.func ⟨"__enter__", "StringIO.__enter__", a12_12, (.stmts b12_12), s12_12, 3, [], .none, .none, .none, (.str "io" 251), none, (.ref 463), .none, 0⟩), #[]⟩) ::
      ((nat_lit 465), ⟨(.type "tuple"), none, (.seq #[] 0), #[]⟩) ::
      ((nat_lit 467), ⟨(.type "tuple"), none, (.seq #[(.str "self" 741), (.str "args" 742)] 0), #[]⟩) ::
      ((nat_lit 468), ⟨(.type "tuple"), none, (.seq #[] 0), #[]⟩) ::
      ((nat_lit 470), ⟨(.type "code"), none, (.fields (List.toArray ((.str "__exit__" 738) :: (.str "StringIO.__exit__" 739) :: (.str "/claim/cut.py" 740) :: (.int 314 0) :: (.int 1 0) :: (.int 0 0) :: (.int 0 0) :: (.int 7 0) :: (.ref 465) :: (.bool true) :: (.int 181 0) :: (.ref 466) :: .none :: (.ref 467) :: (.ref 468) :: (.ref 469) :: (.int 743 0) :: (.int 314 0) :: (.str "/claim/cut.py" 744) :: []))), #[]⟩) ::
      ((nat_lit 471), ⟨(.type "function"), none, (.func ⟨"__exit__", "StringIO.__exit__", a12_13, (.stmts b12_13), s12_13, 3, [], .none, .none, .none, (.str "io" 251), none, (.ref 470), .none, 0⟩), #[]⟩) ::
      ((nat_lit 472), ⟨(.type "tuple"), none, (.seq #[] 0), #[]⟩) ::
      ((nat_lit 474), ⟨(.type "tuple"), none, (.seq #[(.str "self" 749)] 0), #[]⟩) ::
      ((nat_lit 475), ⟨(.type "tuple"), none, (.seq #[] 0), #[]⟩) ::
      ((nat_lit 477), ⟨(.type "code"), none, (.fields (List.toArray ((.str "readable" 746) :: (.str "StringIO.readable" 747) :: (.str "/claim/cut.py" 748) :: (.int 317 0) :: (.int 1 0) :: (.int 0 0) :: (.int 0 0) :: (.int 3 0) :: (.ref 472) :: (.bool true) :: (.int 181 0) :: (.ref 473) :: .none :: (.ref 474) :: (.ref 475) :: (.ref 476) :: (.int 750 0) :: (.int 317 0) :: (.str "/claim/cut.py" 751) :: []))), #[]⟩) ::
      ((nat_lit 478), ⟨(.type "function"), none, (.func ⟨"readable", "StringIO.readable", a12_14, (.stmts b12_14), s12_14, 3, [], .none, .none, .none, (.str "io" 251), none, (.ref 477), .none, 0⟩), #[]⟩) ::
      ((nat_lit 479), ⟨(.type "tuple"), none, (.seq #[] 0), #[]⟩) ::
      ((nat_lit 481), ⟨(.type "tuple"), none, (.seq #[(.str "self" 756)] 0), #[]⟩) ::
      ((nat_lit 482), ⟨(.type "tuple"), none, (.seq #[] 0), #[]⟩) ::
      ((nat_lit 484), ⟨(.type "code"), none, (.fields (List.toArray ((.str "writable" 753) :: (.str "StringIO.writable" 754) :: (.str "/claim/cut.py" 755) :: (.int 321 0) :: (.int 1 0) :: (.int 0 0) :: (.int 0 0) :: (.int 3 0) :: (.ref 479) :: (.bool true) :: (.int 181 0) :: (.ref 480) :: .none :: (.ref 481) :: (.ref 482) :: (.ref 483) :: (.int 757 0) :: (.int 321 0) :: (.str "/claim/cut.py" 758) :: []))), #[]⟩) ::
      ((nat_lit 485), ⟨(.type "function"), none, (.func ⟨"writable", "StringIO.writable", a12_15, (.stmts b12_15), s12_15, 3, [], .none, .none, .none, (.str "io" 251), none, (.ref 484), .none, 0⟩), #[]⟩) ::
      ((nat_lit 486), ⟨(.type "tuple"), none, (.seq #[] 0), #[]⟩) ::
      ((nat_lit 488), ⟨(.type "tuple"), none, (.seq #[(.str "self" 763)] 0), #[]⟩) ::
      ((nat_lit 489), ⟨(.type "tuple"), none, (.seq #[] 0), #[]⟩) ::
      ((nat_lit 491), ⟨(.type "code"), none, (.fields (List.toArray ((.str "seekable" 760) :: (.str "StringIO.seekable" 761) :: (.str "/claim/cut.py" 762) :: (.int 325 0) :: (.int 1 0) :: (.int 0 0) :: (.int 0 0) :: (.int 3 0) :: (.ref 486) :: (.bool true) :: (.int 181 0) :: (.ref 487) :: .none :: (.ref 488) :: (.ref 489) :: (.ref 490) :: (.int 764 0) :: (.int 325 0) :: (.str "/claim/cut.py" 765) :: []))), #[]⟩) ::
      ((nat_lit 492), ⟨(.type "function"), none, (.func ⟨"seekable", "StringIO.seekable", a12_16, (.stmts b12_16), s12_16, 3, [], .none, .none, .none, (.str "io" 251), none, (.ref 491), .none, 0⟩), #[]⟩) ::
      ((nat_lit 493), ⟨(.type "tuple"), none, (.seq #[] 0), #[]⟩) ::
      ((nat_lit 495), ⟨(.type "tuple"), none, (.seq #[(.str "self" 770)] 0), #[]⟩) ::
      ((nat_lit 496), ⟨(.type "tuple"), none, (.seq #[] 0), #[]⟩) ::
      ((nat_lit 498), ⟨(.type "code"), none, (.fields (List.toArray ((.str "isatty" 767) :: (.str "StringIO.isatty" 768) :: (.str "/claim/cut.py" 769) :: (.int 329 0) :: (.int 1 0) :: (.int 0 0) :: (.int 0 0) :: (.int 3 0) :: (.ref 493) :: (.bool true) :: (.int 181 0) :: (.ref 494) :: .none :: (.ref 495) :: (.ref 496) :: (.ref 497) :: (.int 771 0) :: (.int 329 0) :: (.str "/claim/cut.py" 772) :: []))), #[]⟩) ::
      ((nat_lit 499), ⟨(.type "function"), none, (.func ⟨"isatty", "StringIO.isatty", a12_17, (.stmts b12_17), s12_17, 3, [], .none, .none, .none, (.str "io" 251), none, (.ref 498), .none, 0⟩), #[]⟩) ::
      ((nat_lit 500), ⟨(.type "tuple"), none, (.seq #[] 0), #[]⟩) ::
      ((nat_lit 502), ⟨(.type "tuple"), none, (.seq #[(.str "self" 777)] 0), #[]⟩) ::
      ((nat_lit 503), ⟨(.type "tuple"), none, (.seq #[] 0), #[]⟩) ::
      ((nat_lit 505), ⟨(.type "code"), none, (.fields (List.toArray ((.str "flush" 774) :: (.str "StringIO.flush" 775) :: (.str "/claim/cut.py" 776) :: (.int 333 0) :: (.int 1 0) :: (.int 0 0) :: (.int 0 0) :: (.int 3 0) :: (.ref 500) :: (.bool true) :: (.int 181 0) :: (.ref 501) :: .none :: (.ref 502) :: (.ref 503) :: (.ref 504) :: (.int 778 0) :: (.int 333 0) :: (.str "/claim/cut.py" 779) :: []))), #[]⟩) ::
      ((nat_lit 506), ⟨(.type "function"), none, (.func ⟨"flush", "StringIO.flush", a12_18, (.stmts b12_18), s12_18, 3, [], .none, .none, .none, (.str "io" 251), none, (.ref 505), .none, 0⟩), #[]⟩) ::
      ((nat_lit 507), ⟨(.type "tuple"), none, (.seq #[] 0), #[]⟩) ::
      ((nat_lit 509), ⟨(.type "tuple"), none, (.seq #[(.str "self" 784)] 0), #[]⟩) ::
      ((nat_lit 510), ⟨(.type "tuple"), none, (.seq #[] 0), #[]⟩) ::
      ((nat_lit 512), ⟨(.type "code"), none, (.fields (List.toArray ((.str "fileno" 781) :: (.str "StringIO.fileno" 782) :: (.str "/claim/cut.py" 783) :: (.int 336 0) :: (.int 1 0) :: (.int 0 0) :: (.int 0 0) :: (.int 3 0) :: (.ref 507) :: (.bool true) :: (.int 181 0) :: (.ref 508) :: .none :: (.ref 509) :: (.ref 510) :: (.ref 511) :: (.int 785 0) :: (.int 336 0) :: (.str "/claim/cut.py" 786) :: []))), #[]⟩) ::
      ((nat_lit 513), ⟨(.type "function"), none, (.func ⟨"fileno", "StringIO.fileno", a12_19, (.stmts b12_19), s12_19, 3, [], .none, .none, .none, (.str "io" 251), none, (.ref 512), .none, 0⟩), #[]⟩) ::
      ((nat_lit 514), ⟨(.type "tuple"), none, (.seq #[] 0), #[]⟩) ::
      ((nat_lit 516), ⟨(.type "tuple"), none, (.seq #[(.str "self" 791)] 0), #[]⟩) ::
      ((nat_lit 517), ⟨(.type "tuple"), none, (.seq #[] 0), #[]⟩) ::
      ((nat_lit 519), ⟨(.type "code"), none, (.fields (List.toArray ((.str "detach" 788) :: (.str "StringIO.detach" 789) :: (.str "/claim/cut.py" 790) :: (.int 339 0) :: (.int 1 0) :: (.int 0 0) :: (.int 0 0) :: (.int 3 0) :: (.ref 514) :: (.bool true) :: (.int 181 0) :: (.ref 515) :: .none :: (.ref 516) :: (.ref 517) :: (.ref 518) :: (.int 792 0) :: (.int 339 0) :: (.str "/claim/cut.py" 793) :: []))), #[]⟩) ::
      ((nat_lit 520), ⟨(.type "function"), none, (.func ⟨"detach", "StringIO.detach", a12_20, (.stmts b12_20), s12_20, 3, [], .none, .none, .none, (.str "io" 251), none, (.ref 519), .none, 0⟩), #[]⟩) ::
      ((nat_lit 521), ⟨(.type "tuple"), none, (.seq #[] 0), #[]⟩) ::
      ((nat_lit 523), ⟨(.type "tuple"), none, (.seq #[(.str "self" 798)] 0), #[]⟩) ::
      ((nat_lit 524), ⟨(.type "tuple"), none, (.seq #[] 0), #[]⟩) ::
      ((nat_lit 526), ⟨(.type "code"), none, (.fields (List.toArray ((.str "getvalue" 795) :: (.str "StringIO.getvalue" 796) :: (.str "/claim/cut.py" 797) :: (.int 342 0) :: (.int 1 0) :: (.int 0 0) :: (.int 0 0) :: (.int 3 0) :: (.ref 521) :: (.bool true) :: (.int 181 0) :: (.ref 522) :: .none :: (.ref 523) :: (.ref 524) :: (.ref 525) :: (.int 799 0) :: (.int 342 0) :: (.str "/claim/cut.py" 800) :: []))), #[]⟩) ::
      ((nat_lit 527), ⟨(.type "function"), none, (.func ⟨"getvalue", "StringIO.getvalue", a12_21, (.stmts b12_21), s12_21, 3, [], .none, .none, .none, (.str "io" 251), none, (.ref 526), .none, 0⟩), #[]⟩) ::
      ((nat_lit 528), ⟨(.type "tuple"), none, (.seq #[] 0), #[]⟩) ::
      ((nat_lit 530), ⟨(.type "tuple"), none, (.seq #[(.str "self" 805)] 0), #[]⟩) ::
      ((nat_lit 531), ⟨(.type "tuple"), none, (.seq #[] 0), #[]⟩) ::
      ((nat_lit 533), ⟨(.type "code"), none, (.fields (List.toArray ((.str "tell" 802) :: (.str "StringIO.tell" 803) :: (.str "/claim/cut.py" 804) :: (.int 346 0) :: (.int 1 0) :: (.int 0 0) :: (.int 0 0) :: (.int 3 0) :: (.ref 528) :: (.bool true) :: (.int 181 0) :: (.ref 529) :: .none :: (.ref 530) :: (.ref 531) :: (.ref 532) :: (.int 806 0) :: (.int 346 0) :: (.str "/claim/cut.py" 807) :: []))), #[]⟩) ::
      ((nat_lit 534), ⟨(.type "function"), none, (.func ⟨"tell", "StringIO.tell", a12_22, (.stmts b12_22), s12_22, 3, [], .none, .none, .none, (.str "io" 251), none, (.ref 533), .none, 0⟩), #[]⟩) ::
      ((nat_lit 535), ⟨(.type "tuple"), none, (.seq #[(.int 0 809)] 0), #[]⟩) ::
      ((nat_lit 536), ⟨(.type "tuple"), none, (.seq #[] 0), #[]⟩) ::
      ((nat_lit 538), ⟨(.type "tuple"), none, (.seq #[(.str "self" 813), (.str "pos" 814), (.str "whence" 815)] 0), #[]⟩) ::
      ((nat_lit 539), ⟨(.type "tuple"), none, (.seq #[] 0), #[]⟩) ::
      ((nat_lit 541), ⟨(.type "code"), none, (.fields (List.toArray ((.str "seek" 810) :: (.str "StringIO.seek" 811) :: (.str "/claim/cut.py" 812) :: (.int 350 0) :: (.int 3 0) :: (.int 3 0) :: (.int 0 0) :: (.int 3 0) :: (.ref 536) :: (.bool true) :: (.int 181 0) :: (.ref 537) :: .none :: (.ref 538) :: (.ref 539) :: (.ref 540) :: (.int 816 0) :: (.int 350 0) :: (.str "/claim/cut.py" 817) :: []))), #[]⟩) ::
      ((nat_lit 542), ⟨(.type "function"), none, (.func ⟨"seek", "StringIO.seek", a12_23, (.stmts b12_23), s12_23, 3, [], (.ref 535), .none, .none, (.str "io" 251), none, (.ref 541), .none, 0⟩), #[]⟩) ::
      ((nat_lit 543), ⟨(.type "tuple"), none, (.seq #[.none] 0), #[]⟩) ::
      ((nat_lit 544), ⟨(.type "tuple"), none, (.seq #[] 0), #[]⟩) ::
      ((nat_lit 546), ⟨(.type "tuple"), none, (.seq #[(.str "self" 822), (.str "pos" 823)] 0), #[]⟩) ::
      ((nat_lit 547), ⟨(.type "tuple"), none, (.seq #[] 0), #[]⟩) ::
      ((nat_lit 549), ⟨(.type "code"), none, (.fields (List.toArray ((.str "truncate" 819) :: (.str "StringIO.truncate" 820) :: (.str "/claim/cut.py" 821) :: (.int 367 0) :: (.int 2 0) :: (.int 2 0) :: (.int 0 0) :: (.int 3 0) :: (.ref 544) :: (.bool true) :: (.int 181 0) :: (.ref 545) :: .none :: (.ref 546) :: (.ref 547) :: (.ref 548) :: (.int 824 0) :: (.int 367 0) :: (.str "/claim/cut.py" 825) :: []))), #[]⟩) ::
      ((nat_lit 550), ⟨(.type "function"), none, (.func ⟨"truncate", "StringIO.truncate", a12_24, (.stmts b12_24), s12_24, 3, [], (.ref 543), .none, .none, (.str "io" 251), none, (.ref 549), .none, 0⟩), #[]⟩) ::
      ((nat_lit 551), ⟨(.type "tuple"), none, (.seq #[(.int (-1) 828)] 0), #[]⟩) ::
      ((nat_lit 552), ⟨(.type "tuple"), none, (.seq #[] 0), #[]⟩) ::
      ((nat_lit 554), ⟨(.type "tuple"), none, (.seq #[(.str "self" 832), (.str "size" 833), (.str "start" 834), (.str "stop" 835)] 0), #[]⟩) ::
      ((nat_lit 555), ⟨(.type "tuple"), none, (.seq #[] 0), #[]⟩) ::
      ((nat_lit 557), ⟨(.type "code"), none, (.fields (List.toArray ((.str "read" 829) :: (.str "StringIO.read" 830) :: (.str "/claim/cut.py" 831) :: (.int 370 0) :: (.int 2 0) :: (.int 2 0) :: (.int 0 0) :: (.int 3 0) :: (.ref 552) :: (.bool true) :: (.int 181 0) :: (.ref 553) :: .none :: (.ref 554) :: (.ref 555) :: (.ref 556) :: (.int 836 0) :: (.int 370 0) :: (.str "/claim/cut.py" 837) :: []))), #[]⟩) ::
      ((nat_lit 558), ⟨(.type "function"), none, (.func ⟨"read", "StringIO.read", a12_25, (.stmts b12_25), s12_25, 3, [], (.ref 551), .none, .none, (.str "io" 251), none, (.ref 557), .none, 0⟩), #[]⟩) ::
      ((nat_lit 559), ⟨(.type "tuple"), none, (.seq #[(.int (-1) 840)] 0), #[]⟩) ::
      ((nat_lit 560), ⟨(.type "tuple"), none, (.seq #[] 0), #[]⟩) ::
      ((nat_lit 562), ⟨(.type "tuple"), none, (.seq #[(.str "self" 844), (.str "size" 845)] 0), #[]⟩) ::
      ((nat_lit 563), ⟨(.type "tuple"), none, (.seq #[] 0), #[]⟩) ::
      ((nat_lit 565), ⟨(.type "code"), none, (.fields (List.toArray ((.str "readline" 841) :: (.str "StringIO.readline" 842) :: (.str "/claim/cut.py" 843) :: (.int 384 0) :: (.int 2 0) :: (.int 2 0) :: (.int 0 0) :: (.int 3 0) :: (.ref 560) :: (.bool true) :: (.int 181 0) :: (.ref 561) :: .none :: (.ref 562) :: (.ref 563) :: (.ref 564) :: (.int 846 0) :: (.int 384 0) :: (.str "/claim/cut.py" 847) :: []))), #[]⟩) ::
      ((nat_lit 566), ⟨(.type "function"), none, (.func ⟨"readline", "StringIO.readline", a12_26, (.stmts b12_26), s12_26, 3, [], (.ref 559), .none, .none, (.str "io" 251), none, (.ref 565), .none, 0⟩), #[]⟩) ::
      ((nat_lit 567), ⟨(.type "tuple"), none, (.seq #[(.int (-1) 850)] 0), #[]⟩) ::
      ((nat_lit 568), ⟨(.type "tuple"), none, (.seq #[] 0), #[]⟩) ::
      ((nat_lit 570), ⟨(.type "tuple"), none, (.seq #[(.str "self" 854), (.str "hint" 855)] 0), #[]⟩) ::
      ((nat_lit 571), ⟨(.type "tuple"), none, (.seq #[] 0), #[]⟩) ::
      ((nat_lit 573), ⟨(.type "code"), none, (.fields (List.toArray ((.str "readlines" 851) :: (.str "StringIO.readlines" 852) :: (.str "/claim/cut.py" 853) :: (.int 391 0) :: (.int 2 0) :: (.int 2 0) :: (.int 0 0) :: (.int 3 0) :: (.ref 568) :: (.bool true) :: (.int 181 0) :: (.ref 569) :: .none :: (.ref 570) :: (.ref 571) :: (.ref 572) :: (.int 856 0) :: (.int 391 0) :: (.str "/claim/cut.py" 857) :: []))), #[]⟩) ::
      ((nat_lit 574), ⟨(.type "function"), none, (.func ⟨"readlines", "StringIO.readlines", a12_27, (.stmts b12_27), s12_27, 3, [], (.ref 567), .none, .none, (.str "io" 251), none, (.ref 573), .none, 0⟩), #[]⟩) ::
      ((nat_lit 575), ⟨(.type "tuple"), none, (.seq #[] 0), #[]⟩) ::
      ((nat_lit 577), ⟨(.type "tuple"), none, (.seq #[(.str "self" 862)] 0), #[]⟩) ::
      ((nat_lit 578), ⟨(.type "tuple"), none, (.seq #[] 0), #[]⟩) ::
      ((nat_lit 580), ⟨(.type "code"), none, (.fields (List.toArray ((.str "__iter__" 859) :: (.str "StringIO.__iter__" 860) :: (.str "/claim/cut.py" 861) :: (.int 394 0) :: (.int 1 0) :: (.int 0 0) :: (.int 0 0) :: (.int 3 0) :: (.ref 575) :: (.bool true) :: (.int 181 0) :: (.ref 576) :: .none :: (.ref 577) :: (.ref 578) :: (.ref 579) :: (.int 863 0) :: (.int 394 0) :: (.str "/claim/cut.py" 864) :: []))), #[]⟩) ::
      ((nat_lit 581), ⟨(.type "function"), none, (.func ⟨"__iter__", "StringIO.__iter__", a12_28, (.stmts b12_28), s12_28, 3, [], .none, .none, .none, (.str "io" 251), none, (.ref 580), .none, 0⟩), #[]⟩) ::
      ((nat_lit 582), ⟨(.type "tuple"), none, (.seq #[] 0), #[]⟩) ::
      ((nat_lit 584), ⟨(.type "tuple"), none, (.seq #[(.str "self" 869), (.str "line" 870)] 0), #[]⟩) ::
      ((nat_lit 585), ⟨(.type "tuple"), none, (.seq #[] 0), #[]⟩) ::
      ((nat_lit 587), ⟨(.type "code"), none, (.fields (List.toArray ((.str "__next__" 866) :: (.str "StringIO.__next__" 867) :: (.str "/claim/cut.py" 868) :: (.int 398 0) :: (.int 1 0) :: (.int 0 0) :: (.int 0 0) :: (.int 3 0) :: (.ref 582) :: (.bool true) :: (.int 181 0) :: (.ref 583) :: .none :: (.ref 584) :: (.ref 585) :: (.ref 586) :: (.int 871 0) :: (.int 398 0) :: (.str "/claim/cut.py" 872) :: []))), #[]⟩) ::
      ((nat_lit 588), ⟨(.type "function"), none, (.func ⟨"__next__", "StringIO.__next__", a12_29, (.stmts b12_29), s12_29, 3, [], .none, .none, .none, (.str "io" 251), none, (.ref 587), .none, 0⟩), #[]⟩) ::
      ((nat_lit 589), ⟨(.type "tuple"), none, (.seq #[] 0), #[]⟩) ::
      ((nat_lit 591), ⟨(.type "tuple"), none, (.seq #[(.str "self" 877), (.str "s" 878), (.str "n" 879), (.str "m" 880), (.str "start" 881), (.str "buf" 882)] 0), #[]⟩) ::
      ((nat_lit 592), ⟨(.type "tuple"), none, (.seq #[] 0), #[]⟩) ::
      ((nat_lit 594), ⟨(.type "code"), none, (.fields (List.toArray ((.str "write" 874) :: (.str "StringIO.write" 875) :: (.str "/claim/cut.py" 876) :: (.int 405 0) :: (.int 2 0) :: (.int 2 0) :: (.int 0 0) :: (.int 3 0) :: (.ref 589) :: (.bool true) :: (.int 181 0) :: (.ref 590) :: .none :: (.ref 591) :: (.ref 592) :: (.ref 593) :: (.int 883 0) :: (.int 405 0) :: (.str "/claim/cut.py" 884) :: []))), #[]⟩) ::
      ((nat_lit 595), ⟨(.type "function"), none, (.func ⟨"write", "StringIO.write", a12_30, (.stmts b12_30), s12_30, 3, [], .none, .none, .none, (.str "io" 251), none, (.ref 594), .none, 0⟩), #[]⟩) ::
      ((nat_lit 596), ⟨(.type "tuple"), none, (.seq #[] 0), #[]⟩) ::
      ((nat_lit 598), ⟨(.type "tuple"), none, (.seq #[(.str "self" 889), (.str "lines" 890)] 0), #[]⟩) ::
      ((nat_lit 599), ⟨(.type "tuple"), none, (.seq #[] 0), #[]⟩) ::
      ((nat_lit 601), ⟨(.type "code"), none, (.fields (List.toArray ((.str "writelines" 886) :: (.str "StringIO.writelines" 887) :: (.str "/claim/cut.py" 888) :: (.int 424 0) :: (.int 2 0) :: (.int 2 0) :: (.int 0 0) :: (.int 3 0) :: (.ref 596) :: (.bool true) :: (.int 181 0) :: (.ref 597) :: .none :: (.ref 598) :: (.ref 599) :: (.ref 600) :: (.int 891 0) :: (.int 424 0) :: (.str "/claim/cut.py" 892) :: []))), #[]⟩) ::
      ((nat_lit 602), ⟨(.type "function"), none, (.func ⟨"writelines", "StringIO.writelines", a12_31, (.stmts b12_31), s12_31, 3, [], .none, .none, .none, (.str "io" 251), none, (.ref 601), .none, 0⟩), #[]⟩) ::
      ((nat_lit 603), ⟨(.type "tuple"), none, (.seq #[] 0), #[]⟩) ::
      ((nat_lit 605), ⟨(.type "tuple"), none, (.seq #[(.str "self" 897)] 0), #[]⟩) ::
      ((nat_lit 606), ⟨(.type "tuple"), none, (.seq #[] 0), #[]⟩) ::
      ((nat_lit 608), ⟨(.type "code"), none, (.fields (List.toArray ((.str "__repr__" 894) :: (.str "StringIO.__repr__" 895) :: (.str "/claim/cut.py" 896) :: (.int 427 0) :: (.int 1 0) :: (.int 0 0) :: (.int 0 0) :: (.int 3 0) :: (.ref 603) :: (.bool true) :: (.int 181 0) :: (.ref 604) :: .none :: (.ref 605) :: (.ref 606) :: (.ref 607) :: (.int 898 0) :: (.int 427 0) :: (.str "/claim/cut.py" 899) :: []))), #[]⟩) ::
      ((nat_lit 609), ⟨(.type "function"), none, (.func ⟨"__repr__", "StringIO.__repr__", a12_32, (.stmts b12_32), s12_32, 3, [], .none, .none, .none, (.str "io" 251), none, (.ref 608), .none, 0⟩), #[]⟩) ::
      ((nat_lit 610), ⟨(.type "tuple"), none, (.seq #[(.str "__buf" 901), (.str "__newline" 902), (.str "__pos" 903)] 0), #[]⟩) ::
      ((nat_lit 611), ⟨(.type "dict"), none, (.dict (List.toArray (⟨(PyData.keyHash P "__module__"), (.str "__module__" 628), (.str "_io" 633)⟩ :: ⟨(PyData.keyHash P "__firstlineno__"), (.str "__firstlineno__" 632), (.int 223 631)⟩ :: ⟨(PyData.keyHash P "__init__"), (.str "__init__" 645), (.ref 382)⟩ :: ⟨(PyData.keyHash P "_StringIO__translated"), (.str "_StringIO__translated" 654), (.ref 389)⟩ :: ⟨(PyData.keyHash P "_StringIO__check"), (.str "_StringIO__check" 661), (.ref 396)⟩ :: ⟨(PyData.keyHash P "_StringIO__check_dot"), (.str "_StringIO__check_dot" 668), (.ref 403)⟩ :: ⟨(PyData.keyHash P "_StringIO__line"), (.str "_StringIO__line" 683), (.ref 410)⟩ :: ⟨(PyData.keyHash P "closed"), (.str "closed" 691), (.ref 418)⟩ :: ⟨(PyData.keyHash P "line_buffering"), (.str "line_buffering" 699), (.ref 426)⟩ :: ⟨(PyData.keyHash P "newlines"), (.str "newlines" 707), (.ref 434)⟩ :: ⟨(PyData.keyHash P "encoding"), (.str "encoding" 715), (.ref 442)⟩ :: ⟨(PyData.keyHash P "errors"), (.str "errors" 723), (.ref 450)⟩ :: ⟨(PyData.keyHash P "close"), (.str "close" 730), (.ref 457)⟩ :: ⟨(PyData.keyHash P "__enter__"), (.str "__enter__" 737), (.ref 464)⟩ :: ⟨(PyData.keyHash P "__exit__"), (.str "__exit__" 745), (.ref 471)⟩ :: ⟨(PyData.keyHash P "readable"), (.str "readable" 752), (.ref 478)⟩ :: ⟨(PyData.keyHash P "writable"), (.str "writable" 759), (.ref 485)⟩ :: ⟨(PyData.keyHash P "seekable"), (.str "seekable" 766), (.ref 492)⟩ :: ⟨(PyData.keyHash P "isatty"), (.str "isatty" 773), (.ref 499)⟩ :: ⟨(PyData.keyHash P "flush"), (.str "flush" 780), (.ref 506)⟩ :: ⟨(PyData.keyHash P "fileno"), (.str "fileno" 787), (.ref 513)⟩ :: ⟨(PyData.keyHash P "detach"), (.str "detach" 794), (.ref 520)⟩ :: ⟨(PyData.keyHash P "getvalue"), (.str "getvalue" 801), (.ref 527)⟩ :: ⟨(PyData.keyHash P "tell"), (.str "tell" 808), (.ref 534)⟩ :: ⟨(PyData.keyHash P "seek"), (.str "seek" 818), (.ref 542)⟩ :: ⟨(PyData.keyHash P "truncate"), (.str "truncate" 826), (.ref 550)⟩ :: ⟨(PyData.keyHash P "read"), (.str "read" 838), (.ref 558)⟩ :: ⟨(PyData.keyHash P "readline"), (.str "readline" 848), (.ref 566)⟩ :: ⟨(PyData.keyHash P "readlines"), (.str "readlines" 858), (.ref 574)⟩ :: ⟨(PyData.keyHash P "__iter__"), (.str "__iter__" 865), (.ref 581)⟩ :: ⟨(PyData.keyHash P "__next__"), (.str "__next__" 873), (.ref 588)⟩ :: ⟨(PyData.keyHash P "write"), (.str "write" 885), (.ref 595)⟩ :: ⟨(PyData.keyHash P "writelines"), (.str "writelines" 893), (.ref 602)⟩ :: ⟨(PyData.keyHash P "__repr__"), (.str "__repr__" 900), (.ref 609)⟩ :: ⟨(PyData.keyHash P "__static_attributes__"), (.str "__static_attributes__" 904), (.ref 610)⟩ :: ⟨(PyData.keyHash P "__doc__"), (.str "__doc__" 905), .none⟩ :: [])) 2), #[]⟩) ::
      ((nat_lit 612), ⟨(.type "type"), none, (.cls ⟨"StringIO", [(.ref 135)], [(.ref 612), (.ref 135), (.ref 108), (.type "object")], 611, "StringIO", true, [], [], false, none, false⟩), #[(some (.ref 368)), none, (some (.str "StringIO" 621)), (some (.str "StringIO" 629)), (some .none), (some (.bool true))]⟩) ::
      ((nat_lit 615), ⟨(.type "tuple"), none, (.seq #[] 0), #[]⟩) ::
      ((nat_lit 617), ⟨(.type "tuple"), none, (.seq #[(.str "environ" 913)] 0), #[]⟩) ::
      ((nat_lit 618), ⟨(.type "tuple"), none, (.seq #[] 0), #[]⟩) ::
      ((nat_lit 620), ⟨(.type "code"), none, (.fields (List.toArray ((.str "setup_testing_defaults" 910) :: (.str "setup_testing_defaults" 911) :: (.str "/claim/cut.py" 912) :: (.int 430 0) :: (.int 1 0) :: (.int 0 0) :: (.int 0 0) :: (.int 3 0) :: (.ref 615) :: (.bool true) :: (.int 181 0) :: (.ref 616) :: .none :: (.ref 617) :: (.ref 618) :: (.ref 619) :: (.int 914 0) :: (.int 430 0) :: (.str "/claim/cut.py" 915) :: []))), #[]⟩) ::
      ((nat_lit 621), ⟨(.type "function"), none, (.func ⟨"setup_testing_defaults", "setup_testing_defaults", a14, (.stmts b14), s14, 3, [], .none, .none, .none, (.str "cpy313.wsgiref.util" 908), none, (.ref 620), .none, 0⟩), #[]⟩) ::
      ((nat_lit 622), ⟨(.type "tuple"), none, (.seq #[] 0), #[]⟩) ::
      ((nat_lit 625), ⟨(.type "code"), none, (.fields (List.toArray ((.str "law" 919) :: (.str "law" 920) :: (.str "/claim/cut.py" 921) :: (.int 451 0) :: (.int 1 0) :: (.int 0 0) :: (.int 0 0) :: (.int 3 0) :: (.ref 622) :: (.bool true) :: (.int 181 0) :: (.ref 623) :: .none :: .none :: .none :: (.ref 624) :: (.int 922 0) :: (.int 451 0) :: (.str "/claim/cut.py" 923) :: []))), #[]⟩) ::
      ((nat_lit 626), ⟨(.type "function"), none, (.func ⟨"law", "law", a16, (.stmts b16), s16, 3, [], .none, .none, .none, (.str "law_kn0093_01" 917), none, (.ref 625), .none, 0⟩), #[]⟩) :: [])
  all_goals first | (show _ = _; conv => rhs; whnf) | skip
noncomputable abbrev heapAs : List Nat := (nat_lit 2) :: (nat_lit 3) :: (nat_lit 15) :: (nat_lit 17) :: (nat_lit 18) :: (nat_lit 20) :: (nat_lit 21) :: (nat_lit 29) :: (nat_lit 30) :: (nat_lit 32) :: (nat_lit 33) :: (nat_lit 35) :: (nat_lit 36) :: (nat_lit 37) :: (nat_lit 39) :: (nat_lit 40) :: (nat_lit 42) :: (nat_lit 43) :: (nat_lit 44) :: (nat_lit 46) :: (nat_lit 47) :: (nat_lit 49) :: (nat_lit 50) :: (nat_lit 51) :: (nat_lit 52) :: (nat_lit 53) :: (nat_lit 54) :: (nat_lit 55) :: (nat_lit 58) :: (nat_lit 60) :: (nat_lit 61) :: (nat_lit 63) :: (nat_lit 64) :: (nat_lit 65) :: (nat_lit 67) :: (nat_lit 68) :: (nat_lit 70) :: (nat_lit 71) :: (nat_lit 72) :: (nat_lit 74) :: (nat_lit 75) :: (nat_lit 77) :: (nat_lit 78) :: (nat_lit 79) :: (nat_lit 86) :: (nat_lit 87) :: (nat_lit 88) :: (nat_lit 89) :: (nat_lit 99) :: (nat_lit 101) :: (nat_lit 102) :: (nat_lit 104) :: (nat_lit 105) :: (nat_lit 106) :: (nat_lit 107) :: (nat_lit 108) :: (nat_lit 109) :: (nat_lit 110) :: (nat_lit 111) :: (nat_lit 114) :: (nat_lit 121) :: (nat_lit 122) :: (nat_lit 123) :: (nat_lit 126) :: (nat_lit 133) :: (nat_lit 134) :: (nat_lit 135) :: (nat_lit 138) :: (nat_lit 145) :: (nat_lit 146) :: (nat_lit 148) :: (nat_lit 149) :: (nat_lit 151) :: (nat_lit 152) :: (nat_lit 153) :: (nat_lit 155) :: (nat_lit 156) :: (nat_lit 158) :: (nat_lit 159) :: (nat_lit 160) :: (nat_lit 162) :: (nat_lit 163) :: (nat_lit 165) :: (nat_lit 166) :: (nat_lit 167) :: (nat_lit 169) :: (nat_lit 170) :: (nat_lit 172) :: (nat_lit 173) :: (nat_lit 174) :: (nat_lit 175) :: (nat_lit 177) :: (nat_lit 178) :: (nat_lit 180) :: (nat_lit 181) :: (nat_lit 182) :: (nat_lit 184) :: (nat_lit 185) :: (nat_lit 187) :: (nat_lit 188) :: (nat_lit 189) :: (nat_lit 191) :: (nat_lit 192) :: (nat_lit 194) :: (nat_lit 195) :: (nat_lit 196) :: (nat_lit 198) :: (nat_lit 199) :: (nat_lit 201) :: (nat_lit 202) :: (nat_lit 203) :: (nat_lit 205) :: (nat_lit 206) :: (nat_lit 208) :: (nat_lit 209) :: (nat_lit 210) :: (nat_lit 212) :: (nat_lit 213) :: (nat_lit 215) :: (nat_lit 216) :: (nat_lit 217) :: (nat_lit 219) :: (nat_lit 220) :: (nat_lit 222) :: (nat_lit 223) :: (nat_lit 224) :: (nat_lit 226) :: (nat_lit 227) :: (nat_lit 229) :: (nat_lit 230) :: (nat_lit 231) :: (nat_lit 233) :: (nat_lit 234) :: (nat_lit 236) :: (nat_lit 237) :: (nat_lit 238) :: (nat_lit 240) :: (nat_lit 241) :: (nat_lit 243) :: (nat_lit 244) :: (nat_lit 245) :: (nat_lit 247) :: (nat_lit 248) :: (nat_lit 250) :: (nat_lit 251) :: (nat_lit 252) :: (nat_lit 254) :: (nat_lit 255) :: (nat_lit 257) :: (nat_lit 258) :: (nat_lit 259) :: (nat_lit 261) :: (nat_lit 262) :: (nat_lit 264) :: (nat_lit 265) :: (nat_lit 266) :: (nat_lit 267) :: (nat_lit 269) :: (nat_lit 270) :: (nat_lit 272) :: (nat_lit 273) :: (nat_lit 274) :: (nat_lit 275) :: (nat_lit 277) :: (nat_lit 278) :: (nat_lit 280) :: (nat_lit 281) :: (nat_lit 282) :: (nat_lit 283) :: (nat_lit 285) :: (nat_lit 286) :: (nat_lit 288) :: (nat_lit 289) :: (nat_lit 290) :: (nat_lit 291) :: (nat_lit 293) :: (nat_lit 294) :: (nat_lit 296) :: (nat_lit 297) :: (nat_lit 298) :: (nat_lit 300) :: (nat_lit 301) :: (nat_lit 303) :: (nat_lit 304) :: (nat_lit 305) :: (nat_lit 307) :: (nat_lit 308) :: (nat_lit 310) :: (nat_lit 311) :: (nat_lit 312) :: (nat_lit 313) :: (nat_lit 315) :: (nat_lit 316) :: (nat_lit 318) :: (nat_lit 319) :: (nat_lit 320) :: (nat_lit 321) :: (nat_lit 323) :: (nat_lit 324) :: (nat_lit 326) :: (nat_lit 327) :: (nat_lit 328) :: (nat_lit 330) :: (nat_lit 331) :: (nat_lit 333) :: (nat_lit 334) :: (nat_lit 335) :: (nat_lit 337) :: (nat_lit 338) :: (nat_lit 340) :: (nat_lit 341) :: (nat_lit 342) :: (nat_lit 344) :: (nat_lit 345) :: (nat_lit 347) :: (nat_lit 348) :: (nat_lit 349) :: (nat_lit 351) :: (nat_lit 352) :: (nat_lit 354) :: (nat_lit 355) :: (nat_lit 356) :: (nat_lit 358) :: (nat_lit 359) :: (nat_lit 361) :: (nat_lit 362) :: (nat_lit 363) :: (nat_lit 364) :: (nat_lit 365) :: (nat_lit 368) :: (nat_lit 375) :: (nat_lit 376) :: (nat_lit 378) :: (nat_lit 379) :: (nat_lit 381) :: (nat_lit 382) :: (nat_lit 383) :: (nat_lit 385) :: (nat_lit 386) :: (nat_lit 388) :: (nat_lit 389) :: (nat_lit 390) :: (nat_lit 392) :: (nat_lit 393) :: (nat_lit 395) :: (nat_lit 396) :: (nat_lit 397) :: (nat_lit 399) :: (nat_lit 400) :: (nat_lit 402) :: (nat_lit 403) :: (nat_lit 404) :: (nat_lit 406) :: (nat_lit 407) :: (nat_lit 409) :: (nat_lit 410) :: (nat_lit 411) :: (nat_lit 413) :: (nat_lit 414) :: (nat_lit 416) :: (nat_lit 417) :: (nat_lit 418) :: (nat_lit 419) :: (nat_lit 421) :: (nat_lit 422) :: (nat_lit 424) :: (nat_lit 425) :: (nat_lit 426) :: (nat_lit 427) :: (nat_lit 429) :: (nat_lit 430) :: (nat_lit 432) :: (nat_lit 433) :: (nat_lit 434) :: (nat_lit 435) :: (nat_lit 437) :: (nat_lit 438) :: (nat_lit 440) :: (nat_lit 441) :: (nat_lit 442) :: (nat_lit 443) :: (nat_lit 445) :: (nat_lit 446) :: (nat_lit 448) :: (nat_lit 449) :: (nat_lit 450) :: (nat_lit 451) :: (nat_lit 453) :: (nat_lit 454) :: (nat_lit 456) :: (nat_lit 457) :: (nat_lit 458) :: (nat_lit 460) :: (nat_lit 461) :: (nat_lit 463) :: (nat_lit 464) :: (nat_lit 465) :: (nat_lit 467) :: (nat_lit 468) :: (nat_lit 470) :: (nat_lit 471) :: (nat_lit 472) :: (nat_lit 474) :: (nat_lit 475) :: (nat_lit 477) :: (nat_lit 478) :: (nat_lit 479) :: (nat_lit 481) :: (nat_lit 482) :: (nat_lit 484) :: (nat_lit 485) :: (nat_lit 486) :: (nat_lit 488) :: (nat_lit 489) :: (nat_lit 491) :: (nat_lit 492) :: (nat_lit 493) :: (nat_lit 495) :: (nat_lit 496) :: (nat_lit 498) :: (nat_lit 499) :: (nat_lit 500) :: (nat_lit 502) :: (nat_lit 503) :: (nat_lit 505) :: (nat_lit 506) :: (nat_lit 507) :: (nat_lit 509) :: (nat_lit 510) :: (nat_lit 512) :: (nat_lit 513) :: (nat_lit 514) :: (nat_lit 516) :: (nat_lit 517) :: (nat_lit 519) :: (nat_lit 520) :: (nat_lit 521) :: (nat_lit 523) :: (nat_lit 524) :: (nat_lit 526) :: (nat_lit 527) :: (nat_lit 528) :: (nat_lit 530) :: (nat_lit 531) :: (nat_lit 533) :: (nat_lit 534) :: (nat_lit 535) :: (nat_lit 536) :: (nat_lit 538) :: (nat_lit 539) :: (nat_lit 541) :: (nat_lit 542) :: (nat_lit 543) :: (nat_lit 544) :: (nat_lit 546) :: (nat_lit 547) :: (nat_lit 549) :: (nat_lit 550) :: (nat_lit 551) :: (nat_lit 552) :: (nat_lit 554) :: (nat_lit 555) :: (nat_lit 557) :: (nat_lit 558) :: (nat_lit 559) :: (nat_lit 560) :: (nat_lit 562) :: (nat_lit 563) :: (nat_lit 565) :: (nat_lit 566) :: (nat_lit 567) :: (nat_lit 568) :: (nat_lit 570) :: (nat_lit 571) :: (nat_lit 573) :: (nat_lit 574) :: (nat_lit 575) :: (nat_lit 577) :: (nat_lit 578) :: (nat_lit 580) :: (nat_lit 581) :: (nat_lit 582) :: (nat_lit 584) :: (nat_lit 585) :: (nat_lit 587) :: (nat_lit 588) :: (nat_lit 589) :: (nat_lit 591) :: (nat_lit 592) :: (nat_lit 594) :: (nat_lit 595) :: (nat_lit 596) :: (nat_lit 598) :: (nat_lit 599) :: (nat_lit 601) :: (nat_lit 602) :: (nat_lit 603) :: (nat_lit 605) :: (nat_lit 606) :: (nat_lit 608) :: (nat_lit 609) :: (nat_lit 610) :: (nat_lit 611) :: (nat_lit 612) :: (nat_lit 615) :: (nat_lit 617) :: (nat_lit 618) :: (nat_lit 620) :: (nat_lit 621) :: (nat_lit 622) :: (nat_lit 625) :: (nat_lit 626) :: []
end Mine
end
namespace Mine
/-- the engine's own copy of the written heap part -/
theorem fill_now : (∀ P, hd.heap_39 P = hd.heap_39 P) ∧ PySem.Challenge.rw_kn0093_01 = PySem.Challenge.rw_kn0093_01 := by
  k_fill
  exact ⟨fun _ => rfl, rfl⟩
end Mine
section -- L1a
open PySem PySem.W PyProof.Rows PySem.Calls
set_option maxRecDepth 100000
namespace Mine
set_option maxHeartbeats 8000000
abbrev AR (dep : Nat) (outer : List Env) (gs : Option (List Code)) (un : Nat) : Around := ⟨none, dep, some outer, gs, un⟩
local macro_rules | `(tactic| k_room) => `(tactic| ((try simp only [depth_mark, depth_under_make, depth_under_kw, depth_in1, depth_deeper, depth_caller]); (show _ + _ < 1000); omega))

theorem newBy_365 {p : Program} {w : World} {h : Heap} (X : (hd.heap_39 w.params).In h) : NewBy (model p w) h 365 152 where
  obj := clsOk_of X (by kernel_rfl)
  made := Looks.of_peek X (by kernel_rfl)
  base := Looks.of_peek X (by kernel_rfl)
  root := Looks.of_peek X (by kernel_rfl)
  self := Looks.of_peek X (by kernel_rfl)
  top := Looks.of_peek X (by kernel_rfl)
  call := Looks.of_peek X (by kernel_rfl)
  typ := Looks.of_peek X (by kernel_rfl)
  init := Looks.of_peek X (by kernel_rfl)
  bindI := fun self => Looks.of_peek X (by kernel_rfl)
  isTy := Looks.of_peek X (by kernel_rfl)

theorem newIO {w : World} {p : Program} {loose : List Str} {mg mb : Str → Option Value} {A₀ : Around} {base h₀ : Heap} {outer : List Env} {L a : Addr} {m : Str → Option Value} {cn : Str} {ns : List (Str × NameKind)} {mo : List (Str × Const)} {mean : ExcName → Option Value} {ccd : Value} {s : Shared} {dep un : Nat} {gs : Option (List Code)}
    {Q : Value → Shared → Prop}
    (X : (hd.heap_39 w.params).In h₀) (T : Top p loose mean mg mb h₀) (TR : TopRead p loose mg mb h₀) (B : Below A₀ base outer h₀) (F : Fr h₀ L s.heap m) (N : News h₀ L s.heap []) (hdep : dep < 500) (hun : un < 1000)
    (post : ∀ x dx h' t', (∀ b o, s.heap.get? b = some o → h'.get? b = some o) → h'.get? x = some (instObj 365 dx) → h'.get? dx = some emptyDict → s.heap.objs.size ≤ dx → dx < x → Q (.ref x) { s with heap := h', toks := t' }) :
    wpAny (model PySem.Challenge.rw_kn0093_01.row.prog w) ((AR dep (envOf cn ⟨.function, ns, false, false, mo⟩ L a ccd :: outer) gs un).under (.builtin "type.__call__" ⟨[.ref 365], []⟩)) (getAttr (.ref 365) "__new__") (fun v s₁ => v = .ref 105 ∧ Stop (
      wpAny (model PySem.Challenge.rw_kn0093_01.row.prog w) ((AR dep (envOf cn ⟨.function, ns, false, false, mo⟩ L a ccd :: outer) gs un).under (.builtin "type.__call__" ⟨[.ref 365], []⟩)) (call (.ref 105) [.ref 365]) Q (fun _ _ => False) s₁)) (fun _ _ => False) s := by
  k_steps
  refine Stop.mk ?_
  refine wpAny_call ?_
  have X' := X.keeps F.keep
  refine' a_defB (s₂ := { s with heap := (s.heap.push { cls := .type "tuple", data := .seq ([] : List Value).toArray }).push (dictOf [] 0), toks := s.toks + 1 }) (news := []) (env := envOf cn ⟨.function, ns, false, false, mo⟩ L a ccd)
    (binds := [("cls", .ref 365), ("args", .ref s.heap.objs.size), ("kwargs", .ref (s.heap.push { cls := .type "tuple", data := .seq ([] : List Value).toArray }).objs.size)])
    B ((F.push _).push _) (fun _ hp => nomatch hp) T.nolimit ?hA ?hf ?hke X' ?ho ?hcd ?hroom (fun M A E Q hq => ?hb) ?hloc (fun g L' h₁ hk F₁ N₁ B₁ st _ hL => ?_) ?hcell ?c1 ?c2 ?c3
  case hA => rfl
  case hf => rfl
  case hke => rfl
  case ho => k_is
  case hcd => k_is
  case hroom => k_room
  case hloc => exact locs rfl
  case hcell => decide
  case c1 => rfl
  case c2 => rfl
  case c3 => rfl
  case hb =>
    refine wpAny_of_eq' (show _ = (do
      let C ← alloc { cls := .type "tuple", data := .seq ([] : List Value).toArray }
      let D ← alloc (dictOf [] 0)
      pure [(("cls" : Str), Value.ref 365), ("args", .ref C), ("kwargs", .ref D)]) from by kernel_rfl) ?_
    exact wpAny_bind (wpAny_alloc (wpAny_bind (wpAny_alloc (wpAny_pure hq))))
  have X₁ := X.keeps st
  have T₁ := T.keeps st
  have TR₁ := topRead_of T₁
  k_steps
  refine wpAny_call (objnew_user (newBy_365 (X₁.keeps F₁.keep)) ?_)
  have hx : ((h₁.push emptyDict).push (instObj 365 h₁.objs.size)).get? (h₁.objs.size + 1) = some (instObj 365 h₁.objs.size) := by heap_get
  have hd' : ((h₁.push emptyDict).push (instObj 365 h₁.objs.size)).get? h₁.objs.size = some emptyDict := by heap_get
  refine post _ _ _ _ (fun b o e => Heap.get?_push_of_some _ (Heap.get?_push_of_some _ (F₁.keep b o (hk b o (Heap.get?_push_of_some _ (Heap.get?_push_of_some _ e)) (fun q => nomatch q))))) hx hd' ?_ (Nat.lt_succ_self _)
  have := F₁.above
  obtain ⟨oL, _, _, hoL, _⟩ := F₁.ns
  have q : L' < h₁.objs.size := Heap.lt_size hoL
  simp only [Heap.size_push] at hL
  exact Nat.le_of_lt (Nat.lt_of_le_of_lt (Nat.le_trans (Nat.le_add_right _ 2) hL) q)

theorem newBy_612 {p : Program} {w : World} {h : Heap} (X : (hd.heap_39 w.params).In h) : NewBy (model p w) h 612 382 where
  obj := clsOk_of X (by kernel_rfl)
  made := Looks.of_peek X (by kernel_rfl)
  base := Looks.of_peek X (by kernel_rfl)
  root := Looks.of_peek X (by kernel_rfl)
  self := Looks.of_peek X (by kernel_rfl)
  top := Looks.of_peek X (by kernel_rfl)
  call := Looks.of_peek X (by kernel_rfl)
  typ := Looks.of_peek X (by kernel_rfl)
  init := Looks.of_peek X (by kernel_rfl)
  bindI := fun self => Looks.of_peek X (by kernel_rfl)
  isTy := Looks.of_peek X (by kernel_rfl)

theorem newSIO {w : World} {p : Program} {loose : List Str} {mg mb : Str → Option Value} {A₀ : Around} {base h₀ : Heap} {outer : List Env} {L a : Addr} {m : Str → Option Value} {cn : Str} {ns : List (Str × NameKind)} {mo : List (Str × Const)} {mean : ExcName → Option Value} {ccd : Value} {s : Shared} {dep un : Nat} {gs : Option (List Code)}
    {Q : Value → Shared → Prop}
    (X : (hd.heap_39 w.params).In h₀) (T : Top p loose mean mg mb h₀) (TR : TopRead p loose mg mb h₀) (B : Below A₀ base outer h₀) (F : Fr h₀ L s.heap m) (N : News h₀ L s.heap []) (hdep : dep < 500) (hun : un < 1000)
    (post : ∀ x dx h' t', (∀ b o, s.heap.get? b = some o → h'.get? b = some o) → h'.get? x = some (instObj 612 dx) → h'.get? dx = some emptyDict → s.heap.objs.size ≤ dx → dx < x → Q (.ref x) { s with heap := h', toks := t' }) :
    wpAny (model PySem.Challenge.rw_kn0093_01.row.prog w) ((AR dep (envOf cn ⟨.function, ns, false, false, mo⟩ L a ccd :: outer) gs un).under (.builtin "type.__call__" ⟨[.ref 612], []⟩)) (getAttr (.ref 612) "__new__") (fun v s₁ => v = .ref 105 ∧ Stop (
      wpAny (model PySem.Challenge.rw_kn0093_01.row.prog w) ((AR dep (envOf cn ⟨.function, ns, false, false, mo⟩ L a ccd :: outer) gs un).under (.builtin "type.__call__" ⟨[.ref 612], []⟩)) (call (.ref 105) [.ref 612]) Q (fun _ _ => False) s₁)) (fun _ _ => False) s := by
  k_steps
  refine Stop.mk ?_
  refine wpAny_call ?_
  have X' := X.keeps F.keep
  refine' a_defB (s₂ := { s with heap := (s.heap.push { cls := .type "tuple", data := .seq ([] : List Value).toArray }).push (dictOf [] 0), toks := s.toks + 1 }) (news := []) (env := envOf cn ⟨.function, ns, false, false, mo⟩ L a ccd)
    (binds := [("cls", .ref 612), ("args", .ref s.heap.objs.size), ("kwargs", .ref (s.heap.push { cls := .type "tuple", data := .seq ([] : List Value).toArray }).objs.size)])
    B ((F.push _).push _) (fun _ hp => nomatch hp) T.nolimit ?hA ?hf ?hke X' ?ho ?hcd ?hroom (fun M A E Q hq => ?hb) ?hloc (fun g L' h₁ hk F₁ N₁ B₁ st _ hL => ?_) ?hcell ?c1 ?c2 ?c3
  case hA => rfl
  case hf => rfl
  case hke => rfl
  case ho => k_is
  case hcd => k_is
  case hroom => k_room
  case hloc => exact locs rfl
  case hcell => decide
  case c1 => rfl
  case c2 => rfl
  case c3 => rfl
  case hb =>
    refine wpAny_of_eq' (show _ = (do
      let C ← alloc { cls := .type "tuple", data := .seq ([] : List Value).toArray }
      let D ← alloc (dictOf [] 0)
      pure [(("cls" : Str), Value.ref 612), ("args", .ref C), ("kwargs", .ref D)]) from by kernel_rfl) ?_
    exact wpAny_bind (wpAny_alloc (wpAny_bind (wpAny_alloc (wpAny_pure hq))))
  have X₁ := X.keeps st
  have T₁ := T.keeps st
  have TR₁ := topRead_of T₁
  k_steps
  refine wpAny_call (objnew_user (newBy_612 (X₁.keeps F₁.keep)) ?_)
  have hx : ((h₁.push emptyDict).push (instObj 612 h₁.objs.size)).get? (h₁.objs.size + 1) = some (instObj 612 h₁.objs.size) := by heap_get
  have hd' : ((h₁.push emptyDict).push (instObj 612 h₁.objs.size)).get? h₁.objs.size = some emptyDict := by heap_get
  refine post _ _ _ _ (fun b o e => Heap.get?_push_of_some _ (Heap.get?_push_of_some _ (F₁.keep b o (hk b o (Heap.get?_push_of_some _ (Heap.get?_push_of_some _ e)) (fun q => nomatch q))))) hx hd' ?_ (Nat.lt_succ_self _)
  have := F₁.above
  obtain ⟨oL, _, _, hoL, _⟩ := F₁.ns
  have q : L' < h₁.objs.size := Heap.lt_size hoL
  simp only [Heap.size_push] at hL
  exact Nat.le_of_lt (Nat.lt_of_le_of_lt (Nat.le_trans (Nat.le_add_right _ 2) hL) q)

end Mine
end
section -- L1b
open PySem PySem.W PyProof.Rows PySem.Calls
set_option maxRecDepth 100000
namespace Mine
set_option maxHeartbeats 8000000
local macro_rules | `(tactic| k_room) => `(tactic| ((try simp only [depth_mark, depth_under_make, depth_under_kw, depth_in1, depth_deeper, depth_caller]); (show _ + _ < 1000); omega))

theorem notNews {h : Heap} {x dx b : Addr} {o o₁ o₂ : Obj} (e : h.get? b = some o) (f1 : h.objs.size ≤ dx) (f2 : dx < x) : b ∉ [(x, o₁), (dx, o₂)].map (·.1) := fun q => by
  have e := ltN (Heap.lt_size e)
  rcases List.mem_cons.mp q with rfl | q
  · exact absurd (Nat.lt_of_le_of_lt f1 f2) (Nat.not_lt.mpr (Nat.le_of_lt e))
  · obtain rfl := List.mem_singleton.mp q
    exact absurd f1 (Nat.not_le.mpr e)

theorem bytesIO_call {w : World} {p : Program} {loose : List Str} {mg mb : Str → Option Value} {A₀ : Around} {base h₀ : Heap} {outer : List Env} {L a : Addr} {m : Str → Option Value} {cn : Str} {ns : List (Str × NameKind)} {mo : List (Str × Const)} {mean : ExcName → Option Value} {ccd : Value} {s : Shared} {dep un : Nat} {gs : Option (List Code)}
    {R : Result → Shared → Prop}
    (X : (hd.heap_39 w.params).In h₀) (T : Top p loose mean mg mb h₀) (B : Below A₀ base outer h₀) (F : Fr h₀ L s.heap m) (hdep : dep < 500) (hun : un < 1000)
    (post : ∀ x dx y t₁ t₂ t₃ h' t', (∀ b o, s.heap.get? b = some o → h'.get? b = some o) → h'.get? x = some (instObj 365 dx) → h'.get? dx = some (dictOf [⟨PyData.keyHash w.params "_BytesIO__buf", .str "_BytesIO__buf" t₁, .ref y⟩, ⟨PyData.keyHash w.params "_BytesIO__pos", .str "_BytesIO__pos" t₂, .int 0 t₃⟩] 2) →
      h'.get? y = some (baObj #[]) → s.heap.objs.size ≤ dx → dx < x → x < y → R (.ok (.ret (.ref x))) { s with heap := h', toks := t' }) :
    codeG (model PySem.Challenge.rw_kn0093_01.row.prog w) (AR dep (envOf cn ⟨.function, ns, false, false, mo⟩ L a ccd :: outer) gs un) (.call (.ref 365) ⟨[], []⟩) R s := by
  refine make_userG (newBy_365 (X.keeps F.keep)) (fN := 105) (newIO X T (topRead_of T) B F (fun _ hp => nomatch hp) hdep hun fun x dx h' t' hk₀ hx hdx f1 f2 => ⟨x, dx, rfl, hx, hk₀, ?_⟩)
  have F' := frGrow F hk₀
  have N' : News h₀ L h' [(x, instObj 365 dx), (dx, emptyDict)] := newsAdd F (newsAdd F (fun _ hp => nomatch hp) hdx f1) hx (Nat.le_of_lt (Nat.lt_of_le_of_lt f1 f2))
  have X' := X.keeps F'.keep
  have hne := ltN f2
  refine' g_defF (s := { s with heap := h', toks := t' }) (news := [(x, instObj 365 dx), (dx, emptyDict)]) (env := envOf cn ⟨.function, ns, false, false, mo⟩ L a ccd)
    B F' N' T.nolimit ?hA ?hf ?hke X' ?ho ?hcd ?hroom ?hb ?hloc (fun g L' h₁ hk F₁ N₁ B₁ st hlt => ?_) ?hcell ?c1 ?c2 ?c3
  case hA => rfl
  case hf => rfl
  case hke => rfl
  case ho => k_is
  case hcd => k_is
  case hroom => k_room
  case hb => first | exact BindsTo.of_eq rfl | exact binds_K X' rfl (by k_is) rfl rfl rfl
  case hloc => exact locs rfl
  case hcell => decide
  case c1 => rfl
  case c2 => rfl
  case c3 => rfl
  have X₁ := X.keeps st
  have T₁ := T.keeps st
  have TR₁ := topRead_of T₁
  refine g_execs (lift ?_)
  k_steps
  dsimp only
  refine g_execs (g_SetAttr (g_IfExp (lift ?_)))
  k_steps
  have Z := And.intro F₁ N₁
  refine g_CallName (lift ?_)
  k_steps
  obtain ⟨F₁, N₁⟩ := Z
  refine g_callWith rfl (g_args0 ⟨⟨_, .inr (.inl rfl), .now⟩, g_call (g_bytearray fun h₂ hk₂ hy hs₂ => ?_)⟩)
  dsimp only
  have F₂ := frGrow F₁ hk₂
  have N₂ : News g L' h₂ [(h₁.objs.size, baObj #[]), (x, instObj 365 dx), (dx, emptyDict)] := newsAdd F₁ (newsGrow N₁ hk₂) hy (Nat.le_refl _)
  have hn2 := ltN (Heap.lt_size (N₁ _ (.head _)).1)
  have hn3 := ltN (Heap.lt_size (N₁ _ (.tail _ (.head _))).1)
  dsimp only at hn2 hn3
  k_steps
  refine g_execs (lift ?_)
  k_steps
  dsimp only
  refine g_nil ?_
  rename Fr g L' _ _ => F₃
  rename News g L' _ _ => N₃
  refine ⟨rfl, ?_⟩
  exact post x dx h₁.objs.size _ _ _ _ _ (fun b o e => F₃.keep b o (hk b o (hk₀ b o e) (notNews e f1 f2))) (N₃ _ (.tail _ (.head _))).1 (N₃ _ (.tail _ (.tail _ (.head _)))).1 (N₃ _ (.head _)).1 f1 f2 hn2
end Mine
end
section -- L1c
open PySem PySem.W PyProof.Rows PySem.Calls
set_option maxRecDepth 100000
namespace Mine
set_option maxHeartbeats 8000000
local macro_rules | `(tactic| k_room) => `(tactic| ((try simp only [depth_mark, depth_under_make, depth_under_kw, depth_in1, depth_deeper, depth_caller]); (show _ + _ < 1000); omega))

theorem stringIO_call {w : World} {p : Program} {loose : List Str} {mg mb : Str → Option Value} {A₀ : Around} {base h₀ : Heap} {outer : List Env} {L a : Addr} {m : Str → Option Value} {cn : Str} {ns : List (Str × NameKind)} {mo : List (Str × Const)} {mean : ExcName → Option Value} {ccd : Value} {s : Shared} {dep un : Nat} {gs : Option (List Code)}
    {R : Result → Shared → Prop}
    (X : (hd.heap_39 w.params).In h₀) (T : Top p loose mean mg mb h₀) (B : Below A₀ base outer h₀) (F : Fr h₀ L s.heap m) (hdep : dep < 500) (hun : un < 1000)
    (post : ∀ x dx t₁ t₂ t₃ t₄ t₅ t₆ h' t', (∀ b o, s.heap.get? b = some o → h'.get? b = some o) → h'.get? x = some (instObj 612 dx) → h'.get? dx = some (dictOf [⟨PyData.keyHash w.params "_StringIO__newline", .str "_StringIO__newline" t₁, .str "\n" t₂⟩, ⟨PyData.keyHash w.params "_StringIO__buf", .str "_StringIO__buf" t₃, .str "" t₄⟩,
      ⟨PyData.keyHash w.params "_StringIO__pos", .str "_StringIO__pos" t₅, .int 0 t₆⟩] 3) → s.heap.objs.size ≤ dx → dx < x → R (.ok (.ret (.ref x))) { s with heap := h', toks := t' }) :
    codeG (model PySem.Challenge.rw_kn0093_01.row.prog w) (AR dep (envOf cn ⟨.function, ns, false, false, mo⟩ L a ccd :: outer) gs un) (.call (.ref 612) ⟨[], []⟩) R s := by
  refine make_userG (newBy_612 (X.keeps F.keep)) (fN := 105) (newSIO X T (topRead_of T) B F (fun _ hp => nomatch hp) hdep hun fun x dx h' t' hk₀ hx hdx f1 f2 => ⟨x, dx, rfl, hx, hk₀, ?_⟩)
  have F' := frGrow F hk₀
  have N' : News h₀ L h' [(x, instObj 612 dx), (dx, emptyDict)] := newsAdd F (newsAdd F (fun _ hp => nomatch hp) hdx f1) hx (Nat.le_of_lt (Nat.lt_of_le_of_lt f1 f2))
  have X' := X.keeps F'.keep
  have hne := ltN f2
  refine liftC ?_
  refine' a_defF (s := { s with heap := h', toks := t' }) (news := [(x, instObj 612 dx), (dx, emptyDict)]) (env := envOf cn ⟨.function, ns, false, false, mo⟩ L a ccd)
    B F' N' T.nolimit ?hA ?hf ?hke X' ?ho ?hcd ?hroom ?hb ?hloc (fun g L' h₁ hk F₁ N₁ B₁ st hlt => ?_) ?hcell ?c1 ?c2 ?c3
  case hA => rfl
  case hf => rfl
  case hke => rfl
  case ho => k_is
  case hcd => k_is
  case hroom => k_room
  case hb => first | exact BindsTo.of_eq rfl | exact binds_K X' rfl (by k_is) rfl rfl rfl
  case hloc => exact locs rfl
  case hcell => decide
  case c1 => rfl
  case c2 => rfl
  case c3 => rfl
  have X₁ := X.keeps st
  have T₁ := T.keeps st
  have TR₁ := topRead_of T₁
  k_steps
  rename Fr g L' _ _ => F₃
  rename News g L' _ _ => N₃
  exact post x dx _ _ _ _ _ _ _ _ (fun b o e => F₃.keep b o (hk b o (hk₀ b o e) (notNews e f1 f2))) (N₃ _ (.head _)).1 (N₃ _ (.tail _ (.head _))).1 f1 f2
end Mine
end
section -- L1d
open PySem PySem.W PyProof.Rows PySem.Calls
set_option maxRecDepth 100000
namespace Mine
set_option maxHeartbeats 8000000
local macro_rules | `(tactic| k_room) => `(tactic| ((try simp only [depth_mark, depth_under_make, depth_under_kw, depth_in1, depth_deeper, depth_caller]); (first | ((show _ + _ < 1000); omega) | ((show _ < 1000); omega))))

local macro_rules | `(tactic| walk_at "call builtin:dict.get") => `(tactic| (k_here; k_dflt (refine kdg_get1 (knd := PySem.strKind _ _) (by k_asm) (by k_mem) (by k_asm) (by k_asm) (strKind_is _ _ _ _) _ (by assumption) ?_); (try dsimp only [Option.getD])))
theorem strs_nil : ∀ y ∈ ([] : List Value), ∃ x t, y = .str x t := fun _ h => nomatch h
theorem strs_cons {x : Str} {t : Tok} {l : List Value} (h : ∀ y ∈ l, ∃ x t, y = .str x t) : ∀ y ∈ Value.str x t :: l, ∃ x t, y = .str x t := fun y hy => by
  rcases List.mem_cons.mp hy with rfl | hy
  · exact ⟨_, _, rfl⟩
  · exact h y hy
local macro_rules | `(tactic| walk_at "compareOp In none ref") => `(tactic| (k_here; k_dflt (refine' none_in_strs ?N ?hm ?hs ?_; (case N => k_asm); (case hm => k_mem); (case hs => first | exact strs_cons (strs_cons (strs_cons strs_nil)))))) 
theorem DV.isStr {P : Addr → Obj → Prop} {v : Value} {x : Str} (h : DV P v (.str x)) : ∃ t, v = .str x t := by
  cases v <;> first | exact h.elim | skip
  obtain rfl := (show _ = x from h)
  exact ⟨_, rfl⟩

def guessS (S : List (Str × D)) : Str := match look S "HTTPS" with
  | some (.str y) => if [("yes" : Str), "on", "1"].any (fun x => x == y) = true then ("https" : Str) else ("http" : Str)
  | _ => "http"

theorem keepOne {h g h' : Heap} {L' d : Addr} {od : Obj} {m' : Str → Option Value} {news : List (Addr × Obj)} (hk : ∀ b o, h.get? b = some o → b ∉ [(d, od)].map (·.1) → g.get? b = some o) (hd : h.get? d = some od) (F : Fr g L' h' m') (N : News g L' h' news) (hm : (d, od) ∈ news) :
    ∀ b o, h.get? b = some o → h'.get? b = some o := fun b o e => by
  by_cases q : b = d
  · subst q; rw [hd] at e; cases e; exact (N _ hm).1
  · exact F.keep _ _ (hk _ _ e (by simpa using q))

theorem guess_call {w : World} {p : Program} {loose : List Str} {mg mb : Str → Option Value} {A₀ : Around} {base h₀ : Heap} {outer : List Env} {L a d : Addr} {od : Obj} {m : Str → Option Value} {env : Env} {mean : ExcName → Option Value} {s : Shared} {dep un : Nat} {gs : Option (List Code)}
    {R : Result → Shared → Prop} {kvs : List (Str × Value)} {S : List (Str × D)} {P : Addr → Obj → Prop} (hf : env.frame = some L) (hke : env.scope.kind = .function)
    (X : (hd.heap_39 w.params).In h₀) (T : Top p loose mean mg mb h₀) (B : Below A₀ base outer h₀) (F : Fr h₀ L s.heap m) (N : News h₀ L s.heap [(d, od)]) (hdep : dep < 500) (hun : un < 1000)
    (lo : (d == sysModules) = false) (hod : od.IsDictOf (strKind PySem.Challenge.rw_kn0093_01.row.prog w) kvs) (hr : Rel P kvs S) (hH : ∀ x, look S "HTTPS" = some x → ∃ y, x = .str y)
    (post : ∀ h' t' tk, (∀ b o, s.heap.get? b = some o → h'.get? b = some o) → R (.ok (.ret (.str (guessS S) tk))) { s with heap := h', toks := t' }) :
    codeAny (model PySem.Challenge.rw_kn0093_01.row.prog w) (AR dep (env :: outer) gs un) (.call (.ref 64) ⟨[.ref d], []⟩) R s := by
  have X' := X.keeps F.keep
  refine' a_defF (news := [(d, od)]) (env := env)
    B F N T.nolimit ?hA hf hke X' ?ho ?hcd ?hroom ?hb ?hloc (fun g L' h₁ hk F₁ N₁ B₁ st hlt => ?_) ?hcell ?c1 ?c2 ?c3
  case hA => rfl
  case ho => k_is
  case hcd => k_is
  case hroom => k_room
  case hb => first | exact BindsTo.of_eq rfl | exact binds_K X' rfl (by k_is) rfl rfl rfl
  case hloc => exact locs rfl
  case hcell => decide
  case c1 => rfl
  case c2 => rfl
  case c3 => rfl
  have X₁ := X.keeps st
  have T₁ := T.keeps st
  have TR₁ := topRead_of T₁
  cases e : look S "HTTPS" with
  | none =>
    have e' : valueAt kvs "HTTPS" = none := hr.none e
    k_steps
    all_goals (
      dsimp only
      rename Fr g L' _ _ => F₂
      rename News g L' _ _ => N₂
      have hg : guessS S = "http" := by simp only [guessS, e]
      simp only [hg] at post
      exact post _ _ _ (keepOne hk (N _ (.head _)).1 F₂ N₂ (by k_mem)))
  | some x =>
    obtain ⟨y, rfl⟩ := hH x e
    obtain ⟨v, e', hv⟩ := hr.at e
    obtain ⟨t, rfl⟩ := hv.isStr
    have e'' : valueAt kvs "HTTPS" = some (.str y t) := e'
    clear e'
    k_steps
    all_goals (
      dsimp only
      rename Fr g L' _ _ => F₂
      rename News g L' _ _ => N₂
      rename (List.any _ _) = _ => hc
      have hg : guessS S = if [("yes" : Str), "on", "1"].any (fun x => x == y) = true then ("https" : Str) else ("http" : Str) := by unfold guessS; rw [e]
      rw [hc] at hg
      simp only [hg] at post
      exact post _ _ _ (keepOne hk (N _ (.head _)).1 F₂ N₂ (by k_mem)))
end Mine
end
section -- L1e
open PySem PySem.W PyProof.Rows PySem.Calls
set_option maxRecDepth 100000
namespace Mine
set_option maxHeartbeats 8000000
local macro_rules | `(tactic| k_room) => `(tactic| ((try simp only [depth_mark, depth_under_make, depth_under_kw, depth_in1, depth_deeper, depth_caller]); (first | ((show _ + _ < 1000); omega) | ((show _ < 1000); omega))))
local macro_rules | `(tactic| walk_at "call builtin:dict.setdefault") => `(tactic| (k_here; k_dflt (refine' my_setdefR ?F ?N ?U ?d ?lo ?r ?v ?l ?z ?_; (case F => k_asm); (case N => k_asm); (case U => k_updF); (case d => k_asm); (case lo => k_asm); (case r => k_asm); (case v => first | exact dv_str | exact dv_int | assumption); (case l => k_asm); (case z => decide)); intro h' o' v' kvs' F' N' hd' r' l'; (try dsimp only at N')))
local macro_rules | `(tactic| walk_at "getItem ref str") => `(tactic| (k_here; k_dflt (refine kdt_getItem (knd := PySem.strKind _ _) (by k_asm) (by k_mem) (by k_asm) (strKind_is _ _ _ _) (by assumption) ?_)))
local macro_rules | `(tactic| walk_at "subscriptTail") => `(tactic| (k_here; k_dflt (refine kda_item (knd := PySem.strKind _ _) (by k_asm) (by k_mem) (by k_asm) (strKind_is _ _ _ _) (by assumption) ?_)))
local macro_rules | `(tactic| walk_at "compareOp NotIn str ref") => `(tactic| (k_here; k_dflt (refine kdg_notin (knd := PySem.strKind _ _) (by k_asm) (by k_mem) (by k_asm) (by k_asm) (strKind_is _ _ _ _) _ (by assumption) ?_); (try dsimp only [Bool.not_true, Bool.not_false])))

def FreshB (P : Params) (h : Heap) (x dx y : Addr) (b : Array UInt8) (n : Int) : Prop :=
  h.get? x = some (instObj 365 dx) ∧ (∃ t₁ t₂ t₃, h.get? dx = some (dictOf [⟨PyData.keyHash P "_BytesIO__buf", .str "_BytesIO__buf" t₁, .ref y⟩, ⟨PyData.keyHash P "_BytesIO__pos", .str "_BytesIO__pos" t₂, .int n t₃⟩] 2)) ∧ h.get? y = some (baObj b)
def FreshS (P : Params) (h : Heap) (x dx : Addr) (b : Str) (n : Int) : Prop :=
  h.get? x = some (instObj 612 dx) ∧ ∃ t₁ t₂ t₃ t₄ t₅ t₆, h.get? dx = some (dictOf [⟨PyData.keyHash P "_StringIO__newline", .str "_StringIO__newline" t₁, .str "\n" t₂⟩, ⟨PyData.keyHash P "_StringIO__buf", .str "_StringIO__buf" t₃, .str b t₄⟩,
      ⟨PyData.keyHash P "_StringIO__pos", .str "_StringIO__pos" t₅, .int n t₆⟩] 3)

def setupS (S : List (Str × D)) (x sx : Addr) : List (Str × D) :=
  let S1 := sd S "SERVER_NAME" (.str "127.0.0.1")
  let S2 := sd S1 "SERVER_PROTOCOL" (.str "HTTP/1.0")
  let S3 := sd S2 "HTTP_HOST" ((look S "SERVER_NAME").getD (.str "127.0.0.1"))
  let S4 := sd S3 "REQUEST_METHOD" (.str "GET")
  let S5 := if (look S4 "SCRIPT_NAME").isSome || (look S4 "PATH_INFO").isSome then S4 else sd (sd S4 "SCRIPT_NAME" (.str "")) "PATH_INFO" (.str "/")
  let S6 := sd S5 "wsgi.version" .ver
  let S7 := sd S6 "wsgi.run_once" (.int 0)
  let S8 := sd S7 "wsgi.multithread" (.int 0)
  let S9 := sd S8 "wsgi.multiprocess" (.int 0)
  let S10 := sd S9 "wsgi.input" (.obj x)
  let S11 := sd S10 "wsgi.errors" (.obj sx)
  let S12 := sd S11 "wsgi.url_scheme" (.str (guessS S11))
  match look S12 "wsgi.url_scheme" with
  | some (.str y) => if y == "http" then sd S12 "SERVER_PORT" (.str "80") else if y == "https" then sd S12 "SERVER_PORT" (.str "443") else S12
  | _ => S12

theorem leN {a b : Nat} (h : a ≤ b) : a ≤ b := h
theorem setup_call {w : World} {p : Program} {loose : List Str} {mg mb : Str → Option Value} {A₀ : Around} {base h₀ : Heap} {outer : List Env} {L d : Addr} {od : Obj} {m : Str → Option Value} {env : Env} {mean : ExcName → Option Value} {s : Shared} {dep un : Nat} {gs : Option (List Code)}
    {R : Result → Shared → Prop} {kvs : List (Str × Value)} {S : List (Str × D)} (hf : env.frame = some L) (hke : env.scope.kind = .function)
    (X : (hd.heap_39 w.params).In h₀) (T : Top p loose mean mg mb h₀) (B : Below A₀ base outer h₀) (F : Fr h₀ L s.heap m) (N : News h₀ L s.heap [(d, od)]) (hdep : dep < 490) (hun : un < 900)
    (lo : (d == sysModules) = false) (hod : od.IsDictOf (strKind PySem.Challenge.rw_kn0093_01.row.prog w) kvs) (hr : Rel (fun a o => s.heap.get? a = some o) kvs S) (hlen : kvs.length ≤ 100) (hH : ∀ x, look S "HTTPS" = some x → ∃ y, x = .str y) (hU : ∀ x, look S "wsgi.url_scheme" = some x → ∃ y, x = .str y)
    (post : ∀ h' t' od' kvs' x dx y sx sdx, (∀ b o, b ≠ d → s.heap.get? b = some o → h'.get? b = some o) → h'.get? d = some od' → od'.IsDictOf (strKind PySem.Challenge.rw_kn0093_01.row.prog w) kvs' → Rel (fun a o => h'.get? a = some o) kvs' (setupS S x sx) → kvs'.length ≤ 115 →
      (∀ b o, s.heap.get? b = some o → b < dx) → dx < x → x < y → y < sdx → sdx < sx → FreshB w.params h' x dx y #[] 0 → FreshS w.params h' sx sdx "" 0 → R (.ok (.ret .none)) { s with heap := h', toks := t' }) :
    codeG (model PySem.Challenge.rw_kn0093_01.row.prog w) (AR dep (env :: outer) gs un) (.call (.ref 621) ⟨[.ref d], []⟩) R s := by
  have hd5 : dep + 1 < 500 := Nat.lt_of_le_of_lt hdep (by decide)
  have hu5 : un + 3 < 1000 := Nat.lt_of_lt_of_le (Nat.add_lt_add_right hun 3) (by decide)
  have X' := X.keeps F.keep
  refine' g_defF (news := [(d, od)]) (env := env) (binds := [("environ", .ref d)])
    B F N T.nolimit ?hA hf hke X' ?ho ?hcd ?hroom ?hb ?hloc (fun g L' h₁ hk F₁ N₁ B₁ st hlt => ?_) ?hcell ?c1 ?c2 ?c3
  case hA => rfl
  case ho => k_is
  case hcd => k_is
  case hroom => k_room
  case hb => exact BindsTo.of_eq rfl
  case hloc => exact locs rfl
  case hcell => decide
  case c1 => rfl
  case c2 => rfl
  case c3 => rfl
  have X₁ := X.keeps st
  have T₁ := T.keeps st
  have TR₁ := topRead_of T₁
  have hd0 := (N _ (.head _)).1
  have r0 : Rel (fun a o => g.get? a = some o) kvs S := hr.mono fun a o hn e => hk a o e (fun q => by
    have q : a = d := by simpa using q
    subst q
    have hd0' : s.heap.get? a = some od := hd0
    rw [hd0'] at e; cases e
    obtain ⟨es, ep, _, hdd, _⟩ := hod
    exact hn _ _ hdd)
  obtain ⟨m', hm'⟩ : ∃ m' : Str → Option Value, m' = fun y => [(("environ" : Str), Value.ref d)].reverse.lookup y := ⟨_, rfl⟩
  generalize s.toks + List.length [(("environ" : Str), Value.ref d)] = tk0
  clear hr hd0
  -- SERVER_NAME, SERVER_PROTOCOL
  refine g_execs (lift ?_)
  k_steps
  dsimp only
  refine g_execs (lift ?_)
  k_steps
  dsimp only
  -- HTTP_HOST
  rename Rel _ _ (sd (sd _ _ _) _ _) => r2
  obtain ⟨vSN, eSN, hSN⟩ := r2.at (k := "SERVER_NAME") (by rw [look_sd, if_neg (by decide), look_sd, if_pos rfl])
  have eSN' := (valueAt_look _ _).trans eSN
  refine g_execs (lift ?_)
  k_steps
  dsimp only
  refine g_execs (lift ?_)
  k_steps
  dsimp only
  -- SCRIPT_NAME, PATH_INFO
  rename Rel _ _ (sd (sd (sd (sd _ _ _) _ _) _ _) _ _) => r4
  rename _ ≤ 100 + 1 + 1 + 1 + 1 => l4
  have hgS : (look S "SERVER_NAME").getD (.str "127.0.0.1") = (look S "SERVER_NAME").getD (.str "127.0.0.1") := rfl
  generalize hS4 : sd (sd (sd (sd S "SERVER_NAME" (.str "127.0.0.1")) "SERVER_PROTOCOL" (.str "HTTP/1.0")) "HTTP_HOST" ((look S "SERVER_NAME").getD (.str "127.0.0.1"))) "REQUEST_METHOD" (.str "GET") = S4 at r4
  refine g_execs (lift (wpAny_mono (Q := fun f s' => Stop (f = .next ∧ ∃ h' o' k' t', s' = { s with heap := h', toks := t' } ∧ Fr g L' h' (fun y => [(("environ" : Str), Value.ref d)].reverse.lookup y) ∧ News g L' h' [(d, o')] ∧ o'.IsDictOf (strKind PySem.Challenge.rw_kn0093_01.row.prog w) k' ∧
      Rel (fun a o => g.get? a = some o) k' (if (look S4 "SCRIPT_NAME").isSome || (look S4 "PATH_INFO").isSome then S4 else sd (sd S4 "SCRIPT_NAME" (.str "")) "PATH_INFO" (.str "/")) ∧ k'.length ≤ 106)) ?_ (fun f s' hq => ?_) fun _ _ e => e))
  · have b1 := (congrArg Option.isSome (valueAt_look _ _)).trans (r4.isSome (k := "SCRIPT_NAME"))
    have b2 := (congrArg Option.isSome (valueAt_look _ _)).trans (r4.isSome (k := "PATH_INFO"))
    cases c1 : (look S4 "SCRIPT_NAME").isSome <;> cases c2 : (look S4 "PATH_INFO").isSome <;> rw [c1] at b1 <;> rw [c2] at b2
    all_goals
      k_steps
      try dsimp only
      refine Stop.mk ⟨rfl, _, _, _, _, rfl, by k_asm, by k_asm, by k_asm, ?_, ?_⟩
      · first
        | exact r4
        | ((show Rel _ _ (sd (sd S4 _ _) _ _)); assumption)
      · first
        | exact Nat.le_trans l4 (by decide)
        | exact Nat.le_trans (by assumption : _ ≤ 100 + 1 + 1 + 1 + 1 + 1 + 1) (by decide)
  obtain ⟨rfl, h5, o5, k5, t5, rfl, F5, N5, d5, r5, l5⟩ := hq
  dsimp only
  -- wsgi.version
  have Z5 := And.intro F5 N5
  refine g_execs (g_Expr (g_CallMeth (lift ?_)))
  k_steps
  refine lift ?_
  k_steps
  refine g_callWith rfl (g_args (g_spliced (g_eq (if_neg Bool.false_ne_true) (lift ?_))))
  k_steps
  refine g_spliced (g_eq (if_neg Bool.false_ne_true) (lift ?_))
  k_steps
  refine g_spliced0 ?_
  refine ⟨⟨_, .inr (.inl rfl), .now⟩, lift (wpAny_mono ?_ (fun _ _ q => lift q) (fun _ _ e => e))⟩
  rename_i D6 h6 F6 N6 l6
  have P6 : Rel (fun a o => g.get? a = some o ∨ (a, o) ∈ [(D6, tupObj #[Value.int 1 (t5 + 1), Value.int 0 (t5 + 1 + 1)])]) k5 _ := r5.mono fun a o _ e => .inl e
  have l6' := ltN l6
  refine my_setdefR (dv := .ver) F6 N6 (.tail (Nat.ne_of_gt l6) (.head (List.forall_mem_nil _))) d5 lo P6 ⟨_, _, .inr (.head _)⟩ l5 (by decide) fun h7 o7 v7 k7 F7 N7 d7 r7 l7 => ?_
  generalize hS6 : sd _ "wsgi.version" D.ver = S6 at r7
  clear P6 r5 F6 N6 Z5
  refine wpAny_dropValue ?_
  dsimp only
  refine g_execs (lift ?_)
  k_steps
  dsimp only
  refine g_execs (lift ?_)
  k_steps
  dsimp only
  refine g_execs (lift ?_)
  k_steps
  dsimp only
  refine g_execs (lift ?_)
  k_steps
  dsimp only
  rename Obj.IsDictOf _ _ _ => d9
  rename Rel _ _ (sd (sd (sd S6 _ _) _ _) _ _) => r9
  rename News g L' _ _ => N9
  rename Fr g L' _ _ => F9
  rename _ ≤ 106 + 1 + 1 + 1 + 1 => l9
  generalize hS9 : sd (sd (sd S6 "wsgi.run_once" (.int 0)) "wsgi.multithread" (.int 0)) "wsgi.multiprocess" (.int 0) = S9 at r9
  have Z9 := And.intro F9 N9
  -- wsgi.input
  refine g_execs (g_Expr (g_CallMeth (lift ?_)))
  k_steps
  refine lift ?_
  k_steps
  refine g_callWith rfl (g_args (g_spliced (g_eq (if_neg Bool.false_ne_true) (lift ?_))))
  k_steps
  refine g_spliced (g_eq (if_neg Bool.false_ne_true) (g_CallName (lift ?_)))
  k_steps
  obtain ⟨F9, N9⟩ := Z9
  refine g_callWith rfl (g_args0 ⟨⟨_, .inr (.inl rfl), Looks.of_peek (X₁.keeps F9.keep) (by kernel_rfl)⟩, g_call (bytesIO_call X₁ T₁ B₁ F9 hd5 hu5 fun x dx y t₁ t₂ t₃ h10 t10 hk10 hx hdx hy f1 f2 f3 => ?_)⟩)
  dsimp only
  refine g_spliced0 ?_
  refine ⟨⟨_, .inr (.inl rfl), .now⟩, lift (wpAny_mono ?_ (fun _ _ q => lift q) (fun _ _ e => e))⟩
  have F10 := frGrow F9 hk10
  have f1' := leN f1
  have f2' := ltN f2
  have f3' := ltN f3
  have N10 := newsAdd F9 (newsAdd F9 (newsAdd F9 (newsGrow N9 hk10) hdx f1) hx (Nat.le_of_lt (Nat.lt_of_le_of_lt f1 f2))) hy (Nat.le_of_lt (Nat.lt_of_le_of_lt f1 (Nat.lt_trans f2 f3)))
  have hF9k := F9.keep
  have hd9 := ltN (Heap.lt_size (N9 _ (.tail _ (.head _))).1)
  have hD9 := ltN (Heap.lt_size (N9 _ (.head _)).1)
  dsimp only at hd9 hD9 f1'
  have v1 := Nat.lt_of_lt_of_le hd9 f1'
  have v2 := Nat.lt_trans v1 f2'
  have v3 := Nat.lt_trans v2 f3'
  have r10 : Rel (fun a o => g.get? a = some o ∨ (a, o) ∈ [(x, instObj 365 dx), (D6, tupObj #[Value.int 1 (t5 + 1), Value.int 0 (t5 + 1 + 1)])]) _ S9 := r9.mono fun a o _ e => e.imp id (.tail _)
  refine my_setdefR (dv := .obj x) F10 N10 (.tail (Nat.ne_of_gt v3) (.tail (Nat.ne_of_gt v2) (.tail (Nat.ne_of_gt v1) (.tail (Nat.ne_of_gt l6) (.head (List.forall_mem_nil _)))))) d9 lo r10 ⟨rfl, _, _, .inr (.head _)⟩ l9 (by decide) fun h11 o11 v11 k11 F11 N11 d11 r11 l11 => ?_
  clear r10 r9 N10 F10 N9 F9
  refine wpAny_dropValue ?_
  dsimp only
  -- wsgi.errors
  have Z11 := And.intro F11 N11
  refine g_execs (g_Expr (g_CallMeth (lift ?_)))
  k_steps
  refine lift ?_
  k_steps
  refine g_callWith rfl (g_args (g_spliced (g_eq (if_neg Bool.false_ne_true) (lift ?_))))
  k_steps
  refine g_spliced (g_eq (if_neg Bool.false_ne_true) (g_CallName (lift ?_)))
  k_steps
  obtain ⟨F11, N11⟩ := Z11
  refine g_callWith rfl (g_args0 ⟨⟨_, .inr (.inl rfl), Looks.of_peek (X₁.keeps F11.keep) (by kernel_rfl)⟩, g_call (stringIO_call X₁ T₁ B₁ F11 hd5 hu5 fun sx sdx u₁ u₂ u₃ u₄ u₅ u₆ h12 t12 hk12 hsx hsdx e1 e2 => ?_)⟩)
  dsimp only
  refine g_spliced0 ?_
  refine ⟨⟨_, .inr (.inl rfl), .now⟩, lift (wpAny_mono ?_ (fun _ _ q => lift q) (fun _ _ e => e))⟩
  have F12 := frGrow F11 hk12
  have e1' := leN e1
  have e2' := ltN e2
  have N12 := newsAdd F11 (newsAdd F11 (newsGrow N11 hk12) hsdx e1) hsx (Nat.le_of_lt (Nat.lt_of_le_of_lt e1 e2))
  have hy11 := ltN (Heap.lt_size (N11 _ (.head _)).1)
  dsimp only at hy11 e1'
  have v4 := Nat.lt_trans v3 (Nat.lt_of_lt_of_le hy11 e1')
  have v5 := Nat.lt_trans v4 e2'
  have r12 : Rel (fun a o => g.get? a = some o ∨ (a, o) ∈ [(sx, instObj 612 sdx), (x, instObj 365 dx), (D6, tupObj #[Value.int 1 (t5 + 1), Value.int 0 (t5 + 1 + 1)])]) _ _ := r11.mono fun a o _ e => e.imp id (.tail _)
  refine my_setdefR (dv := .obj sx) F12 N12 (.tail (Nat.ne_of_gt v5) (.tail (Nat.ne_of_gt v4) (.tail (Nat.ne_of_gt v3) (.tail (Nat.ne_of_gt v2) (.tail (Nat.ne_of_gt v1) (.tail (Nat.ne_of_gt l6) (.head (List.forall_mem_nil _)))))))) d11 lo r12 ⟨rfl, _, _, .inr (.head _)⟩ l11 (by decide) fun h13 o13 v13 k13 F13 N13 d13 r13 l13 => ?_
  clear r12 r11 N12 F12 N11 F11
  refine wpAny_dropValue ?_
  dsimp only
  -- wsgi.url_scheme
  have eO : ∀ k : Str, k = "HTTPS" ∨ k = "wsgi.url_scheme" → look (sd (sd S9 "wsgi.input" (.obj x)) "wsgi.errors" (.obj sx)) k = look S k := by
    rintro k (rfl | rfl)
    all_goals
      rw [look_sd, if_neg (by decide), look_sd, if_neg (by decide), ← hS9, look_sd, if_neg (by decide), look_sd, if_neg (by decide), look_sd, if_neg (by decide), ← hS6, look_sd, if_neg (by decide)]
      split
      · rw [← hS4, look_sd, if_neg (by decide), look_sd, if_neg (by decide), look_sd, if_neg (by decide), look_sd, if_neg (by decide)]
      · rw [look_sd, if_neg (by decide), look_sd, if_neg (by decide), ← hS4, look_sd, if_neg (by decide), look_sd, if_neg (by decide), look_sd, if_neg (by decide), look_sd, if_neg (by decide)]
  generalize hS11 : sd (sd S9 "wsgi.input" (.obj x)) "wsgi.errors" (.obj sx) = S11 at r13 eO
  have Z13 := And.intro F13 N13
  refine g_execs (g_Expr (g_CallMeth (lift ?_)))
  k_steps
  refine lift ?_
  k_steps
  refine g_callWith rfl (g_args (g_spliced (g_eq (if_neg Bool.false_ne_true) (lift ?_))))
  k_steps
  refine g_spliced (g_eq (if_neg Bool.false_ne_true) (g_CallName (lift ?_)))
  k_steps
  refine g_callWith rfl (g_args (g_spliced (g_eq (if_neg Bool.false_ne_true) (lift ?_))))
  k_steps
  obtain ⟨F13, N13⟩ := Z13
  refine g_spliced0 ?_
  refine ⟨⟨_, .inl rfl, Looks.of_peek (X₁.keeps F13.keep) (by kernel_rfl)⟩, g_call (liftC (guess_call (a := d) (d := d) (od := o13) rfl rfl X₁ T₁ B₁ F13 (fun p hp => N13 p (by obtain rfl := List.mem_singleton.mp hp; simp)) hd5 hu5 lo d13 r13 (fun x e => hH x ((eO _ (.inl rfl)).symm.trans e)) fun h14 t14 tk hk14 => ?_))⟩
  dsimp only
  refine g_spliced0 ?_
  refine ⟨⟨_, .inr (.inl rfl), .now⟩, lift (wpAny_mono ?_ (fun _ _ q => lift q) (fun _ _ e => e))⟩
  have F14 := frGrow F13 hk14
  have N14 := newsGrow N13 hk14
  refine my_setdefR (dv := .str (guessS S11)) F14 N14 (.tail (Nat.ne_of_gt v5) (.tail (Nat.ne_of_gt v4) (.tail (Nat.ne_of_gt v3) (.tail (Nat.ne_of_gt v2) (.tail (Nat.ne_of_gt v1) (.tail (Nat.ne_of_gt l6) (.head (List.forall_mem_nil _)))))))) d13 lo r13 rfl l13 (by decide) fun h15 o15 v15 k15 F15 N15 d15 r15 l15 => ?_
  clear r13 N13 F13 N14 F14
  refine wpAny_dropValue ?_
  dsimp only
  have hu : ∃ yS, (look S11 "wsgi.url_scheme").getD (.str (guessS S11)) = .str yS := by
    rw [eO _ (.inr rfl)]
    cases q : look S "wsgi.url_scheme" with
    | none => exact ⟨_, rfl⟩
    | some v => obtain ⟨y, rfl⟩ := hU v q; exact ⟨y, rfl⟩
  obtain ⟨yS, hyS⟩ := hu
  obtain ⟨vU, eU, hvU⟩ := r15.at (k := "wsgi.url_scheme") (by rw [look_sd, if_pos rfl, hyS])
  obtain ⟨tU, rfl⟩ := hvU.isStr
  have eU' := (valueAt_look _ _).trans eU
  clear eU hvU
  generalize hS12 : sd S11 "wsgi.url_scheme" (D.str (guessS S11)) = S12 at r15
  refine g_execs (lift (wpAny_mono (Q := fun f s' => Stop (f = .next ∧ ∃ h' o' k' t', s' = { s with heap := h', toks := t' } ∧ Fr g L' h' (fun y => [(("environ" : Str), Value.ref d)].reverse.lookup y) ∧
      News g L' h' [(sx, instObj 612 sdx), (sdx, dictOf [⟨PyData.keyHash w.params "_StringIO__newline", .str "_StringIO__newline" u₁, .str "\n" u₂⟩, ⟨PyData.keyHash w.params "_StringIO__buf", .str "_StringIO__buf" u₃, .str "" u₄⟩, ⟨PyData.keyHash w.params "_StringIO__pos", .str "_StringIO__pos" u₅, .int 0 u₆⟩] 3), (y, baObj #[]), (x, instObj 365 dx),
        (dx, dictOf [⟨PyData.keyHash w.params "_BytesIO__buf", .str "_BytesIO__buf" t₁, .ref y⟩, ⟨PyData.keyHash w.params "_BytesIO__pos", .str "_BytesIO__pos" t₂, .int 0 t₃⟩] 2), (D6, tupObj #[Value.int 1 (t5 + 1), Value.int 0 (t5 + 1 + 1)]), (d, o')] ∧ o'.IsDictOf (strKind PySem.Challenge.rw_kn0093_01.row.prog w) k' ∧
      Rel (fun a o => g.get? a = some o ∨ (a, o) ∈ [(sx, instObj 612 sdx), (x, instObj 365 dx), (D6, tupObj #[Value.int 1 (t5 + 1), Value.int 0 (t5 + 1 + 1)])]) k' (if yS == "http" then sd S12 "SERVER_PORT" (.str "80") else if yS == "https" then sd S12 "SERVER_PORT" (.str "443") else S12) ∧ k'.length ≤ 115)) ?_ (fun f s' hq => ?_) fun _ _ e => e))
  · k_steps
    all_goals try dsimp only
    all_goals
      refine Stop.mk ⟨rfl, _, _, _, _, rfl, by k_asm, by k_asm, by k_asm, ?_, ?_⟩
      · first
        | (rw [if_pos (by assumption)]; assumption)
        | (rw [if_neg (by simp_all), if_pos (by assumption)]; assumption)
        | (rw [if_neg (by simp_all), if_neg (by simp_all)]; assumption)
      · first
        | exact Nat.le_trans l15 (by decide)
        | exact Nat.le_trans (by assumption : _ ≤ 106 + 1 + 1 + 1 + 1 + 1 + 1 + 1 + 1) (by decide)
  obtain ⟨rfl, h16, o16, k16, t16, rfl, F16, N16, d16, r16, l16⟩ := hq
  dsimp only
  refine g_nil ?_
  have hSN : look (sd (sd S "SERVER_NAME" (.str "127.0.0.1")) "SERVER_PROTOCOL" (.str "HTTP/1.0")) "SERVER_NAME" = some ((look S "SERVER_NAME").getD (.str "127.0.0.1")) := by rw [look_sd, if_neg (by decide), look_sd, if_pos rfl]
  have hS : setupS S x sx = if yS == "http" then sd S12 "SERVER_PORT" (.str "80") else if yS == "https" then sd S12 "SERVER_PORT" (.str "443") else S12 := by
    have q : look S12 "wsgi.url_scheme" = some (.str yS) := by rw [← hS12, look_sd, if_pos rfl, hyS]
    unfold setupS
    dsimp only
    rw [hS4, hS6, hS9, hS11, hS12, q]
  have m0 := N16 _ (.head _)
  have m1 := N16 _ (.tail _ (.head _))
  have m2 := N16 _ (.tail _ (.tail _ (.head _)))
  have m3 := N16 _ (.tail _ (.tail _ (.tail _ (.head _))))
  have m4 := N16 _ (.tail _ (.tail _ (.tail _ (.tail _ (.head _)))))
  have m5 := N16 _ (.tail _ (.tail _ (.tail _ (.tail _ (.tail _ (.head _))))))
  have m6 := N16 _ (.tail _ (.tail _ (.tail _ (.tail _ (.tail _ (.tail _ (.head _)))))))
  refine post h16 t16 o16 k16 x dx y sx sdx (fun b o hb e => F16.keep b o (hk b o e (by simpa using hb))) m6.1 d16 (hS ▸ r16.mono fun a o _ e => ?_) l16 (fun b o e => ?_) f2 f3 (Nat.lt_of_lt_of_le hy11 e1) e2 ⟨m3.1, ⟨_, _, _, m4.1⟩, m2.1⟩ ⟨m0.1, _, _, _, _, _, _, m1.1⟩
  · rcases e with e | e
    · exact F16.keep _ _ e
    · refine (N16 (a, o) ?_).1
      simp only [List.mem_cons, List.not_mem_nil, or_false] at e ⊢
      rcases e with e | e | e <;> simp [e]
  · by_cases q : b = d
    · subst q; exact Nat.lt_of_lt_of_le hd9 f1
    · exact Nat.lt_of_lt_of_le (Heap.lt_size (hF9k b o (hk b o e (by simpa using q)))) f1
end Mine
end
section -- G6
open PySem PySem.W PyProof.Rows PySem.Calls
set_option maxRecDepth 100000
namespace Mine

def isTupO (o : Obj) : Prop := o.cls = .type "tuple" ∧ ∃ its n, o.data = .seq its n
section
variable {prog : Program} {w : World} {A : Around} {R : Result → Shared → Prop} {s : Shared}
end

section
variable {prog : Program} {w : World} {A : Around} {E : Value → Shared → Prop} {env : Env} {s : Shared}
end
end Mine
end
section -- G7
open PySem PySem.W PyProof.Rows PySem.Calls
set_option maxRecDepth 100000
namespace Mine
theorem g_loop' {M : Model} {A : Around} {c : Code} {R : Result → Shared → Prop} (hq : c.quiet = true) (hb : bad c = false) (I : Nat → Shared → Prop)
    (turn : ∀ n s, I n s → wpG M (A.under c) (M.den c) (fun fin s' => match fin with
        | .done f => R (.ok f) s'
        | .again c' => (c' = c ∧ ∃ m, m < n ∧ I m s') ∨ (c'.quiet = true ∧ bad c' = false ∧ codeG M A c' R s')) (fun e s' => R (.error e) s') s)
    {s : Shared} (n : Nat) (h : I n s) : codeG M A c R s := by
  induction n using Nat.strongRecOn generalizing s with
  | ind n ih =>
    refine g_tree (g_mono (turn n s h) (fun fin s' hf => ?_) fun _ _ h' => h')
    cases fin with
    | done f => exact hf
    | again c' =>
      rcases hf with ⟨rfl, m, hm, hI⟩ | hf
      · exact ⟨hq, hb, ih m hm hI⟩
      · exact hf
section
variable {prog : Program} {w : World} {A : Around} {s : Shared} {env : Env}
/-- a for whose body stands in good contexts -/
theorem g_forLoop {R : Result → Shared → Prop} {target it body env} (I : Nat → Shared → Prop)
    (turn : ∀ n s, I n s → wpAny (model prog w) A (pyNext it) (fun r s₁ => match r with
      | none => R (.ok .next) s₁
      | some v => wpAny (model prog w) A (assign target env v) (fun _ s₂ => wpG (model prog w) A (execs body env) (fun f s₃ => match f with
          | .next | .cont => ∃ m, m < n ∧ I m s₃
          | .brk => R (.ok .next) s₃
          | .ret v => R (.ok (.ret v)) s₃) (fun _ _ => False) s₂) (fun _ _ => False) s₁) (fun _ _ => False) s)
    (n : Nat) (h : I n s) (ht : ∀ v, letOwnedTupleGo target it v = pure () := by intro _; rfl) : codeG (model prog w) A (.forLoop target it body [] env) R s := by
  refine g_loop' rfl rfl I (fun n s hI => ?_) n h
  show wpG _ A ((forTurn target it body [] env).onRaise (fun x => do noteFrame x env; theTreesLotGoes x)) _ _ s
  refine g_onRaise (g_mono (E := fun _ _ => False) ?_ (fun _ _ q => q) fun _ _ e => e.elim)
  simp only [forTurn]
  refine g_at (g_step (wpAny_onRaise (wpAny_mono (turn n s hI) (fun r s₁ h₁ => ?_) fun _ _ h' => h'.elim)))
  cases r with
  | none => exact g_pure (.inr ⟨rfl, rfl, liftC (codeAny_block (wpAny_pure h₁))⟩)
  | some v =>
    refine g_eq (congrArg (· >>= _) (ht v)) (g_bind (g_pure (g_step (wpAny_mono h₁ (fun _ s₂ h₂ => g_bind (g_mono h₂ (fun f s₃ h₃ => ?_) fun _ _ h' => h'.elim)) fun _ _ h' => h'.elim))))
    cases f with
    | next => exact g_pure (.inl ⟨rfl, h₃⟩)
    | cont => exact g_pure (.inl ⟨rfl, h₃⟩)
    | brk => exact g_pure h₃
    | ret v => exact g_pure h₃
theorem g_For {target iter body pos} {Q : Flow → Shared → Prop}
    (h : wpAny (model prog w) A (eval iter env) (fun x s₁ => wpAny (model prog w) A (pyIter x) (fun it s₂ =>
      codeG (model prog w) A (.forLoop target it body [] env) (fun r s' => match r with | .ok f => Q f s' | .error e => False) s₂) (fun _ _ => False) s₁) (fun _ _ => False) s)
    (hs : ∀ x, foldedSetIterable iter env x = pure x := by intro _; rfl) :
    wpG (model prog w) A (exec (.For target iter body [] pos) env) Q (fun _ _ => False) s := by
  rw [exec_For]
  refine g_at (g_step (wpAny_mono h (fun x s₁ h₁ => g_eq (congrArg (· >>= _) (hs x)) (g_bind (g_pure (g_at (g_bind (g_holding (lift (wpAny_mono h₁ (fun it s₂ h₂ => ?_) fun _ _ e => e)))))))) fun _ _ e => e))
  unfold runOwn
  exact g_onRaise (g_mono (g_run (E := fun _ _ => False) h₂) (fun _ _ q => q) fun _ _ e => e.elim)

end
end Mine
end
section -- G8
open PySem PySem.W PyProof.Rows PySem.Calls
set_option maxRecDepth 100000
namespace Mine
theorem a_execs {M : Model} {A : Around} {E : Value → Shared → Prop} {s : Shared} {env : Env} {st : Stmt} {rest : List Stmt} {Q : Flow → Shared → Prop}
    (h : wpAny M A (exec st env) (fun f s' => match f with | .next => wpAny M A (execs rest env) Q E s' | f => Q f s') E s) : wpAny M A (execs (st :: rest) env) Q E s := by
  rw [execs_cons]
  refine wpAny_bind (wpAny_mono h (fun f s' h' => ?_) fun _ _ e => e)
  cases f <;> first | exact h' | exact wpAny_pure h'

section
variable {P P' : Addr → Obj → Prop} {h h' : Heap}
end
theorem look_none_of {α : Type} {S : List (Str × α)} {k : Str} (h : ∀ (i : Nat) (p : Str × α), S[i]? = some p → p.1 ≠ k) : look S k = none := by
  unfold look
  have : S.find? (fun p => decide (p.1 = k)) = none := List.find?_eq_none.mpr fun p hp => by
    obtain ⟨i, hi, e⟩ := List.mem_iff_getElem.mp hp
    simpa using h i p (by rw [List.getElem?_eq_getElem hi, e])
  rw [this]; rfl
theorem look_some_of {α : Type} : ∀ {S : List (Str × α)} {k : Str} {i : Nat} {d : α}, S[i]? = some (k, d) → (∀ (j : Nat) (p : Str × α), j < i → S[j]? = some p → p.1 ≠ k) → look S k = some d
  | p :: S, k, 0, d, e, _ => by
    cases e
    simp [look]
  | p :: S, k, i + 1, d, e, h => by
    have h0 : p.1 ≠ k := h 0 p (Nat.succ_pos i) rfl
    have := look_some_of (S := S) (k := k) (i := i) (d := d) (by simpa using e) fun j q hj hq => h (j + 1) q (Nat.succ_lt_succ hj) (by simpa using hq)
    unfold look at this ⊢
    rw [List.find?_cons_of_neg (by simpa using h0)]
    exact this
end Mine
end
section -- G9
open PySem PySem.W PyProof.Rows PySem.Calls
set_option maxRecDepth 100000
namespace Mine
section
variable {prog : Program} {w : World} {A A₀ : Around} {s : Shared} {base h₀ : Heap} {outer : List Env} {L : Addr} {m : Str → Option Value} {env : Env} {news : List (Addr × Obj)} {E : Value → Shared → Prop}
  {R : Result → Shared → Prop} {name qual : Str} {params : Arguments} {body : List Stmt} {scope : Scope} {dV kV doc pm cdv ct : Value} {an : Option Addr} {K : Frag} {oc : Value} {od : Option Addr} {osl : Array (Option Value)} {f : Addr} {args : Args} {binds : List (Str × Value)}
end

section
variable {prog : Program} {w : World} {A : Around} {E : Value → Shared → Prop} {env : Env} {s : Shared}
open PySem.SeqAt in
open PySem.SeqAt in
open PySem.SeqAt in
end
end Mine
end
section -- G10
open PySem PySem.W PyProof.Rows PySem.Calls
set_option maxRecDepth 100000
namespace Mine
section
variable {prog : Program} {w : World} {A : Around} {E : Value → Shared → Prop} {s : Shared} {l b : Addr} {items items2 : Array Value} {n n2 : Nat}
abbrev listO (items : Array Value) (n : Nat) : Obj := { cls := .type "list", data := .seq items n }
end

end Mine
end
section -- G11
open PySem PySem.W PyProof.Rows PySem.Calls
set_option maxRecDepth 100000
namespace Mine
section
variable {M : Model} {A : Around} {E : Value → Shared → Prop} {s : Shared} {env : Env}
theorem a_test {l r : Expr} {op : CmpOp} {pos : Pos} {whole : Sem Value} {Q : Bool → Shared → Prop}
    (h : wpAny M A (eval l env) (fun a s₁ => wpAny M A (eval r env) (fun b s₂ => wpAny M A (compareOp op a b) (fun c s₃ => wpAny M A (truthy c) Q E s₃) E s₂) E s₁) E s)
    (hm : behindInMarks op r = false := by with_unfolding_all rfl) : wpAny M A (isTrue (.Compare l [op] [r] pos) env whole) Q E s := by
  rw [isTrue_Compare1]
  refine wpAny_bind (wpAny_mono h (fun a s₁ h₁ => ?_) fun _ _ e => e)
  rw [markedBehindIn_of_false hm]
  exact wpAny_bind (wpAny_holding (wpAny_mono h₁ (fun b s₂ h₂ => wpAny_bind (wpAny_standAt (wpAny_bind (wpAny_operateT (wpAny_mono h₂ (fun c s₃ h₃ => wpAny_holding h₃) fun _ _ e => e))))) fun _ _ e => e))
end
section
variable {prog : Program} {w : World} {A : Around} {E : Value → Shared → Prop} {env : Env} {s : Shared}
end
end Mine
end
section -- G12
open PySem PySem.W PyProof.Rows PySem.Calls
set_option maxRecDepth 100000
namespace Mine
section
variable {prog : Program} {w : World} {s : Shared} {R : Result → Shared → Prop} {name qual : Str} {params : Arguments} {body : List Stmt} {scope : Scope} {dV kV doc pm cdv ct : Value} {an : Option Addr} {K : Frag} {oc : Value} {od : Option Addr} {osl : Array (Option Value)} {f : Addr} {args : Args} {binds : List (Str × Value)}
/-- the claim's own call of a def with cells -/
theorem g_topCell (hlim : s.heap.NoLimit) (X : K.In s.heap) (ho : K.lookup f = some ⟨oc, od, .func (fnOf name qual params body scope dV kV doc pm an cdv ct), osl⟩) (hcd : codeIn K cdv qual = true)
    (hbind : BindsTo s (fnOf name qual params body scope dV kV doc pm an cdv ct) args binds)
    (hkind : (binds.all fun y => scope.names.lookup y.1 == some .local || scope.names.lookup y.1 == some .cell) = true) (hnd : ((cellsFrom 0 scope.names []).map (·.1)).Nodup)
    (h : ∀ L' h₁ tk cells, Fr s.heap L' h₁ (bindL (envOfC qual scope L' f cdv).kindOf binds fun _ => none) → News s.heap L' h₁ cells →
      CellsAre (bindC (envOfC qual scope L' f cdv).kindOf binds fun _ => none) (cellsFrom (L' + 1) scope.names []) cells →
      wpG (model prog w) (callerA.deeper (envOfC qual scope L' f cdv)) (execs body (envOfC qual scope L' f cdv))
        (fun fl s' => R (.ok (.ret (match fl with | .ret v => v | _ => .none))) s') (fun _ _ => False) { s with heap := h₁, toks := tk })
    (hco : scope.isCoroutine = false := by rfl) (hgen : scope.isGenerator = false := by rfl) (hk : scope.kind = .function := by rfl) : codeG (model prog w) callerA (.call (.ref f) args) R s := by
  refine g_callFunction (fd := fnOf name qual params body scope dV kV doc pm an cdv ct) (body := body) (by decide) (X _ _ ho) rfl hco hgen rfl (codeRec_of X hcd) (hbind _ _ _ _ ?_)
  refine wpAny_newFunctionEnv_cells hk (kindsX hkind _) fun env' he s' x => ?_
  subst he
  refine ⟨hlim.keeps x.toInCall.keep, g_fun ?_⟩
  obtain ⟨h₁, tk, rfl, _⟩ := x.done
  obtain ⟨cells, NC, Y⟩ := Cl.news (h₀ := s.heap) (Nat.le_refl _) fun n c hm => ⟨x.cell n c (lookup_of_mem_nodup (cellsFrom_names scope.names 0 (s.heap.objs.size + 1) [] [] rfl ▸ hnd) hm), x.above n c hm⟩
  exact h s.heap.objs.size h₁ tk cells ⟨x.toInCall.ns, x.toInCall.keep, Nat.le_refl _⟩ NC Y
end

/-- all that is alive and is not told by name -/
theorem ledger_all (g h : Heap) (L : Addr) (lits : List Addr) : ∃ rest : List (Addr × Obj), News g L h rest ∧ (∀ p ∈ rest, p.1 ∉ lits) ∧ (∀ b o, h.get? b = some o → b ≠ L → g.get? b = none → b ∉ lits → (b, o) ∈ rest) := by
  refine ⟨(List.range h.objs.size).filterMap fun b => if b = L ∨ b ∈ lits ∨ (g.get? b).isSome = true then none else (h.get? b).map fun o => (b, o), fun p hp => ?_, fun p hp => ?_, fun b o e n1 n2 n3 => ?_⟩
  · obtain ⟨b, _, e⟩ := List.mem_filterMap.mp hp
    split at e
    · cases e
    · rename_i q
      simp only [not_or] at q
      obtain ⟨o, ho, rfl⟩ := Option.map_eq_some_iff.mp e
      exact ⟨ho, q.1, by cases z : g.get? b with
        | none => rfl
        | some _ => exact absurd (by rw [z]; rfl) q.2.2⟩
  · obtain ⟨b, _, e⟩ := List.mem_filterMap.mp hp
    split at e
    · cases e
    · rename_i q
      simp only [not_or] at q
      obtain ⟨o, ho, rfl⟩ := Option.map_eq_some_iff.mp e
      exact q.2.1
  · refine List.mem_filterMap.mpr ⟨b, List.mem_range.mpr (Heap.lt_size e), ?_⟩
    rw [if_neg (by rw [n2]; simp [n1, n3]), e]; rfl
end Mine
end
section -- G13
open PySem PySem.W PyProof.Rows PySem.Calls
set_option maxRecDepth 100000
namespace Mine
theorem slot_ba_len : Slot "bytearray" "__len__" "bytearray.__len__" :=
  .of (owner := "bytearray") (n := "__len__") (by rw [typeLookup_type, builtinLookup_eq_fast]; kernel_rfl) (by decide +kernel) (by decide +kernel) (by decide +kernel)
    (by first | exact .inl (by decide +kernel) | exact .inr (by decide +kernel)) (by rw [isSubtype_type]; kernel_rfl)
theorem entry_ba_len : entryFor table "bytearray.__len__" = some Builtin.«bytearray.__len__» := entryFor_of_tree (by kernel_rfl)
theorem args_ba_len (a : Value) : argsOk "bytearray.__len__" ⟨[a], []⟩ := by unfold argsOk; kernel_rfl
section
variable {prog : Program} {w : World} {A : Around} {E : Value → Shared → Prop} {s : Shared}
theorem len_ba {y : Addr} {b : Array UInt8} {Q : Value → Shared → Prop} (ho : s.heap.get? y = some (baObj b)) (hz : b.size ≤ 16777216)
    (h : Q (.int b.size (s.toks + 1)) { s with toks := s.toks + 1 + 1 }) : wpAny (model prog w) A (call (.builtin "len") [.ref y]) Q E s := by
  have hT : s.TypeIs (.ref y) "bytearray" := ⟨_, ho, rfl⟩
  refine Calls.call_function_entry PySem.kind_len PySem.plain_len PySem.entry_len (PySem.args_len1 _) ?_
  unfold Builtin.«len»
  refine wpAny_bind (m := oneArg "len" _) (wpAny_pure ?_)
  refine wpAny_bind (m := callSpecial? (.ref y) (Str.ofString "__len__")) (wpAny_callSpecial?_slot (name := Str.ofString "__len__") hT slot_ba_len
    (wpAny_call_entry slot_ba_len hT entry_ba_len ?_ (args_ba_len _)))
  show wpAny _ _ (do retInt (← Builtin.Bytes.payload (.ref y)).size) _ _ s
  unfold Builtin.Bytes.payload Builtin.Bytes.payload?
  refine wpAny_bind (wpAny_bind (wpAny_bind (wpAny_load ho (wpAny_pure (wpAny_pure ?_)))))
  refine wpAny_bind (wpAny_mkInt (wpAny_pure ⟨_, rfl, ?_⟩))
  refine wpAny_bind (wpAny_holding (wpAny_pure ?_))
  refine wpAny_bind (wpAny_letGo ?_)
  show wpAny _ _ (if (b.size : Int) < 0 then _ else _) _ _ _
  rw [if_neg (by omega)]
  show wpAny _ _ (if (b.size : Int) ≥ 2 ^ 63 then _ else _) _ _ _
  rw [if_neg (by omega)]
  exact wpAny_bind (wpAny_mkInt (wpAny_pure ⟨_, rfl, h⟩))
end
end Mine
end
section -- L1i
open PySem PySem.W PyProof.Rows PySem.Calls
set_option maxRecDepth 100000
namespace Mine
set_option maxHeartbeats 4000000
local macro_rules | `(tactic| k_room) => `(tactic| ((try simp only [depth_mark, depth_under_make, depth_under_kw, depth_in1, depth_deeper, depth_caller]); (first | ((show _ + _ < 1000); omega) | ((show _ < 1000); omega))))
local macro_rules | `(tactic| walk_at "call builtin:len") => `(tactic| (k_here; k_dflt (refine' len_ba0 ?N ?m ?_; (case N => k_asm); (case m => k_mem))))
theorem keepNews {h g h' : Heap} {L' : Addr} {m' : Str → Option Value} {news news' : List (Addr × Obj)} (hk : ∀ b o, h.get? b = some o → b ∉ news.map (·.1) → g.get? b = some o) (hd : ∀ p ∈ news, h.get? p.1 = some p.2) (F : Fr g L' h' m') (N : News g L' h' news') (hm : ∀ p ∈ news, p ∈ news') :
    ∀ b o, h.get? b = some o → h'.get? b = some o := fun b o e => by
  by_cases q : b ∈ news.map (·.1)
  · obtain ⟨p, hp, rfl⟩ := List.mem_map.mp q
    rw [hd p hp] at e; cases e
    exact (N _ (hm p hp)).1
  · exact F.keep _ _ (hk _ _ e q)

end Mine
end
section -- L1t
open PySem PySem.W PyProof.Rows PySem.Calls
set_option maxRecDepth 100000
namespace Mine
set_option maxHeartbeats 4000000
def keysAll : List Str := ["SERVER_NAME", "SERVER_PROTOCOL", "HTTP_HOST", "REQUEST_METHOD", "SCRIPT_NAME", "PATH_INFO", "wsgi.version", "wsgi.run_once", "wsgi.multithread", "wsgi.multiprocess", "wsgi.input", "wsgi.errors", "wsgi.url_scheme", "SERVER_PORT"]
def LayOk (x sx : Addr) (k : Str) (d : D) : Prop := k ∈ keysAll ∧ (k = "wsgi.url_scheme" → ∃ y, d = .str y) ∧ (k = "wsgi.input" → d = .obj x) ∧ (k = "wsgi.errors" → d = .obj sx)
theorem layOk_of {x sx : Addr} {k : Str} {d : D} (h : k ∈ keysAll) (h1 : k ≠ "wsgi.url_scheme") (h2 : k ≠ "wsgi.input") (h3 : k ≠ "wsgi.errors") : LayOk x sx k d := ⟨h, fun e => absurd e h1, fun e => absurd e h2, fun e => absurd e h3⟩
theorem setupS_ind (S : List (Str × D)) (x sx : Addr) (P : List (Str × D) → Prop) (h0 : P S) (hs : ∀ T k d, LayOk x sx k d → P T → P (sd T k d)) : P (setupS S x sx) := by
  have pl : ∀ {T k d}, P T → k ∈ keysAll → k ≠ "wsgi.url_scheme" → k ≠ "wsgi.input" → k ≠ "wsgi.errors" → P (sd T k d) := fun h a b c e => hs _ _ _ (layOk_of a b c e) h
  have h4 := pl (d := .str "GET") (pl (d := (look S "SERVER_NAME").getD (.str "127.0.0.1")) (pl (d := .str "HTTP/1.0") (pl (k := "SERVER_NAME") (d := .str "127.0.0.1") h0 (by decide) (by decide) (by decide) (by decide)) (k := "SERVER_PROTOCOL") (by decide) (by decide) (by decide) (by decide)) (k := "HTTP_HOST") (by decide) (by decide) (by decide) (by decide)) (k := "REQUEST_METHOD") (by decide) (by decide) (by decide) (by decide)
  unfold setupS
  dsimp only
  generalize sd (sd (sd (sd S "SERVER_NAME" (.str "127.0.0.1")) "SERVER_PROTOCOL" (.str "HTTP/1.0")) "HTTP_HOST" ((look S "SERVER_NAME").getD (.str "127.0.0.1"))) "REQUEST_METHOD" (.str "GET") = S4 at h4 ⊢
  have h5 : P (if (look S4 "SCRIPT_NAME").isSome || (look S4 "PATH_INFO").isSome then S4 else sd (sd S4 "SCRIPT_NAME" (.str "")) "PATH_INFO" (.str "/")) := by
    split
    · exact h4
    · exact pl (pl h4 (by decide) (by decide) (by decide) (by decide)) (by decide) (by decide) (by decide) (by decide)
  generalize (if (look S4 "SCRIPT_NAME").isSome || (look S4 "PATH_INFO").isSome then S4 else sd (sd S4 "SCRIPT_NAME" (.str "")) "PATH_INFO" (.str "/")) = S5 at h5 ⊢
  have h9 := pl (d := .int 0) (pl (d := .int 0) (pl (d := .int 0) (pl (k := "wsgi.version") (d := .ver) h5 (by decide) (by decide) (by decide) (by decide)) (k := "wsgi.run_once") (by decide) (by decide) (by decide) (by decide)) (k := "wsgi.multithread") (by decide) (by decide) (by decide) (by decide)) (k := "wsgi.multiprocess") (by decide) (by decide) (by decide) (by decide)
  generalize sd (sd (sd (sd S5 "wsgi.version" .ver) "wsgi.run_once" (.int 0)) "wsgi.multithread" (.int 0)) "wsgi.multiprocess" (.int 0) = S9 at h9 ⊢
  have h10 := hs S9 "wsgi.input" (.obj x) ⟨by decide, fun e => absurd e (by decide), fun _ => rfl, fun e => absurd e (by decide)⟩ h9
  have h11 := hs _ "wsgi.errors" (.obj sx) ⟨by decide, fun e => absurd e (by decide), fun e => absurd e (by decide), fun _ => rfl⟩ h10
  generalize sd (sd S9 "wsgi.input" (.obj x)) "wsgi.errors" (.obj sx) = S11 at h11 ⊢
  have h12 := hs _ "wsgi.url_scheme" (.str (guessS S11)) ⟨by decide, fun _ => ⟨_, rfl⟩, fun e => absurd e (by decide), fun e => absurd e (by decide)⟩ h11
  generalize sd S11 "wsgi.url_scheme" (.str (guessS S11)) = S12 at h12 ⊢
  have p1 := pl (d := .str "80") h12 (k := "SERVER_PORT") (by decide) (by decide) (by decide) (by decide)
  have p2 := pl (d := .str "443") h12 (k := "SERVER_PORT") (by decide) (by decide) (by decide) (by decide)
  generalize sd S12 "SERVER_PORT" (.str "80") = T1 at p1 ⊢
  generalize sd S12 "SERVER_PORT" (.str "443") = T2 at p2 ⊢
  generalize look S12 "wsgi.url_scheme" = o
  rcases o with _ | (y | _ | _ | _)
  · exact h12
  · show P (if (y == "http") = true then T1 else if (y == "https") = true then T2 else S12)
    by_cases c1 : (y == "http") = true
    · rw [if_pos c1]; exact p1
    · rw [if_neg c1]
      by_cases c2 : (y == "https") = true
      · rw [if_pos c2]; exact p2
      · rw [if_neg c2]; exact h12
  · exact h12
  · exact h12
  · exact h12
theorem keys_sd {α : Type} (S : List (Str × α)) (k : Str) (d : α) : ∀ y ∈ (sd S k d).map (·.1), y ∈ S.map (·.1) ∨ y = k := by
  intro y hy
  unfold sd at hy
  split at hy
  · exact .inl hy
  · rw [List.map_append, List.mem_append] at hy
    exact hy.imp id fun h => by simpa using h
theorem setup_keys (S : List (Str × D)) (x sx : Addr) : ∀ k ∈ (setupS S x sx).map (·.1), k ∈ S.map (·.1) ∨ k ∈ keysAll := by
  have h := setupS_ind S x sx (fun T => ∀ k ∈ T.map (·.1), k ∈ S.map (·.1) ∨ k ∈ keysAll) (fun k h => .inl h) fun T k d hl hT y hy => (keys_sd T k d y hy).elim (hT y) fun e => .inr (e ▸ hl.1)
  exact h
theorem setup_scheme (S : List (Str × D)) (x sx : Addr) (hU : ∀ v, look S "wsgi.url_scheme" = some v → ∃ y, v = .str y) : ∀ v, look (setupS S x sx) "wsgi.url_scheme" = some v → ∃ y, v = .str y := by
  have h := setupS_ind S x sx (fun T => ∀ v, look T "wsgi.url_scheme" = some v → ∃ y, v = .str y) hU fun T k d hl hT v hv => by
    rw [look_sd] at hv
    split at hv
    · next e =>
      subst e
      cases c : look T "wsgi.url_scheme" with
      | none =>
        rw [c] at hv
        obtain ⟨y, rfl⟩ := hl.2.1 rfl
        exact ⟨y, (Option.some.inj hv).symm⟩
      | some d' =>
        rw [c] at hv
        obtain ⟨y, rfl⟩ := hT d' c
        exact ⟨y, (Option.some.inj hv).symm⟩
    · exact hT v hv
  exact h
theorem setup_obj (S : List (Str × D)) (x sx : Addr) (i : Str) (a : Addr) (ha : ∀ d, LayOk x sx i d → d = .obj a) : look (setupS S x sx) i = look S i ∨ look (setupS S x sx) i = some ((look S i).getD (.obj a)) := by
  have h := setupS_ind S x sx (fun T => look T i = look S i ∨ look T i = some ((look S i).getD (.obj a))) (.inl rfl) fun T k d hl hT => by
    rw [look_sd]
    split
    · next e =>
      subst e
      rw [ha d hl]
      rcases hT with h | h
      · rw [h]; exact .inr rfl
      · rw [h]; exact .inr rfl
    · exact hT
  exact h
theorem look_sd_some {T : List (Str × D)} {k k' : Str} {d : D} (h : (look T k').isSome = true) : (look (sd T k d) k').isSome = true := by
  rw [look_sd]
  split
  · rfl
  · exact h
theorem look_sd_self {T : List (Str × D)} {k : Str} {d : D} : (look (sd T k d) k).isSome = true := by
  rw [look_sd, if_pos rfl]; rfl
/-- what S10 has, the end has -/
theorem setupS_end (S : List (Str × D)) (x sx : Addr) : ∃ S9 S12 : List (Str × D), S12 = sd (sd (sd S9 "wsgi.input" (.obj x)) "wsgi.errors" (.obj sx)) "wsgi.url_scheme" (.str (guessS (sd (sd S9 "wsgi.input" (.obj x)) "wsgi.errors" (.obj sx)))) ∧ (setupS S x sx = S12 ∨ setupS S x sx = sd S12 "SERVER_PORT" (.str "80") ∨ setupS S x sx = sd S12 "SERVER_PORT" (.str "443")) := by
  refine ⟨sd (sd (sd (sd (if (look (sd (sd (sd (sd S "SERVER_NAME" (.str "127.0.0.1")) "SERVER_PROTOCOL" (.str "HTTP/1.0")) "HTTP_HOST" ((look S "SERVER_NAME").getD (.str "127.0.0.1"))) "REQUEST_METHOD" (.str "GET")) "SCRIPT_NAME").isSome || (look (sd (sd (sd (sd S "SERVER_NAME" (.str "127.0.0.1")) "SERVER_PROTOCOL" (.str "HTTP/1.0")) "HTTP_HOST" ((look S "SERVER_NAME").getD (.str "127.0.0.1"))) "REQUEST_METHOD" (.str "GET")) "PATH_INFO").isSome then sd (sd (sd (sd S "SERVER_NAME" (.str "127.0.0.1")) "SERVER_PROTOCOL" (.str "HTTP/1.0")) "HTTP_HOST" ((look S "SERVER_NAME").getD (.str "127.0.0.1"))) "REQUEST_METHOD" (.str "GET") else sd (sd (sd (sd (sd (sd S "SERVER_NAME" (.str "127.0.0.1")) "SERVER_PROTOCOL" (.str "HTTP/1.0")) "HTTP_HOST" ((look S "SERVER_NAME").getD (.str "127.0.0.1"))) "REQUEST_METHOD" (.str "GET")) "SCRIPT_NAME" (.str "")) "PATH_INFO" (.str "/")) "wsgi.version" .ver) "wsgi.run_once" (.int 0)) "wsgi.multithread" (.int 0)) "wsgi.multiprocess" (.int 0), _, rfl, ?_⟩
  unfold setupS
  dsimp only
  generalize sd (sd (sd (sd _ "wsgi.version" D.ver) "wsgi.run_once" (D.int 0)) "wsgi.multithread" (D.int 0)) "wsgi.multiprocess" (D.int 0) = S9
  generalize sd (sd (sd S9 "wsgi.input" (D.obj x)) "wsgi.errors" (D.obj sx)) "wsgi.url_scheme" _ = S12
  generalize sd S12 "SERVER_PORT" (D.str "80") = T1
  generalize sd S12 "SERVER_PORT" (D.str "443") = T2
  generalize look S12 "wsgi.url_scheme" = o
  rcases o with _ | (y | _ | _ | _)
  · exact .inl rfl
  · show (if (y == "http") = true then T1 else if (y == "https") = true then T2 else S12) = S12 ∨ (if (y == "http") = true then T1 else if (y == "https") = true then T2 else S12) = T1 ∨ (if (y == "http") = true then T1 else if (y == "https") = true then T2 else S12) = T2
    by_cases c1 : (y == "http") = true
    · rw [if_pos c1]; exact .inr (.inl rfl)
    · rw [if_neg c1]
      by_cases c2 : (y == "https") = true
      · rw [if_pos c2]; exact .inr (.inr rfl)
      · rw [if_neg c2]; exact .inl rfl
  · exact .inl rfl
  · exact .inl rfl
  · exact .inl rfl
theorem setup_has (S : List (Str × D)) (x sx : Addr) : (look (setupS S x sx) "wsgi.input").isSome = true ∧ (look (setupS S x sx) "wsgi.errors").isSome = true := by
  obtain ⟨S9, S12, e, h⟩ := setupS_end S x sx
  have h1 : (look S12 "wsgi.input").isSome = true := e ▸ look_sd_some (look_sd_some look_sd_self)
  have h2 : (look S12 "wsgi.errors").isSome = true := e ▸ look_sd_some look_sd_self
  rcases h with h | h | h
  · rw [h]; exact ⟨h1, h2⟩
  · rw [h]; exact ⟨look_sd_some h1, look_sd_some h2⟩
  · rw [h]; exact ⟨look_sd_some h1, look_sd_some h2⟩
theorem setup_in (S : List (Str × D)) (x sx : Addr) : look (setupS S x sx) "wsgi.input" = some ((look S "wsgi.input").getD (.obj x)) ∧ look (setupS S x sx) "wsgi.errors" = some ((look S "wsgi.errors").getD (.obj sx)) := by
  have key : ∀ {a b : Option D} {d : D}, (a = b ∨ a = some (b.getD d)) → a.isSome = true → a = some (b.getD d) := by
    intro a b d h hs
    rcases h with h | h
    · subst h
      cases a with
      | none => cases hs
      | some _ => rfl
    · exact h
  exact ⟨key (setup_obj S x sx "wsgi.input" x fun d h => h.2.2.1 rfl) (setup_has S x sx).1, key (setup_obj S x sx "wsgi.errors" sx fun d h => h.2.2.2 rfl) (setup_has S x sx).2⟩
end Mine
end
section -- G14
open PySem PySem.W PyProof.Rows PySem.Calls
set_option maxRecDepth 100000
namespace Mine
theorem ints_paired : ∀ {vs ys : List Value}, Paired (fun _ y => ∃ n t, y = Value.int n t) vs ys → ∃ ns, IntsAre ys ns
  | _, _, .nil => ⟨[], .nil⟩
  | _, _, .cons h r => by
    obtain ⟨n, t, rfl⟩ := h
    obtain ⟨ns, q⟩ := ints_paired r
    exact ⟨n :: ns, .cons n t q⟩
theorem paired_len {F : Value → Value → Prop} : ∀ {vs ys : List Value}, Paired F vs ys → ys.length = vs.length
  | _, _, .nil => rfl
  | _, _, .cons _ r => congrArg (· + 1) (paired_len r)
theorem ints_pick {vs : List Value} {ns : List Int} (hi : IntsAre vs ns) (lo hi' st : Option Int) : AllInts (slicePick vs.toArray lo hi' st) := fun v hv => by
  simp only [slicePick, List.mem_toArray, List.mem_filterMap] at hv
  obtain ⟨j, _, e⟩ := hv
  exact hi.allInts v (Array.mem_of_getElem? e)
section
variable {prog : Program} {w : World} {A : Around} {E : Value → Shared → Prop} {s : Shared} {env : Env}
theorem ListComp_overRange {elt iter : Expr} {x : Str} {px : Pos} {scope : Scope} {cl : List (Str × Addr)} {pos : Pos} {Q : Value → Shared → Prop} (hh : A.handled = none)
    (hclos : closureFor scope env = pure cl) (hcell : ∀ y ∈ scope.names, y.2 ≠ .cell) (hkind : scope.kind = .function)
    (hnames : ∀ y ∈ scope.names, y.2 = .local → scope.names.lookup y.1 = some .local) (hx : scope.names.lookup x = some .local)
    (h : wpAny (model prog w) A (eval iter env) (fun xv s₁ => Stop (∃ r a₀ b₀ c₀ t₀ u₀ v₀, ∃ n : Nat, xv = .ref r ∧ IsRange s₁.heap r a₀ b₀ c₀ t₀ u₀ v₀ ∧ Builtin.Range.small a₀ b₀ c₀ = true ∧ Builtin.Range.rangeSize a₀ b₀ c₀ = (n : Int) ∧ n ≤ sizeLine ∧
      (∀ (C : Addr) (a : Int) (t : Tok) (s₂ : Shared) (m₂ : Str → Option Value) (E' : Value → Shared → Prop), s₁.heap.objs.size ≤ C → s₂.heap.Ns C m₂ → m₂ x = some (.int a t) → (∀ b o, s₁.heap.get? b = some o → s₂.heap.get? b = some o) →
        wpAny (model prog w) A (eval elt (compEnvC scope cl C env)) (fun y s₃ => (∃ n t, y = .int n t) ∧ Keeps s₂ s₃) E' s₂) ∧
      (∀ (D : Addr) (ys : List Value) (ns : List Int) (h' : Heap) (tk : Tok) (k : Nat), s₁.heap.get? D = none → h'.get? D = some (listO ys.toArray k) → IntsAre ys ns → ys.length = n →
        (∀ b o, s₁.heap.get? b = some o → h'.get? b = some o) → Q (.ref D) { s₁ with heap := h', toks := tk }))) E s)
    (hs : ∀ x, foldedSetIterable iter env x = pure x := by intro _; rfl) :
    wpAny (model prog w) A (eval (.ListComp elt [⟨.Name x px, iter, [], 0⟩] scope pos) env) Q E s := by
  refine wpAny_ListComp_free (fun _ => true) (fun _ y => ∃ n t, y = Value.int n t) hclos hcell hkind hnames hx (wpAny_mono h (fun xv s₁ h₁ => ?_) fun _ _ e => e) hs
  obtain ⟨r, a₀, b₀, c₀, t₀, u₀, v₀, n, rfl, hr, hsmall, hn, hsz, helt, hQ⟩ := h₁
  have up : ∀ (s₃ : Shared), (∀ b o, b ∉ [s₁.heap.objs.size] → (s₁.heap.push { cls := .type "range_iterator", data := .fields #[rawInt a₀, rawInt (Builtin.Range.rangeSize a₀ b₀ c₀), rawInt c₀] }).get? b = some o → s₃.heap.get? b = some o) → ∀ b o, s₁.heap.get? b = some o → s₃.heap.get? b = some o :=
    fun s₃ hk b o e => hk b o (fun hm => by rcases List.mem_cons.mp hm with rfl | hm; exact Nat.lt_irrefl _ (Heap.lt_size e); cases hm) (Heap.get?_push_of_some _ e)
  refine wpAny_pyIter_range hr hsmall ⟨s₁.heap.objs.size, [s₁.heap.objs.size], [s₁.heap.objs.size], n, _, _, rfl, (Walks.range hh _ a₀ c₀ n).bound, hsz, (by show IsRangeIter _ _ _ _ _; rw [hn]; simpa using Heap.get?_push_size _ rfl), ?_, ⟨?_, ?_⟩, ?_⟩
  · intro b hb
    show b < (s₁.heap.push _).objs.size
    rw [Heap.size_push]
    rcases List.mem_cons.mp hb with rfl | hb
    · exact Nat.lt_succ_self _
    · cases hb
  · intro C i v s₃ m₃ E' hC hP hn' hm hk _
    exact wpAny_pure ⟨rfl, _, _, rfl, fun _ _ e => e⟩
  · intro C i v s₃ m₃ E' hC hP hp hn' hm hk _
    obtain ⟨_, t, rfl⟩ := hP
    exact helt C _ t s₃ m₃ E' (Nat.le_of_succ_le (by simpa [Heap.size_push] using hC)) hn' hm (up s₃ hk)
  · intro D h' tk ys vs' hnew hlD hplD hlen hP hF hk
    have keep : ∀ b o, s₁.heap.get? b = some o → h'.get? b = some o := up { s₁ with heap := h' } hk
    obtain ⟨k, hpk⟩ := hplD
    obtain ⟨ns, hi⟩ := ints_paired hF
    have hl := paired_len hF
    refine hQ D ys.toList ns h' tk k ?_ (by rw [Array.toArray_toList]; exact hpk) hi (by rw [hl, List.filter_eq_self.mpr fun _ _ => rfl]; exact hlen) keep
    cases q : s₁.heap.get? D with
    | none => rfl
    | some o => have := Heap.get?_push_of_some { cls := .type "range_iterator", data := .fields #[rawInt a₀, rawInt (Builtin.Range.rangeSize a₀ b₀ c₀), rawInt c₀] } q; exact absurd (this.symm.trans hnew) (by simp)
end
end Mine
end
section -- G15
open PySem PySem.W PyProof.Rows PySem.Calls
set_option maxRecDepth 100000
namespace Mine
/- an entry taken out, an entry put -/
def del {α : Type} (S : List (Str × α)) (k : Str) : List (Str × α) := S.filter fun p => decide (p.1 ≠ k)
theorem Rel.del {P : Addr → Obj → Prop} {k : Str} : ∀ {l : List (Str × Value)} {S : List (Str × D)}, Rel P l S → Rel P (without l k) (del S k)
  | [], [], _ => trivial
  | (k₁, v) :: l, (k₂, d) :: S, ⟨a, b, c⟩ => by
    subst a
    unfold without Mine.del
    by_cases h : k₁ = k
    · rw [List.filter_cons_of_neg (by simp [h]), List.filter_cons_of_neg (by simp [h])]
      exact c.del
    · rw [List.filter_cons_of_pos (by simp [h]), List.filter_cons_of_pos (by simp [h])]
      exact ⟨rfl, b, c.del⟩
theorem Rel.keys {P : Addr → Obj → Prop} : ∀ {l : List (Str × Value)} {S : List (Str × D)}, Rel P l S → l.map (·.1) = S.map (·.1)
  | [], [], _ => rfl
  | (_, _) :: _, (_, _) :: _, ⟨a, _, c⟩ => by rw [List.map_cons, List.map_cons, c.keys, a]
theorem look_del {α : Type} (S : List (Str × α)) (k k' : Str) : look (del S k) k' = if k' = k then none else look S k' := by
  induction S with
  | nil => unfold del look; simp
  | cons p S ih =>
    by_cases h : p.1 = k
    · have e : del (p :: S) k = del S k := by unfold del; rw [List.filter_cons_of_neg (by simp [h])]
      rw [e, ih]
      split
      · rfl
      · next q =>
        have : p.1 ≠ k' := fun e => q (e ▸ h)
        unfold look
        rw [List.find?_cons_of_neg (by simpa using this)]
    · have e : del (p :: S) k = p :: del S k := by unfold del; rw [List.filter_cons_of_pos (by simp [h])]
      rw [e]
      by_cases q : p.1 = k'
      · have hk : k' ≠ k := fun e => h (q.trans e)
        rw [if_neg hk]
        unfold look
        rw [List.find?_cons_of_pos (by simpa using q), List.find?_cons_of_pos (by simpa using q)]
      · have e1 : look (p :: del S k) k' = look (del S k) k' := by unfold look; rw [List.find?_cons_of_neg (by simpa using q)]
        have e2 : look (p :: S) k' = look S k' := by unfold look; rw [List.find?_cons_of_neg (by simpa using q)]
        rw [e1, e2, ih]
theorem keys_del {α : Type} (S : List (Str × α)) (k : Str) : ∀ x ∈ (del S k).map (·.1), x ∈ S.map (·.1) := by
  intro x hx
  obtain ⟨p, hp, rfl⟩ := List.mem_map.mp hx
  exact List.mem_map.mpr ⟨p, (List.mem_filter.mp hp).1, rfl⟩
/- comparisons -/
section
open PySem.SeqAt
variable {A : Around} {s : Shared} {P P' : Addr → Obj → Prop}
theorem eqAt_of {a b : Value} {k : Bool} (h : EqAt A s a b k) (e : k = true) : EqAt A s a b true := e ▸ h
theorem eqAt_dv {a b : Value} {d : D} (ha : DV P a d) (hb : DV P' b d) (h : ∀ a o, P a o → s.heap.get? a = some o) (h' : ∀ a o, P' a o → s.heap.get? a = some o) (hu : A.units < cLine) : EqAt A s a b true := by
  cases d with
  | str x =>
    cases a <;> first | exact ha.elim | skip
    cases b <;> first | exact hb.elim | skip
    obtain rfl := (show _ = x from ha)
    obtain rfl := (show _ = _ from hb)
    exact eqAt_of (EqAt.str_str _ _ _ _) (by simp)
  | int x =>
    cases a <;> first | exact ha.elim | skip
    cases b <;> first | exact hb.elim | skip
    obtain rfl := (show _ = x from ha)
    obtain rfl := (show _ = _ from hb)
    exact eqAt_of (EqAt.int_int _ _ _ _) (by simp)
  | ver =>
    cases a <;> first | exact ha.elim | skip
    cases b <;> first | exact hb.elim | skip
    rename_i l b
    obtain ⟨t, u, k⟩ := ha
    obtain ⟨t', u', k'⟩ := hb
    by_cases q : l = b
    · subst q; exact EqAt.same _
    · have z := RcAt.tuples (A := A) (s := s) (e := fun _ => true) ⟨_, h _ _ k, rfl, _, rfl⟩ ⟨_, h' _ _ k', rfl, _, rfl⟩ hu (fun j h1 h2 => ?_)
      · exact eqAt_of (EqAt.of_refs q z) (by simp)
      · rcases j with _ | _ | j
        · exact eqAt_of (EqAt.int_int _ _ _ _) (by simp)
        · exact eqAt_of (EqAt.int_int _ _ _ _) (by simp)
        · simp at h1; omega
  | obj x =>
    cases a <;> first | exact ha.elim | skip
    cases b <;> first | exact hb.elim | skip
    obtain ⟨rfl, _⟩ := ha
    obtain ⟨rfl, _⟩ := hb
    exact EqAt.same _
end

/- kinds -/
section
variable {prog : Program} {w : World} {A : Around} {E : Value → Shared → Prop} {s : Shared} {P : Addr → Obj → Prop}
end
end Mine
end
section -- G16
open PySem PySem.W PyProof.Rows PySem.Calls
set_option maxRecDepth 100000
namespace Mine
/- what the values of an environ speak of: tuples and instances -/
def goodO (o : Obj) : Prop := isTupO o ∨ ∃ C dx, o = instObj C dx
theorem good_tup {its : Array Value} {n : Nat} : goodO { cls := .type "tuple", data := .seq its n } := .inl ⟨rfl, _, _, rfl⟩
theorem good_inst {C dx : Addr} : goodO (instObj C dx) := .inr ⟨_, _, rfl⟩
def Kept (h h' : Heap) : Prop := ∀ b o, goodO o → h.get? b = some o → h'.get? b = some o
theorem Kept.of {h h' : Heap} (k : ∀ b o, h.get? b = some o → h'.get? b = some o) : Kept h h' := fun b o _ e => k b o e
theorem DV.kept {P Q : Addr → Obj → Prop} (h : ∀ a o, goodO o → P a o → Q a o) : ∀ {v : Value} {d : D}, DV P v d → DV Q v d := by
  intro v d x
  cases d <;> cases v <;> first | exact x | exact x.elim | skip
  · obtain ⟨t, u, k⟩ := x; exact ⟨t, u, h _ _ good_tup k⟩
  · obtain ⟨e, C, dx, k⟩ := x; exact ⟨e, C, dx, h _ _ good_inst k⟩
theorem Rel.kept {P Q : Addr → Obj → Prop} (h : ∀ a o, goodO o → P a o → Q a o) : ∀ {l : List (Str × Value)} {S : List (Str × D)}, Rel P l S → Rel Q l S
  | [], [], _ => trivial
  | (_, _) :: _, (_, _) :: _, ⟨a, b, c⟩ => ⟨a, b.kept h, c.kept h⟩
abbrev At (h : Heap) : Addr → Obj → Prop := fun a o => h.get? a = some o
theorem Rel.to {h h' : Heap} {l : List (Str × Value)} {S : List (Str × D)} (r : Rel (At h) l S) (k : Kept h h') : Rel (At h') l S := r.kept k
theorem Rel.idx {P : Addr → Obj → Prop} : ∀ {l : List (Str × Value)} {S : List (Str × D)} {i : Nat} {k : Str} {x : Value} {p : Str × D}, Rel P l S → l[i]? = some (k, x) → S[i]? = some p → p.1 = k ∧ DV P x p.2 := by
  intro l
  induction l with
  | nil => intro S i k x p r e; exact nomatch (show (Option.none : Option (Str × Value)) = Option.some (k, x) from e)
  | cons a l ih =>
    intro S i k x p r e e'
    cases S with
    | nil => exact nomatch (show (Option.none : Option (Str × D)) = Option.some p from e')
    | cons b S =>
      obtain ⟨a1, a2⟩ := a
      obtain ⟨b1, b2⟩ := b
      obtain ⟨h1, h2, h3⟩ := r
      cases i with
      | zero =>
        cases (show Option.some (a1, a2) = Option.some (k, x) from e)
        cases (show Option.some (b1, b2) = Option.some p from e')
        exact ⟨h1.symm, h2⟩
      | succ i => exact ih (i := i) h3 e e'
theorem Fr.notDict {g h : Heap} {L : Addr} {m : Str → Option Value} (F : Fr g L h m) : ∀ o, h.get? L = some o → ¬ goodO o := fun o e t => by
  obtain ⟨o', es, ep, ho, hd, _⟩ := F.ns
  rw [ho] at e; cases e
  rcases t with ⟨_, its, k, q⟩ | ⟨C, dx, rfl⟩
  · rw [hd] at q; cases q
  · cases hd
/-- what is alive and not told by name stays, and so does all of that sort -/
theorem keep_rest {g h h' : Heap} {L : Addr} {m m' : Str → Option Value} {lits : List Addr} {rest : List (Addr × Obj)} (F : Fr g L h m) (F' : Fr g L h' m') (N' : ∀ p ∈ rest, h'.get? p.1 = some p.2)
    (hall : ∀ b o, h.get? b = some o → b ≠ L → g.get? b = none → b ∉ lits → (b, o) ∈ rest) (hno : ∀ b o, b ∈ lits → h.get? b = some o → ¬ goodO o) : Kept h h' := fun b o t e => by
  by_cases q : b = L
  · subst q; exact absurd t (Fr.notDict F _ e)
  · cases c : g.get? b with
    | some o' =>
      have := F.keep _ _ c
      rw [e] at this; cases this
      exact F'.keep _ _ c
    | none =>
      by_cases m : b ∈ lits
      · exact absurd t (hno _ _ m e)
      · exact N' (b, o) (hall _ _ e q c m)
theorem list_notGood {its : Array Value} {n : Nat} : ¬ goodO (listO its n) := by
  rintro (⟨h, _⟩ | ⟨C, dx, h⟩)
  · exact absurd (show Value.type "list" = Value.type "tuple" from h) (by decide)
  · cases h
theorem cell_notGood {o : Obj} {v : Option Value} (h : o.data = .cell v) : ¬ goodO o := by
  rintro (⟨_, its, k, q⟩ | ⟨C, dx, rfl⟩)
  · rw [h] at q; cases q
  · cases h
theorem dict_notGood {prog : Program} {w : World} {o : Obj} {kvs : List (Str × Value)} (h : o.IsDictOf (strKind prog w) kvs) : ¬ goodO o := by
  obtain ⟨es, ep, _, hd, _⟩ := h
  rintro (⟨_, its, k, q⟩ | ⟨C, dx, rfl⟩)
  · rw [hd] at q; cases q
  · cases hd
section
variable {prog : Program} {w : World} {A : Around} {E : Value → Shared → Prop} {s : Shared} {env : Env} {P : Addr → Obj → Prop}
end
end Mine
end
section -- L1u
open PySem PySem.W PyProof.Rows PySem.Calls
set_option maxRecDepth 100000
namespace Mine
set_option maxHeartbeats 4000000
def lawM (lE lI lR lO lS : Addr) (m₀ : Str → Option Value) : Str → Option Value := fun y => if y = "signs" then some (.ref lS) else if y = "octets" then some (.ref lO) else if y = "errors" then some (.ref lR) else if y = "inputs" then some (.ref lI) else if y = "environs" then some (.ref lE) else m₀ y
theorem lawM_congr {m : Str → Option Value} {lE lI lR lO lS : Addr} (h1 : m "signs" = some (.ref lS)) (h2 : m "octets" = some (.ref lO)) (h3 : m "errors" = some (.ref lR)) (h4 : m "inputs" = some (.ref lI)) (h5 : m "environs" = some (.ref lE)) : ∀ y, m y = lawM lE lI lR lO lS m y := fun y => by
  unfold lawM
  split
  · next e => rw [e, h1]
  · split
    · next e => rw [e, h2]
    · split
      · next e => rw [e, h3]
      · split
        · next e => rw [e, h4]
        · split
          · next e => rw [e, h5]
          · rfl
structure Stm where
  x : Addr
  dx : Addr
  y : Addr
  b : Array UInt8
structure Erm where
  x : Addr
  dx : Addr
  b : Str
/-- what has been built: the environs, the numbers of their streams, the streams, the texts -/
structure Pop where
  es : List Addr
  ix : List Nat
  ex : List Nat
  sts : List Stm
  ers : List Erm
/-- an environ whose input is x and whose errors are sx -/
def EnvAt (w : World) (h : Heap) (a x sx : Addr) : Prop :=
  ∃ (o : Obj) (kvs : List (Str × Value)) (S : List (Str × D)), h.get? a = some o ∧ o.IsDictOf (strKind PySem.Challenge.rw_kn0093_01.row.prog w) kvs ∧ Rel (At h) kvs S ∧ (∀ k ∈ S.map (·.1), k ∈ keysAll) ∧ (∀ v, look S "wsgi.url_scheme" = some v → ∃ y, v = .str y) ∧
    look S "wsgi.input" = some (.obj x) ∧ look S "wsgi.errors" = some (.obj sx)
structure Core (w : World) (g : Heap) (L : Addr) (h : Heap) (P : Pop) : Prop where
  lI : P.ix.length = P.es.length
  lR : P.ex.length = P.es.length
  env : ∀ (j : Nat) (a : Addr), P.es[j]? = some a → ∃ (i : Nat) (st : Stm) (e : Nat) (er : Erm), P.ix[j]? = some i ∧ P.sts[i]? = some st ∧ P.ex[j]? = some e ∧ P.ers[e]? = some er ∧ EnvAt w h a st.x er.x
  str : ∀ st ∈ P.sts, FreshB w.params h st.x st.dx st.y st.b (st.b.size : Int)
  err : ∀ er ∈ P.ers, FreshS w.params h er.x er.dx er.b (er.b.length : Int)
  newE : ∀ a ∈ P.es, a ≠ L ∧ g.get? a = none ∧ (a == sysModules) = false
  newS : ∀ st ∈ P.sts, (st.x ≠ L ∧ g.get? st.x = none) ∧ (st.dx ≠ L ∧ g.get? st.dx = none) ∧ (st.y ≠ L ∧ g.get? st.y = none)
  newR : ∀ er ∈ P.ers, (er.x ≠ L ∧ g.get? er.x = none) ∧ (er.dx ≠ L ∧ g.get? er.dx = none)
  ndD : (P.sts.map (·.dx)).Nodup
  ndY : (P.sts.map (·.y)).Nodup
  ndX : (P.ers.map (·.dx)).Nodup
  dED : ∀ a ∈ P.es, ∀ st ∈ P.sts, a ≠ st.dx
  dEX : ∀ a ∈ P.es, ∀ er ∈ P.ers, a ≠ er.dx
  dDX : ∀ st ∈ P.sts, ∀ er ∈ P.ers, st.dx ≠ er.dx
/-- all that the population stands on -/
def Pop.has (P : Pop) (a : Addr) : Prop := a ∈ P.es ∨ (∃ st ∈ P.sts, a = st.x ∨ a = st.dx ∨ a = st.y) ∨ ∃ er ∈ P.ers, a = er.x ∨ a = er.dx
theorem nodup_len {α : Type} [DecidableEq α] : ∀ {l M : List α}, l.Nodup → (∀ x ∈ l, x ∈ M) → l.length ≤ M.length
  | [], _, _, _ => Nat.zero_le _
  | a :: l, M, hn, hs => by
    obtain ⟨h1, h2⟩ := List.nodup_cons.mp hn
    have ha := hs a (.head _)
    have := nodup_len (l := l) (M := M.erase a) h2 fun x hx => (List.mem_erase_of_ne (fun e : x = a => h1 (e ▸ hx))).mpr (hs x (.tail _ hx))
    rw [List.length_erase_of_mem ha] at this
    have := List.length_pos_of_mem ha
    rw [List.length_cons]; omega
theorem dict_len {prog : Program} {w : World} {o : Obj} {kvs : List (Str × Value)} {S : List (Str × D)} {P : Addr → Obj → Prop} (hd : o.IsDictOf (strKind prog w) kvs) (r : Rel P kvs S) (hk : ∀ k ∈ S.map (·.1), k ∈ keysAll) : kvs.length ≤ 14 := by
  obtain ⟨_, _, _, _, _, _, q⟩ := hd
  have := nodup_len (r.keys ▸ q) hk
  rw [List.length_map] at this
  rw [r.length]; exact this
theorem EnvAt.to {w : World} {h h' : Heap} {a x sx : Addr} (e : EnvAt w h a x sx) (k : ∀ o, h.get? a = some o → h'.get? a = some o) (K : Kept h h') : EnvAt w h' a x sx :=
  let ⟨o, kvs, S, h1, h2, h3, h4⟩ := e; ⟨o, kvs, S, k _ h1, h2, h3.to K, h4⟩
theorem FreshB.mv {P : Params} {h h' : Heap} {x dx y : Addr} {b : Array UInt8} {n : Int} (f : FreshB P h x dx y b n) (k : ∀ a, a = x ∨ a = dx ∨ a = y → ∀ o, h.get? a = some o → h'.get? a = some o) : FreshB P h' x dx y b n :=
  let ⟨a, ⟨t₁, t₂, t₃, d⟩, c⟩ := f; ⟨k _ (.inl rfl) _ a, ⟨t₁, t₂, t₃, k _ (.inr (.inl rfl)) _ d⟩, k _ (.inr (.inr rfl)) _ c⟩
theorem FreshS.mv {P : Params} {h h' : Heap} {x dx : Addr} {b : Str} {n : Int} (f : FreshS P h x dx b n) (k : ∀ a, a = x ∨ a = dx → ∀ o, h.get? a = some o → h'.get? a = some o) : FreshS P h' x dx b n :=
  let ⟨a, t₁, t₂, t₃, t₄, t₅, t₆, d⟩ := f; ⟨k _ (.inl rfl) _ a, t₁, t₂, t₃, t₄, t₅, t₆, k _ (.inr rfl) _ d⟩
section
variable {w : World} {g : Heap} {L : Addr} {h h' : Heap} {P : Pop}
theorem Core.to (c : Core w g L h P) (k : ∀ a, P.has a → ∀ o, h.get? a = some o → h'.get? a = some o) (K : Kept h h') : Core w g L h' P where
  lI := c.lI
  lR := c.lR
  env := fun j a e => let ⟨i, st, e', er, h1, h2, h3, h4, h5⟩ := c.env j a e; ⟨i, st, e', er, h1, h2, h3, h4, h5.to (k a (.inl (List.mem_of_getElem? e))) K⟩
  str := fun st hs => (c.str st hs).mv fun a ha => k a (.inr (.inl ⟨st, hs, ha⟩))
  err := fun er he => (c.err er he).mv fun a ha => k a (.inr (.inr ⟨er, he, ha⟩))
  newE := c.newE
  newS := c.newS
  newR := c.newR
  ndD := c.ndD
  ndY := c.ndY
  ndX := c.ndX
  dED := c.dED
  dEX := c.dEX
  dDX := c.dDX
theorem Core.has_new (c : Core w g L h P) {a : Addr} (ha : P.has a) : a ≠ L ∧ g.get? a = none := by
  rcases ha with ha | ⟨st, hs, ha⟩ | ⟨er, he, ha⟩
  · exact ⟨(c.newE a ha).1, (c.newE a ha).2.1⟩
  · obtain ⟨h1, h2, h3⟩ := c.newS st hs
    rcases ha with rfl | rfl | rfl
    · exact h1
    · exact h2
    · exact h3
  · obtain ⟨h1, h2⟩ := c.newR er he
    rcases ha with rfl | rfl
    · exact h1
    · exact h2
theorem Core.has_at (c : Core w g L h P) {a : Addr} (ha : P.has a) : ∃ o, h.get? a = some o := by
  rcases ha with ha | ⟨st, hs, ha⟩ | ⟨er, he, ha⟩
  · obtain ⟨j, hj⟩ := List.mem_iff_getElem?.mp ha
    obtain ⟨_, _, _, _, _, _, _, _, o, _, _, h1, _⟩ := c.env j a hj
    exact ⟨o, h1⟩
  · obtain ⟨h1, ⟨_, _, _, h2⟩, h3⟩ := c.str st hs
    rcases ha with rfl | rfl | rfl
    · exact ⟨_, h1⟩
    · exact ⟨_, h2⟩
    · exact ⟨_, h3⟩
  · obtain ⟨h1, _, _, _, _, _, _, h2⟩ := c.err er he
    rcases ha with rfl | rfl
    · exact ⟨_, h1⟩
    · exact ⟨_, h2⟩
end
end Mine
end
section -- G25
open PySem PySem.W PyProof.Rows PySem.Calls
set_option maxRecDepth 100000
namespace Mine
section
variable {prog : Program} {w : World} {A : Around} {E : Value → Shared → Prop} {s : Shared} {h₀ : Heap} {L l : Addr} {items : Array Value} {n : Nat} {news : List (Addr × Obj)} {value slice : PySem.Expr}
theorem lst_isL {h : Heap} {a : Addr} {its : Array Value} {n : Nat} (e : h.get? a = some (listO its n)) : h.IsList a its := ⟨_, e, rfl, _, rfl⟩
theorem len_lst {k : Nat} {Q : Value → Shared → Prop} (N : News h₀ L s.heap news) (hm : (l, listO items n) ∈ news) (e : items.size = k) (hz : k ≤ 16777216) (h : Q (.int (k : Int) (s.toks + 1)) { s with toks := s.toks + 1 + 1 }) :
    wpAny (model prog w) A (call (.builtin "len") [.ref l]) Q E s := by
  subst e
  exact len_list (lst_isL (N _ hm).1) (by omega) h
theorem item_lst {k : Int} {u : Tok} {x : Value} {Q : Value → Shared → Prop} (N : News h₀ L s.heap news) (hm : (l, listO items n) ∈ news) (h0 : 0 ≤ k) (h1 : k < 16777216) (hx : items[k.toNat]? = some x) (h : Q x s)
    (hs : subscripted slice false (.ref l) (.int k u) = operate [.ref l, .int k u] (getItem (.ref l) (.int k u)) := by with_unfolding_all rfl) :
    wpAny (model prog w) A (subscriptTail value slice (.ref l) (.int k u)) Q E s :=
  tail_any (lst_isL (N _ hm).1).typeIs slot_list_getitem.lookup (wpAny_getItem_list (lst_isL (N _ hm).1) h0 (by omega) hx h) hs
end
section
variable {prog : Program} {w : World} {A : Around} {E : Value → Shared → Prop} {s : Shared} {h₀ : Heap} {L l : Addr} {m : PySem.Str → Option Value} {items : Array Value} {n : Nat} {news : List (Addr × Obj)} {u : Obj → List (Addr × Obj)}
/-- a store into a list at a place in it -/
theorem set_lst {k : Int} {t : Tok} {v : Value} {Q : Unit → Shared → Prop} (F : Fr h₀ L s.heap m) (N : News h₀ L s.heap news) (U : UpdF l (listO items n) news u) (h0 : 0 ≤ k) (h1 : k < (items.size : Int)) (hz : k < 16777216)
    (h : ∀ h' n', Fr h₀ L h' m → News h₀ L h' (u (listO (items.setIfInBounds k.toNat v) n')) → Q () { s with heap := h' }) : wpAny (model prog w) A (setItem (.ref l) (.int k t) v) Q E s := by
  obtain ⟨pre, post, rfl, hg, a1, a2⟩ := U.split
  have z := N (l, listO items n) (List.mem_append_right _ (.head _))
  refine ki_setAt z.1 h0 (by omega) h1 ?_
  obtain ⟨F', N'⟩ := news_upd (f := Obj.mapSeq fun x => x.setIfInBounds k.toNat v) (o' := listO (items.setIfInBounds k.toNat v) (if (items.setIfInBounds k.toNat v).size == items.size then n else n + 1)) F N a1 a2 rfl rfl
  exact h _ _ F' (by rw [hg]; exact N')
theorem get_lst {k : Int} {t : Tok} {x : Value} {Q : Value → Shared → Prop} (N : News h₀ L s.heap news) (hm : (l, listO items n) ∈ news) (h0 : 0 ≤ k) (h1 : k < 16777216) (hx : items[k.toNat]? = some x) (h : Q x s) :
    wpAny (model prog w) A (getItem (.ref l) (.int k t)) Q E s := wpAny_getItem_list (lst_isL (N _ hm).1) h0 (by omega) hx h
theorem by_noIadd : typeLookup (.type "bytes") (dunderI "add") = pure none := by rw [typeLookup_type, builtinLookup_eq_fast]; kernel_rfl
theorem iadd_bytes {b c : Array UInt8} {t v : Tok} {Q : Value → Shared → Prop} (hsz : b.size + c.size ≤ 16777216) (h : ∀ t' k, Q (.bytes (b ++ c) t') { s with toks := k }) : wpAny (model prog w) A (inplaceOp .Add (.bytes b t) (.bytes c v)) Q E s := by
  refine wpAny_inplaceOp_concat (typeIs_bytes s b t) (typeIs_bytes s c v) by_noIadd KBy.noFill_bytes_add KBy.seq_bytes_add
    (call_gives FB.slot_bytes_add (typeIs_bytes s b t) FB.entry_bytes_add (FB.args_bytes_add_2 _ _) (KBy.gives_bytes_add (KBy.tooLong_not hsz)) ?_)
  by_cases hb : b.isEmpty = true
  · rw [if_pos hb]
    have e : b = #[] := Array.isEmpty_iff.1 hb
    have h' := h v s.toks
    rw [e, Array.empty_append] at h'
    exact h'
  · rw [if_neg hb]
    by_cases hc : c.isEmpty = true
    · rw [if_pos hc]
      have e : c = #[] := Array.isEmpty_iff.1 hc
      have h' := h t s.toks
      rw [e, Array.append_empty] at h'
      exact h'
    · rw [if_neg hc]
      exact ⟨by rw [Array.size_append, sizeLine_eq]; exact hsz, h s.toks (s.toks + 1)⟩
end
theorem ne_cls {h : Heap} {a b : Addr} {oa ob : Obj} (ha : h.get? a = some oa) (hb : h.get? b = some ob) (hc : oa.cls ≠ ob.cls) : a ≠ b := fun e => by
  subst e
  rw [ha] at hb; cases hb
  exact hc rfl
theorem newsMore {g h : Heap} {L a : Addr} {o : Obj} {l : List (Addr × Obj)} (N : News g L h l) (ha : h.get? a = some o) (hn : a ≠ L ∧ g.get? a = none) : News g L h ((a, o) :: l) := List.forall_mem_cons.mpr ⟨⟨ha, hn⟩, N⟩
theorem newsSub {g h : Heap} {L : Addr} {l l' : List (Addr × Obj)} (N : News g L h l) (k : ∀ p ∈ l', p ∈ l) : News g L h l' := fun p hp => N p (k p hp)
theorem frBut {g h h' : Heap} {L a : Addr} {m : Str → Option Value} (F : Fr g L h m) (k : ∀ b o, b ≠ a → h.get? b = some o → h'.get? b = some o) (ha : a ≠ L) (hg : g.get? a = none) : Fr g L h' m :=
  ⟨F.ns.at' fun o e => k _ _ (Ne.symm ha) e, fun b o e => k b o (fun q => by rw [q, hg] at e; cases e) (F.keep b o e), F.above⟩
end Mine
end
section -- L1v
open PySem PySem.W PyProof.Rows PySem.Calls
set_option maxRecDepth 100000
namespace Mine
set_option maxHeartbeats 4000000
theorem dictOf_notGood {es : List DictEntry} {n : Nat} : ¬ goodO (dictOf es n) := by
  rintro (⟨h, _⟩ | ⟨C, dx, h⟩)
  · exact absurd (show Value.type "dict" = Value.type "tuple" from h) (by decide)
  · cases h
theorem ba_notGood {b : Array UInt8} : ¬ goodO (baObj b) := by
  rintro (⟨h, _⟩ | ⟨C, dx, h⟩)
  · exact absurd (show Value.type "bytearray" = Value.type "tuple" from h) (by decide)
  · cases h
theorem map_set_same {α β : Type} {f : α → β} {a a' : α} : ∀ {l : List α} {i : Nat}, l[i]? = some a → f a' = f a → (l.set i a').map f = l.map f
  | [], _, h, _ => by simp at h
  | b :: l, 0, h, e => by simp at h; subst h; simp [e]
  | b :: l, i + 1, h, e => by simp only [List.set_cons_succ, List.map_cons]; rw [map_set_same (by simpa using h) e]
theorem set_at {α : Type} {l : List α} {i j : Nat} {a a' c : α} (hi : l[i]? = some a) (h : (l.set i a')[j]? = some c) : (j = i ∧ c = a') ∨ (j ≠ i ∧ l[j]? = some c) := by
  rw [List.getElem?_set] at h
  split at h
  · next e =>
    split at h
    · exact .inl ⟨e.symm, (Option.some.inj h).symm⟩
    · cases h
  · next e => exact .inr ⟨fun q => e q.symm, h⟩
theorem set_self {α : Type} {l : List α} {i : Nat} {a a' : α} (hi : l[i]? = some a) : (l.set i a')[i]? = some a' := by
  have := (List.getElem?_eq_some_iff.mp hi).1
  simp [this]
theorem set_other {α : Type} {l : List α} {i j : Nat} {a' c : α} (h : l[j]? = some c) (e : j ≠ i) : (l.set i a')[j]? = some c := by
  rw [List.getElem?_set_ne (fun q => e q.symm)]; exact h
theorem nodup_at {α β : Type} {f : α → β} {l : List α} (nd : (l.map f).Nodup) {i j : Nat} {a b : α} (hi : l[i]? = some a) (hj : l[j]? = some b) (e : f a = f b) : i = j := by
  have h1 : (l.map f)[i]? = some (f a) := by rw [List.getElem?_map, hi]; rfl
  have h2 : (l.map f)[j]? = some (f b) := by rw [List.getElem?_map, hj]; rfl
  have l1 := (List.getElem?_eq_some_iff.mp h1).1
  have h3 : (l.map f)[i]? = (l.map f)[j]? := by rw [h1, h2, e]
  exact (List.getElem?_inj l1 nd).mp h3
section
variable {w : World} {g : Heap} {L : Addr} {h h' : Heap} {P : Pop}
theorem Core.xinj (c : Core w g L h P) {i j : Nat} {s t : Stm} (hi : P.sts[i]? = some s) (hj : P.sts[j]? = some t) (e : s.x = t.x) : i = j := by
  have h1 := (c.str s (List.mem_of_getElem? hi)).1
  have h2 := (c.str t (List.mem_of_getElem? hj)).1
  rw [e, h2] at h1
  have : t.dx = s.dx := Option.some.inj (congrArg Obj.dict (Option.some.inj h1))
  exact nodup_at c.ndD hi hj this.symm
theorem Core.einj (c : Core w g L h P) {i j : Nat} {s t : Erm} (hi : P.ers[i]? = some s) (hj : P.ers[j]? = some t) (e : s.x = t.x) : i = j := by
  have h1 := (c.err s (List.mem_of_getElem? hi)).1
  have h2 := (c.err t (List.mem_of_getElem? hj)).1
  rw [e, h2] at h1
  have : t.dx = s.dx := Option.some.inj (congrArg Obj.dict (Option.some.inj h1))
  exact nodup_at c.ndX hi hj this.symm
theorem Core.writeK (c : Core w g L h P) {i : Nat} {st : Stm} {b' : Array UInt8} (hi : P.sts[i]? = some st) (K : Kept h h') (k : ∀ a, P.has a → a ≠ st.dx → a ≠ st.y → ∀ o, h.get? a = some o → h'.get? a = some o) (f : FreshB w.params h' st.x st.dx st.y b' (b'.size : Int)) :
    Core w g L h' { P with sts := P.sts.set i { st with b := b' } } := by
  have hm := List.mem_of_getElem? hi
  obtain ⟨_, ⟨_, _, _, hdx⟩, hy⟩ := c.str st hm
  have nDY : ∀ {a : Addr} {es : List DictEntry} {n : Nat}, h.get? a = some (dictOf es n) → a ≠ st.y := fun e => ne_cls e hy (show ¬ (Value.type "dict" = Value.type "bytearray") from by decide)
  have nYD : ∀ {a : Addr} {b : Array UInt8}, h.get? a = some (baObj b) → a ≠ st.dx := fun e => ne_cls e hdx (show ¬ (Value.type "bytearray" = Value.type "dict") from by decide)
  have mem : ∀ {t : Stm}, t ∈ P.sts.set i { st with b := b' } → ∃ t0 ∈ P.sts, t.x = t0.x ∧ t.dx = t0.dx ∧ t.y = t0.y := fun {t} ht => by
    obtain ⟨j, hj⟩ := List.mem_iff_getElem?.mp ht
    rcases set_at hi hj with ⟨_, rfl⟩ | ⟨_, q⟩
    · exact ⟨st, hm, rfl, rfl, rfl⟩
    · exact ⟨t, List.mem_of_getElem? q, rfl, rfl, rfl⟩
  refine { c with env := fun j a e => ?_, str := fun t ht => ?_, err := fun er he => ?_, newS := fun t ht => ?_, ndD := ?_, ndY := ?_, dED := fun a ha t ht => ?_, dDX := fun t ht er he => ?_ }
  · obtain ⟨i0, s0, e0, er, h1, h2, h3, h4, h5⟩ := c.env j a e
    have ha := List.mem_of_getElem? e
    obtain ⟨o, kvs, S, g1, g2, g3⟩ := h5
    have nad : a ≠ st.dx := c.dED a ha st hm
    have nay : a ≠ st.y := fun q => by
      obtain ⟨es, ep, _, hd, _⟩ := g2
      rw [q, hy] at g1; cases g1
      cases hd
    have h5' : EnvAt w h' a s0.x er.x := EnvAt.to ⟨o, kvs, S, g1, g2, g3⟩ (fun o' e' => k a (.inl ha) nad nay o' e') K
    by_cases q : i0 = i
    · subst q
      rw [hi] at h2; cases h2
      exact ⟨i0, _, e0, er, h1, set_self hi, h3, h4, h5'⟩
    · exact ⟨i0, s0, e0, er, h1, set_other h2 q, h3, h4, h5'⟩
  · obtain ⟨j, hj⟩ := List.mem_iff_getElem?.mp ht
    rcases set_at hi hj with ⟨_, rfl⟩ | ⟨q, hj'⟩
    · exact f
    · have ft := c.str t (List.mem_of_getElem? hj')
      obtain ⟨f1, ⟨_, _, _, f2⟩, f3⟩ := id ft
      have nd : t.dx ≠ st.dx := fun e => q (nodup_at c.ndD hj' hi e)
      have ny : t.y ≠ st.y := fun e => q (nodup_at c.ndY hj' hi e)
      refine ft.mv fun a ha o e => ?_
      rcases ha with rfl | rfl | rfl
      · exact K _ _ (by rw [f1] at e; cases e; exact good_inst) e
      · exact k _ (.inr (.inl ⟨t, List.mem_of_getElem? hj', .inr (.inl rfl)⟩)) nd (nDY f2) _ e
      · exact k _ (.inr (.inl ⟨t, List.mem_of_getElem? hj', .inr (.inr rfl)⟩)) (nYD f3) ny _ e
  · have fe := c.err er he
    obtain ⟨f1, _, _, _, _, _, _, f2⟩ := id fe
    refine fe.mv fun a ha o e => ?_
    rcases ha with rfl | rfl
    · exact K _ _ (by rw [f1] at e; cases e; exact good_inst) e
    · exact k _ (.inr (.inr ⟨er, he, .inr rfl⟩)) (fun q => c.dDX st hm er he q.symm) (nDY f2) _ e
  · obtain ⟨t0, m0, e1, e2, e3⟩ := mem ht
    rw [e1, e2, e3]; exact c.newS t0 m0
  · show ((P.sts.set i _).map (·.dx)).Nodup
    rw [map_set_same (f := Stm.dx) (a' := { st with b := b' }) hi rfl]; exact c.ndD
  · show ((P.sts.set i _).map (·.y)).Nodup
    rw [map_set_same (f := Stm.y) (a' := { st with b := b' }) hi rfl]; exact c.ndY
  · obtain ⟨t0, m0, e1, e2, e3⟩ := mem ht
    rw [e2]; exact c.dED a ha t0 m0
  · obtain ⟨t0, m0, e1, e2, e3⟩ := mem ht
    rw [e2]; exact c.dDX t0 m0 er he
theorem Core.write (c : Core w g L h P) {i : Nat} {st : Stm} {b' : Array UInt8} (hi : P.sts[i]? = some st) (k : ∀ b o, b ≠ st.dx → b ≠ st.y → h.get? b = some o → h'.get? b = some o) (f : FreshB w.params h' st.x st.dx st.y b' (b'.size : Int)) :
    Core w g L h' { P with sts := P.sts.set i { st with b := b' } } := by
  obtain ⟨_, ⟨_, _, _, hdx⟩, hy⟩ := c.str st (List.mem_of_getElem? hi)
  exact c.writeK hi (fun b o t e => k b o (fun q => by rw [q, hdx] at e; cases e; exact dictOf_notGood t) (fun q => by rw [q, hy] at e; cases e; exact ba_notGood t) e) (fun a _ n1 n2 o e => k a o n1 n2 e) f
theorem set_same {α : Type} {l : List α} {i : Nat} {a : α} (h : l[i]? = some a) : l.set i a = l := by
  refine List.ext_getElem? fun j => ?_
  by_cases q : j = i
  · subst q; rw [set_self h, h]
  · rw [List.getElem?_set_ne (fun e => q e.symm)]
/-- a stream read and back at its end -/
theorem Core.back (c : Core w g L h P) {i : Nat} {st : Stm} (hi : P.sts[i]? = some st) (K : Kept h h') (k : ∀ a, P.has a → a ≠ st.dx → a ≠ st.y → ∀ o, h.get? a = some o → h'.get? a = some o) (f : FreshB w.params h' st.x st.dx st.y st.b (st.b.size : Int)) : Core w g L h' P := by
  have z := c.writeK (b' := st.b) hi K k f
  have e : P.sts.set i { st with b := st.b } = P.sts := set_same hi
  rw [e] at z
  exact z
theorem Core.writeS (c : Core w g L h P) {i : Nat} {er : Erm} {b' : Str} (hi : P.ers[i]? = some er) (k : ∀ b o, b ≠ er.dx → h.get? b = some o → h'.get? b = some o) (f : FreshS w.params h' er.x er.dx b' (b'.length : Int)) :
    Core w g L h' { P with ers := P.ers.set i { er with b := b' } } := by
  have hm := List.mem_of_getElem? hi
  obtain ⟨_, _, _, _, _, _, _, hdx⟩ := c.err er hm
  have K : Kept h h' := fun b o t e => k b o (fun q => by rw [q, hdx] at e; cases e; exact dictOf_notGood t) e
  have mem : ∀ {t : Erm}, t ∈ P.ers.set i { er with b := b' } → ∃ t0 ∈ P.ers, t.x = t0.x ∧ t.dx = t0.dx := fun {t} ht => by
    obtain ⟨j, hj⟩ := List.mem_iff_getElem?.mp ht
    rcases set_at hi hj with ⟨_, rfl⟩ | ⟨_, q⟩
    · exact ⟨er, hm, rfl, rfl⟩
    · exact ⟨t, List.mem_of_getElem? q, rfl, rfl⟩
  refine { c with env := fun j a e => ?_, str := fun t ht => ?_, err := fun t ht => ?_, newR := fun t ht => ?_, ndX := ?_, dEX := fun a ha t ht => ?_, dDX := fun s hs t ht => ?_ }
  · obtain ⟨i0, s0, e0, er0, h1, h2, h3, h4, h5⟩ := c.env j a e
    have ha := List.mem_of_getElem? e
    have h5' : EnvAt w h' a s0.x er0.x := h5.to (fun o' e' => k a o' (c.dEX a ha er hm) e') K
    by_cases q : e0 = i
    · subst q
      rw [hi] at h4; cases h4
      exact ⟨i0, s0, e0, _, h1, h2, h3, set_self hi, h5'⟩
    · exact ⟨i0, s0, e0, er0, h1, h2, h3, set_other h4 q, h5'⟩
  · have ft := c.str t ht
    obtain ⟨f1, ⟨_, _, _, f2⟩, f3⟩ := id ft
    refine ft.mv fun a ha o e => ?_
    rcases ha with rfl | rfl | rfl
    · exact K _ _ (by rw [f1] at e; cases e; exact good_inst) e
    · exact k _ _ (c.dDX t ht er hm) e
    · exact k _ _ (ne_cls f3 hdx (show ¬ (Value.type "bytearray" = Value.type "dict") from by decide)) e
  · obtain ⟨j, hj⟩ := List.mem_iff_getElem?.mp ht
    rcases set_at hi hj with ⟨_, rfl⟩ | ⟨q, hj'⟩
    · exact f
    · have ft := c.err t (List.mem_of_getElem? hj')
      obtain ⟨f1, _, _, _, _, _, _, f2⟩ := id ft
      refine ft.mv fun a ha o e => ?_
      rcases ha with rfl | rfl
      · exact K _ _ (by rw [f1] at e; cases e; exact good_inst) e
      · exact k _ _ (fun e => q (nodup_at c.ndX hj' hi e)) e
  · obtain ⟨t0, m0, e1, e2⟩ := mem ht
    rw [e1, e2]; exact c.newR t0 m0
  · show ((P.ers.set i _).map (·.dx)).Nodup
    rw [map_set_same (f := Erm.dx) (a' := { er with b := b' }) hi rfl]; exact c.ndX
  · obtain ⟨t0, m0, e1, e2⟩ := mem ht
    rw [e2]; exact c.dEX a ha t0 m0
  · obtain ⟨t0, m0, e1, e2⟩ := mem ht
    rw [e2]; exact c.dDX s hs t0 m0
end
end Mine
end
section -- L1w
open PySem PySem.W PyProof.Rows PySem.Calls
set_option maxRecDepth 100000
namespace Mine
set_option maxHeartbeats 4000000
theorem nodup_snoc {α β : Type} {f : α → β} {l n : List α} (h : (l.map f).Nodup) (hn : n.length ≤ 1) (d : ∀ a ∈ l, ∀ b ∈ n, f a ≠ f b) : ((l ++ n).map f).Nodup := by
  rw [List.map_append]
  refine List.nodup_append.mpr ⟨h, ?_, ?_⟩
  · rcases n with _ | ⟨a, _ | ⟨b, r⟩⟩
    · exact List.nodup_nil
    · simp
    · simp at hn
  · intro a ha b hb
    obtain ⟨a', ha', rfl⟩ := List.mem_map.mp ha
    obtain ⟨b', hb', rfl⟩ := List.mem_map.mp hb
    exact d a' ha' b' hb'
theorem at_app {α : Type} {l n : List α} {i : Nat} {a : α} (h : l[i]? = some a) : (l ++ n)[i]? = some a := by
  rw [List.getElem?_append_left (List.getElem?_eq_some_iff.mp h).1]; exact h
section
variable {w : World} {g : Heap} {L : Addr} {h h' : Heap} {P : Pop}
theorem Core.add (c : Core w g L h P) {D : Addr} {i' e' : Nat} {n1 : List Stm} {n2 : List Erm} {st : Stm} {er : Erm} 
    (hD : ∀ b, P.has b → b ≠ D) (hDn : D ≠ L ∧ g.get? D = none ∧ (D == sysModules) = false) (l1 : n1.length ≤ 1) (l2 : n2.length ≤ 1)
    (h1 : ∀ s ∈ n1, (∀ b, P.has b → b ≠ s.dx) ∧ (∀ b, P.has b → b ≠ s.y) ∧ FreshB w.params h s.x s.dx s.y s.b (s.b.size : Int) ∧ ((s.x ≠ L ∧ g.get? s.x = none) ∧ (s.dx ≠ L ∧ g.get? s.dx = none) ∧ (s.y ≠ L ∧ g.get? s.y = none)) ∧ D ≠ s.dx)
    (h2 : ∀ e ∈ n2, (∀ b, P.has b → b ≠ e.dx) ∧ FreshS w.params h e.x e.dx e.b (e.b.length : Int) ∧ ((e.x ≠ L ∧ g.get? e.x = none) ∧ (e.dx ≠ L ∧ g.get? e.dx = none)) ∧ D ≠ e.dx)
    (h12 : ∀ s ∈ n1, ∀ e ∈ n2, s.dx ≠ e.dx) (hi : (P.sts ++ n1)[i']? = some st) (he : (P.ers ++ n2)[e']? = some er) (hE : EnvAt w h D st.x er.x) :
    Core w g L h ⟨P.es ++ [D], P.ix ++ [i'], P.ex ++ [e'], P.sts ++ n1, P.ers ++ n2⟩ := by
  have hasE : ∀ {a}, a ∈ P.es → P.has a := fun h => .inl h
  have hasD : ∀ {s}, s ∈ P.sts → P.has s.dx := fun h => .inr (.inl ⟨_, h, .inr (.inl rfl)⟩)
  have hasY : ∀ {s}, s ∈ P.sts → P.has s.y := fun h => .inr (.inl ⟨_, h, .inr (.inr rfl)⟩)
  have hasX : ∀ {e}, e ∈ P.ers → P.has e.dx := fun h => .inr (.inr ⟨_, h, .inr rfl⟩)
  exact {
    lI := by simp [c.lI]
    lR := by simp [c.lR]
    env := fun j a e => by
      dsimp only at e ⊢
      rcases Nat.lt_or_ge j P.es.length with q | q
      · rw [List.getElem?_append_left q] at e
        obtain ⟨i, s, e0, r, h1, h2, h3, h4, h5⟩ := c.env j a e
        exact ⟨i, s, e0, r, at_app h1, at_app h2, at_app h3, at_app h4, h5⟩
      · rw [List.getElem?_append_right q] at e
        have q0 : j - P.es.length = 0 := by
          rcases Nat.eq_zero_or_pos (j - P.es.length) with z | z
          · exact z
          · have : ([D] : List Addr)[j - P.es.length]? = none := List.getElem?_eq_none (by simp only [List.length_singleton]; omega)
            rw [this] at e; cases e
        rw [q0] at e
        simp at e
        subst e
        have hj : j = P.es.length := by omega
        refine ⟨i', st, e', er, ?_, hi, ?_, he, hE⟩
        · rw [hj, ← c.lI]; simp
        · rw [hj, ← c.lR]; simp
    str := fun s hs => (List.mem_append.mp hs).elim (c.str s) fun q => (h1 s q).2.2.1
    err := fun s hs => (List.mem_append.mp hs).elim (c.err s) fun q => (h2 s q).2.1
    newE := fun a ha => (List.mem_append.mp ha).elim (c.newE a) fun q => by
      obtain rfl := List.mem_singleton.mp q
      exact hDn
    newS := fun s hs => (List.mem_append.mp hs).elim (c.newS s) fun q => (h1 s q).2.2.2.1
    newR := fun s hs => (List.mem_append.mp hs).elim (c.newR s) fun q => (h2 s q).2.2.1
    ndD := nodup_snoc c.ndD l1 fun a ha b hb => (h1 b hb).1 _ (hasD ha)
    ndY := nodup_snoc c.ndY l1 fun a ha b hb => (h1 b hb).2.1 _ (hasY ha)
    ndX := nodup_snoc c.ndX l2 fun a ha b hb => (h2 b hb).1 _ (hasX ha)
    dED := fun a ha s hs => by
      rcases List.mem_append.mp ha with ha | ha
      · rcases List.mem_append.mp hs with hs | hs
        · exact c.dED a ha s hs
        · exact (h1 s hs).1 _ (hasE ha)
      · obtain rfl := List.mem_singleton.mp ha
        rcases List.mem_append.mp hs with hs | hs
        · exact fun e => hD _ (hasD hs) e.symm
        · exact (h1 s hs).2.2.2.2
    dEX := fun a ha s hs => by
      rcases List.mem_append.mp ha with ha | ha
      · rcases List.mem_append.mp hs with hs | hs
        · exact c.dEX a ha s hs
        · exact (h2 s hs).1 _ (hasE ha)
      · obtain rfl := List.mem_singleton.mp ha
        rcases List.mem_append.mp hs with hs | hs
        · exact fun e => hD _ (hasX hs) e.symm
        · exact (h2 s hs).2.2.2
    dDX := fun s hs e he' => by
      rcases List.mem_append.mp hs with hs | hs
      · rcases List.mem_append.mp he' with he' | he'
        · exact c.dDX s hs e he'
        · exact (h2 e he').1 _ (hasD hs)
      · rcases List.mem_append.mp he' with he' | he'
        · exact fun q => (h1 s hs).1 _ (hasX he') q.symm
        · exact h12 s hs e he' }
end
/-- a chain's members are apart -/
theorem apart8 {a0 a1 a2 a3 a4 a5 a6 a7 : Addr} (h0 : @LT.lt Nat _ a0 a1) (h1 : @LT.lt Nat _ a1 a2) (h2 : @LT.lt Nat _ a2 a3) (h3 : @LT.lt Nat _ a3 a4) (h4 : @LT.lt Nat _ a4 a5) (h5 : @LT.lt Nat _ a5 a6) (h6 : @LT.lt Nat _ a6 a7) : a1 ≠ a0 ∧ a2 ≠ a0 ∧ a2 ≠ a1 ∧ a3 ≠ a0 ∧ a3 ≠ a1 ∧ a3 ≠ a2 ∧ a4 ≠ a0 ∧ a4 ≠ a1 ∧ a4 ≠ a2 ∧ a4 ≠ a3 ∧ a5 ≠ a0 ∧ a5 ≠ a1 ∧ a5 ≠ a2 ∧ a5 ≠ a3 ∧ a5 ≠ a4 ∧ a6 ≠ a0 ∧ a6 ≠ a1 ∧ a6 ≠ a2 ∧ a6 ≠ a3 ∧ a6 ≠ a4 ∧ a6 ≠ a5 ∧ a7 ≠ a0 ∧ a7 ≠ a1 ∧ a7 ≠ a2 ∧ a7 ≠ a3 ∧ a7 ≠ a4 ∧ a7 ≠ a5 ∧ a7 ≠ a6 := by
  have k0_2 := Nat.lt_trans h0 h1
  have k1_3 := Nat.lt_trans h1 h2
  have k2_4 := Nat.lt_trans h2 h3
  have k3_5 := Nat.lt_trans h3 h4
  have k4_6 := Nat.lt_trans h4 h5
  have k5_7 := Nat.lt_trans h5 h6
  have k0_3 := Nat.lt_trans h0 k1_3
  have k1_4 := Nat.lt_trans h1 k2_4
  have k2_5 := Nat.lt_trans h2 k3_5
  have k3_6 := Nat.lt_trans h3 k4_6
  have k4_7 := Nat.lt_trans h4 k5_7
  have k0_4 := Nat.lt_trans h0 k1_4
  have k1_5 := Nat.lt_trans h1 k2_5
  have k2_6 := Nat.lt_trans h2 k3_6
  have k3_7 := Nat.lt_trans h3 k4_7
  have k0_5 := Nat.lt_trans h0 k1_5
  have k1_6 := Nat.lt_trans h1 k2_6
  have k2_7 := Nat.lt_trans h2 k3_7
  have k0_6 := Nat.lt_trans h0 k1_6
  have k1_7 := Nat.lt_trans h1 k2_7
  have k0_7 := Nat.lt_trans h0 k1_7
  exact ⟨Nat.ne_of_gt h0, Nat.ne_of_gt k0_2, Nat.ne_of_gt h1, Nat.ne_of_gt k0_3, Nat.ne_of_gt k1_3, Nat.ne_of_gt h2, Nat.ne_of_gt k0_4, Nat.ne_of_gt k1_4, Nat.ne_of_gt k2_4, Nat.ne_of_gt h3, Nat.ne_of_gt k0_5, Nat.ne_of_gt k1_5, Nat.ne_of_gt k2_5, Nat.ne_of_gt k3_5, Nat.ne_of_gt h4, Nat.ne_of_gt k0_6, Nat.ne_of_gt k1_6, Nat.ne_of_gt k2_6, Nat.ne_of_gt k3_6, Nat.ne_of_gt k4_6, Nat.ne_of_gt h5, Nat.ne_of_gt k0_7, Nat.ne_of_gt k1_7, Nat.ne_of_gt k2_7, Nat.ne_of_gt k3_7, Nat.ne_of_gt k4_7, Nat.ne_of_gt k5_7, Nat.ne_of_gt h6⟩
theorem frCongr {g h : Heap} {L : Addr} {m m' : Str → Option Value} (F : Fr g L h m) (e : ∀ y, m y = m' y) : Fr g L h m' := (funext e : m = m') ▸ F
def cellO (o : Obj) : Prop := ∃ v, o.data = .cell v
/-- the told octets and signs -/
def OctAre (vs : List Value) (bo : List (Array UInt8)) : Prop := vs.length = bo.length ∧ ∀ (i : Nat) (b : Array UInt8) (v : Value), bo[i]? = some b → vs[i]? = some v → ∃ u, v = .bytes b u
def SgnAre (vs : List Value) (bs : List Str) : Prop := vs.length = bs.length ∧ ∀ (i : Nat) (b : Str) (v : Value), bs[i]? = some b → vs[i]? = some v → ∃ u, v = .str b u
def natsI (l : List Nat) : List Int := l.map Int.ofNat
structure LawSt (w : World) (g : Heap) (L lE lI lR lO lS lJ It : Addr) (vsJ : List Value) (i n : Nat) (h : Heap) (m₀ : Str → Option Value) (P : Pop) (bo : List (Array UInt8)) (bs : List Str) (oI o2 : Obj) (nE nI nR nO nS : Nat) (vsI vsR vsO vsS : List Value) : Prop where
  fr : Fr g L h (lawM lE lI lR lO lS m₀)
  news : News g L h [(It, oI), (lJ, listO vsJ.toArray 0), (lS, listO vsS.toArray nS), (lO, listO vsO.toArray nO), (lR, listO vsR.toArray nR), (lI, listO vsI.toArray nI), (lE, listO (P.es.map Value.ref).toArray nE), (L + 1 + 1, o2)]
  it : h.IsListIter It lJ i
  ile : i ≤ vsJ.length
  vI : IntsAre vsI (natsI P.ix)
  vR : IntsAre vsR (natsI P.ex)
  vO : OctAre vsO bo
  vS : SgnAre vsS bs
  core : Core w g L h P
  sep : ∀ a, P.has a → a ∉ [It, lJ, lS, lO, lR, lI, lE, L + 1 + 1]
  c2 : cellO o2
  pos : 0 < P.es.length
  few : P.es.length ≤ 12
  fewS : P.sts.length ≤ P.es.length
  fewR : P.ers.length ≤ P.es.length
  szS : ∀ s ∈ P.sts, s.b.size ≤ n
  szR : ∀ e ∈ P.ers, e.b.length ≤ n
def LawInv (w : World) (g : Heap) (L lE lI lR lO lS lJ It : Addr) (vsJ : List Value) (i : Nat) (h : Heap) : Prop :=
  ∃ (m₀ : Str → Option Value) (P : Pop) (oI o2 : Obj) (nE nI nR nO nS : Nat) (vsI vsR vsO vsS : List Value), LawSt w g L lE lI lR lO lS lJ It vsJ i (3 * i) h m₀ P (P.sts.map (·.b)) (P.ers.map (·.b)) oI o2 nE nI nR nO nS vsI vsR vsO vsS
/-- a step that leaves all of it as it stands -/
def Still (P : Pop) (h h' : Heap) : Prop := Kept h h' ∧ ∀ a, P.has a → ∀ o, h.get? a = some o → h'.get? a = some o
section
variable {w : World} {g : Heap} {L lE lI lR lO lS lJ It : Addr} {vsJ : List Value} {i n : Nat} {h : Heap} {m₀ : Str → Option Value} {P : Pop} {bo : List (Array UInt8)} {bs : List Str} {oI o2 : Obj} {nE nI nR nO nS : Nat} {vsI vsR vsO vsS : List Value}
theorem nG_cons {p : Addr × Obj} {l : List (Addr × Obj)} (h : ¬ goodO p.2) (r : ∀ q ∈ l, ¬ goodO q.2) : ∀ q ∈ p :: l, ¬ goodO q.2 := List.forall_mem_cons.mpr ⟨h, r⟩
theorem nG_list {a : Addr} {its : Array Value} {k : Nat} {l : List (Addr × Obj)} (r : ∀ q ∈ l, ¬ goodO q.2) : ∀ q ∈ (a, listO its k) :: l, ¬ goodO q.2 := nG_cons list_notGood r
theorem news_notGood {g h : Heap} {L : Addr} {l : List (Addr × Obj)} (N : News g L h l) (hn : ∀ p ∈ l, ¬ goodO p.2) {b : Addr} {o : Obj} (hb : b ∈ l.map (·.1)) (e : h.get? b = some o) : ¬ goodO o := by
  obtain ⟨p, hp, rfl⟩ := List.mem_map.mp hb
  rw [(N p hp).1] at e
  cases e
  exact hn p hp
theorem ledger_same {g h h' : Heap} {L : Addr} {l : List (Addr × Obj)} (N : News g L h l) (N' : News g L h' l) {b : Addr} {o : Obj} (hb : b ∈ l.map (·.1)) (e : h.get? b = some o) : h'.get? b = some o := by
  obtain ⟨p, hp, rfl⟩ := List.mem_map.mp hb
  rw [(N p hp).1] at e
  cases e
  exact (N' p hp).1
theorem news_but {g h h' : Heap} {L z : Addr} {l : List (Addr × Obj)} (N : News g L h l) (k : ∀ b o, b ≠ z → h.get? b = some o → h'.get? b = some o) (hz : ∀ p ∈ l, p.1 ≠ z) : News g L h' l := fun p hp => ⟨k _ _ (hz p hp) (N p hp).1, (N p hp).2⟩
theorem ne_all {l : List (Addr × Obj)} {z : Addr} (h : z ∉ l.map (·.1)) : ∀ p ∈ l, p.1 ≠ z := fun p hp e => h (e ▸ List.mem_map_of_mem hp)
theorem iter_notGood {h : Heap} {I l : Addr} {i : Nat} (x : h.IsListIter I l i) : ∀ o, h.get? I = some o → ¬ goodO o := fun o e t => by
  obtain ⟨o', ho, hc, hd⟩ := x
  rw [ho] at e; cases e
  rcases t with ⟨q, _⟩ | ⟨C, dx, rfl⟩
  · exact absurd (hc.symm.trans q) (by decide)
  · cases hd
theorem LawSt.nG (x : LawSt w g L lE lI lR lO lS lJ It vsJ i n h m₀ P bo bs oI o2 nE nI nR nO nS vsI vsR vsO vsS) : ∀ p ∈ [(It, oI), (lJ, listO vsJ.toArray 0), (lS, listO vsS.toArray nS), (lO, listO vsO.toArray nO), (lR, listO vsR.toArray nR), (lI, listO vsI.toArray nI), (lE, listO (P.es.map Value.ref).toArray nE), (L + 1 + 1, o2)], ¬ goodO p.2 :=
  nG_cons (iter_notGood x.it _ (x.news _ (.head _)).1) (nG_list (nG_list (nG_list (nG_list (nG_list (nG_list (nG_cons (let ⟨_, q⟩ := x.c2; cell_notGood q) fun _ hp => nomatch hp)))))))
theorem LawSt.still (x : LawSt w g L lE lI lR lO lS lJ It vsJ i n h m₀ P bo bs oI o2 nE nI nR nO nS vsI vsR vsO vsS) {h' : Heap} {m' : Str → Option Value} {rest : List (Addr × Obj)} (F' : Fr g L h' m') (N' : ∀ p ∈ rest, h'.get? p.1 = some p.2)
    (hall : ∀ b o, h.get? b = some o → b ≠ L → g.get? b = none → b ∉ [It, lJ, lS, lO, lR, lI, lE, L + 1 + 1] → (b, o) ∈ rest) : Still P h h' :=
  ⟨keep_rest x.fr F' N' hall fun b o hb e => news_notGood x.news x.nG hb e, fun a ha o e => N' (a, o) (hall a o e (x.core.has_new ha).1 (x.core.has_new ha).2 (x.sep a ha))⟩
/-- all that is alive, told -/
theorem LawSt.open (x : LawSt w g L lE lI lR lO lS lJ It vsJ i n h m₀ P bo bs oI o2 nE nI nR nO nS vsI vsR vsO vsS) : ∃ rest : List (Addr × Obj),
    News g L h ((It, oI) :: (lJ, listO vsJ.toArray 0) :: (lS, listO vsS.toArray nS) :: (lO, listO vsO.toArray nO) :: (lR, listO vsR.toArray nR) :: (lI, listO vsI.toArray nI) :: (lE, listO (P.es.map Value.ref).toArray nE) :: (L + 1 + 1, o2) :: rest) ∧
    ((∀ p ∈ rest, p.1 ≠ lS) ∧ (∀ p ∈ rest, p.1 ≠ lO) ∧ (∀ p ∈ rest, p.1 ≠ lR) ∧ (∀ p ∈ rest, p.1 ≠ lI) ∧ (∀ p ∈ rest, p.1 ≠ lE) ∧ (∀ p ∈ rest, p.1 ≠ L + 1 + 1)) ∧
    (∀ b o, h.get? b = some o → b ≠ L → g.get? b = none → b ∉ [It, lJ, lS, lO, lR, lI, lE, L + 1 + 1] → (b, o) ∈ rest) ∧
    (∀ h' m', Fr g L h' m' → (∀ p ∈ rest, h'.get? p.1 = some p.2) → Still P h h') := by
  obtain ⟨rest, NR, hl, hall⟩ := ledger_all g h L [It, lJ, lS, lO, lR, lI, lE, L + 1 + 1]
  have ne : ∀ a ∈ [It, lJ, lS, lO, lR, lI, lE, L + 1 + 1], ∀ p ∈ rest, p.1 ≠ a := fun a ha p hp e => hl p hp (e ▸ ha)
  refine ⟨rest, fun p hp => ?_, ⟨ne _ (.tail _ (.tail _ (.head _))), ne _ (.tail _ (.tail _ (.tail _ (.head _)))), ne _ (.tail _ (.tail _ (.tail _ (.tail _ (.head _))))), ne _ (.tail _ (.tail _ (.tail _ (.tail _ (.tail _ (.head _)))))), ne _ (.tail _ (.tail _ (.tail _ (.tail _ (.tail _ (.tail _ (.head _))))))), ne _ (.tail _ (.tail _ (.tail _ (.tail _ (.tail _ (.tail _ (.tail _ (.head _))))))))⟩, hall, fun h' m' F' N' => x.still F' N' hall⟩
  rcases List.mem_append.mp (show p ∈ [(It, oI), (lJ, listO vsJ.toArray 0), (lS, listO vsS.toArray nS), (lO, listO vsO.toArray nO), (lR, listO vsR.toArray nR), (lI, listO vsI.toArray nI), (lE, listO (P.es.map Value.ref).toArray nE), (L + 1 + 1, o2)] ++ rest from hp) with hp | hp
  · exact x.news p hp
  · exact NR p hp
/-- the state behind some steps, told anew -/
theorem LawSt.next (x : LawSt w g L lE lI lR lO lS lJ It vsJ i n h m₀ P bo bs oI o2 nE nI nR nO nS vsI vsR vsO vsS) {n' : Nat} {h' : Heap} {m' : Str → Option Value} {P' : Pop} {bo' : List (Array UInt8)} {bs' : List Str} {o2' : Obj} {nE' nI' nR' nO' nS' : Nat} {vsI' vsR' vsO' vsS' : List Value}
    (F' : Fr g L h' m') (e1 : m' "signs" = some (.ref lS)) (e2 : m' "octets" = some (.ref lO)) (e3 : m' "errors" = some (.ref lR)) (e4 : m' "inputs" = some (.ref lI)) (e5 : m' "environs" = some (.ref lE))
    (N' : News g L h' [(It, oI), (lJ, listO vsJ.toArray 0), (lS, listO vsS'.toArray nS'), (lO, listO vsO'.toArray nO'), (lR, listO vsR'.toArray nR'), (lI, listO vsI'.toArray nI'), (lE, listO (P'.es.map Value.ref).toArray nE'), (L + 1 + 1, o2')])
    (vI : IntsAre vsI' (natsI P'.ix)) (vR : IntsAre vsR' (natsI P'.ex)) (vO : OctAre vsO' bo') (vS : SgnAre vsS' bs') (core : Core w g L h' P') (sep : ∀ a, P'.has a → a ∉ [It, lJ, lS, lO, lR, lI, lE, L + 1 + 1]) (c2 : cellO o2')
    (pos : 0 < P'.es.length) (few : P'.es.length ≤ 12) (fewS : P'.sts.length ≤ P'.es.length) (fewR : P'.ers.length ≤ P'.es.length) (szS : ∀ s ∈ P'.sts, s.b.size ≤ n') (szR : ∀ e ∈ P'.ers, e.b.length ≤ n') :
    LawSt w g L lE lI lR lO lS lJ It vsJ i n' h' m' P' bo' bs' oI o2' nE' nI' nR' nO' nS' vsI' vsR' vsO' vsS' where
  fr := frCongr F' (lawM_congr e1 e2 e3 e4 e5)
  news := N'
  it := x.it.at fun o e => by
    rw [(x.news _ (.head _)).1] at e; cases e
    exact (N' _ (.head _)).1
  ile := x.ile
  vI := vI
  vR := vR
  vO := vO
  vS := vS
  core := core
  sep := sep
  c2 := c2
  pos := pos
  few := few
  fewS := fewS
  fewR := fewR
  szS := szS
  szR := szR
theorem LawSt.same (x : LawSt w g L lE lI lR lO lS lJ It vsJ i n h m₀ P bo bs oI o2 nE nI nR nO nS vsI vsR vsO vsS) {h' : Heap} {m' : Str → Option Value}
    (F' : Fr g L h' m') (e1 : m' "signs" = some (.ref lS)) (e2 : m' "octets" = some (.ref lO)) (e3 : m' "errors" = some (.ref lR)) (e4 : m' "inputs" = some (.ref lI)) (e5 : m' "environs" = some (.ref lE))
    (N' : News g L h' [(It, oI), (lJ, listO vsJ.toArray 0), (lS, listO vsS.toArray nS), (lO, listO vsO.toArray nO), (lR, listO vsR.toArray nR), (lI, listO vsI.toArray nI), (lE, listO (P.es.map Value.ref).toArray nE), (L + 1 + 1, o2)])
    (k : Still P h h') : LawSt w g L lE lI lR lO lS lJ It vsJ i n h' m' P bo bs oI o2 nE nI nR nO nS vsI vsR vsO vsS :=
  x.next F' e1 e2 e3 e4 e5 N' x.vI x.vR x.vO x.vS (x.core.to k.2 k.1) x.sep x.c2 x.pos x.few x.fewS x.fewR x.szS x.szR
theorem LawSt.more {n' : Nat} (x : LawSt w g L lE lI lR lO lS lJ It vsJ i n h m₀ P bo bs oI o2 nE nI nR nO nS vsI vsR vsO vsS) (hn : n ≤ n') : LawSt w g L lE lI lR lO lS lJ It vsJ i n' h m₀ P bo bs oI o2 nE nI nR nO nS vsI vsR vsO vsS :=
  { x with szS := fun s hs => Nat.le_trans (x.szS s hs) hn, szR := fun s hs => Nat.le_trans (x.szR s hs) hn }
end
noncomputable section
/- the law's own text, read off the written part -/
def fnAt (a : Addr) (P : Params) : Option FuncData := match (hd.heap_39 P).lookup a with
  | some ⟨_, _, .func fd, _⟩ => some fd
  | _ => none
def stmtsAt (a : Addr) (P : Params) : List Stmt := match fnAt a P with
  | some fd => (match fd.body with
    | .stmts b => b
    | _ => [])
  | none => []
def scopeAt (a : Addr) (P : Params) : Scope := match fnAt a P with
  | some fd => fd.scope
  | none => default
def forBody : List Stmt → List Stmt
  | [] => []
  | .For _ _ b _ _ :: _ => b
  | _ :: r => forBody r
def nthS : List Stmt → Nat → Stmt
  | a :: _, 0 => a
  | _ :: r, n + 1 => nthS r n
  | [], _ => .Pass default
def turnS (P : Params) (k : Nat) : Stmt := nthS (forBody (stmtsAt 626 P)) k
def thenB : Stmt → List Stmt
  | .If _ b _ _ => b
  | _ => []
def elseB : Stmt → List Stmt
  | .If _ _ b _ => b
  | _ => []
abbrev lawE (w : World) (L : Addr) : Env := envOfC "law" (scopeAt 626 w.params) L 626 (.ref 625)
end
end Mine
end
section -- G17
open PySem PySem.W PyProof.Rows PySem.Calls
set_option maxRecDepth 100000
namespace Mine
theorem newsNew {g h h' : Heap} {L : Addr} {news : List (Addr × Obj)} (N : News g L h news) (hk : ∀ b o, b ≠ L → h.get? b = some o → h'.get? b = some o) : News g L h' news := fun p hp => ⟨hk _ _ (N p hp).2.1 (N p hp).1, (N p hp).2⟩
section
variable {prog : Program} {w : World} {A : Around} {E : Value → Shared → Prop} {env : Env} {s : Shared}
end
end Mine
end
section -- G18
open PySem PySem.W PyProof.Rows PySem.Calls
set_option maxRecDepth 100000
namespace Mine
section
variable {prog : Program} {w : World} {A : Around} {E : Value → Shared → Prop} {s : Shared} {env : Env}
end
end Mine
end
section -- L1x
open PySem PySem.W PyProof.Rows PySem.Calls
set_option maxRecDepth 100000
namespace Mine
set_option maxHeartbeats 4000000
local macro_rules | `(tactic| k_room) => `(tactic| ((try simp only [depth_mark, depth_under_make, depth_under_kw, depth_in1, depth_deeper, depth_caller]); (first | ((show _ + _ < 1000); omega) | ((show _ < 1000); omega))))
local macro_rules | `(tactic| k_all) => `(tactic| assumption)
local macro_rules | `(tactic| walk_at "call builtin:len") => `(tactic| (k_here; k_dflt (refine' len_lst ?N ?m ?e ?z ?_; (case N => k_asm); (case m => k_mem); (case e => assumption); (case z => assumption))))
/-- the frame's own map in a turn -/
def turnM (x kd k q : Int) (tx t1 t2 t3 : Tok) (m₀ : Str → Option Value) : Str → Option Value := fun y => if y = "q" then some (.int q t3) else if y = "k" then some (.int k t2) else if y = "kind" then some (.int kd t1) else if y = "x" then some (.int x tx) else m₀ y
theorem turn_head {w : World} {p : Program} {loose : List Str} {mg mb : Str → Option Value} {mean : ExcName → Option Value} {s : Shared} {Q : Flow → Shared → Prop} {L lE lI lR lO lS lJ It : Addr} {vsJ : List Value} {i n : Nat} {h : Heap} {tk : Nat}
    {x : Int} {tx : Tok} {px : Pos} {m₀ : Str → Option Value} {P : Pop} {bo : List (Array UInt8)} {bs : List Str} {oI o2 : Obj} {nE nI nR nO nS : Nat} {vsI vsR vsO vsS : List Value} {rest : List Stmt}
    (X : (hd.heap_39 w.params).In s.heap) (T : Top p loose mean mg mb s.heap)
    (hS : LawSt w s.heap L lE lI lR lO lS lJ It vsJ i n h m₀ P bo bs oI o2 nE nI nR nO nS vsI vsR vsO vsS)
    (post : ∀ h' tk' (kd k q : Int) t1 t2 t3, 0 ≤ kd → kd < 6 → 0 ≤ k → k < (P.es.length : Int) → LawSt w s.heap L lE lI lR lO lS lJ It vsJ i n h' (turnM x kd k q tx t1 t2 t3 (lawM lE lI lR lO lS m₀)) P bo bs oI o2 nE nI nR nO nS vsI vsR vsO vsS →
      wpG (model PySem.Challenge.rw_kn0093_01.row.prog w) (callerA.deeper (lawE w L)) (exec (turnS w.params 3) (lawE w L)) Q (fun _ _ => False) { s with heap := h', toks := tk' }) :
    wpAny (model PySem.Challenge.rw_kn0093_01.row.prog w) (callerA.deeper (lawE w L)) (assign (.Name "x" px) (lawE w L) (.int x tx))
      (fun _ s₂ => wpG (model PySem.Challenge.rw_kn0093_01.row.prog w) (callerA.deeper (lawE w L)) (execs (forBody (stmtsAt 626 w.params)) (lawE w L)) Q (fun _ _ => False) s₂) (fun _ _ => False) { s with heap := h, toks := tk } := by
  unfold lawE at post ⊢
  obtain ⟨sc, hsc⟩ : ∃ sc, sc = scopeAt 626 w.params := ⟨_, rfl⟩
  rw [← hsc] at post ⊢
  conv at hsc => rhs; whnf
  subst hsc
  obtain ⟨u3, hu3⟩ : ∃ b, b = turnS w.params 3 := ⟨_, rfl⟩
  rw [← hu3] at post
  conv at hu3 => rhs; whnf
  subst hu3
  obtain ⟨st, hst⟩ : ∃ st, st = forBody (stmtsAt 626 w.params) := ⟨_, rfl⟩
  rw [← hst]
  conv at hst => rhs; whnf
  subst hst
  have F := hS.fr
  obtain ⟨rest, N, ⟨hr1, hr2, hr3, hr4, hr5, hr6⟩, hall, hK⟩ := hS.open
  have TR := topRead_of T
  have hpos := hS.pos
  have hfew := hS.few
  have hsz : (P.es.map Value.ref).toArray.size = P.es.length := by simp
  have hz2 : P.es.length ≤ 16777216 := by omega
  k_steps
  refine g_execs ?_
  refine lift ?_
  k_steps
  dsimp only
  refine g_execs ?_
  refine lift ?_
  k_steps
  dsimp only
  refine g_execs ?_
  refine lift ?_
  k_steps
  dsimp only
  rename Fr s.heap L _ _ => F1
  rename News s.heap L _ _ => N1
  have k1 := hK _ _ F1 (fun p hp => (N1 p (by repeat (first | exact hp | refine List.mem_cons_of_mem _ ?_))).1)
  have hS1 := hS.same F1 rfl rfl rfl rfl rfl (newsSub N1 (by repeat (first | exact List.forall_mem_nil _ | refine List.forall_mem_cons.mpr ⟨by k_mem, ?_⟩))) k1
  have e6 : x.fmod 6 = x % 6 := Int.fmod_eq_emod_of_nonneg _ (by decide)
  have ek : (x.fdiv 6).fmod (P.es.length : Int) = (x.fdiv 6) % (P.es.length : Int) := Int.fmod_eq_emod_of_nonneg _ (by omega)
  refine g_execs (g_mono (post _ _ (x.fmod 6) ((x.fdiv 6).fmod (P.es.length : Int)) (x.fdiv 72) _ _ _ (by rw [e6]; exact Int.emod_nonneg _ (by decide)) (by rw [e6]; exact Int.emod_lt_of_pos _ (by decide)) (by rw [ek]; exact Int.emod_nonneg _ (by omega)) (by rw [ek]; exact Int.emod_lt_of_pos _ (by omega)) hS1) (fun f s' h => ?_) fun _ _ e => e)
  cases f <;> first | exact g_nil h | exact h
end Mine
end
section -- G19
open PySem PySem.W PyProof.Rows PySem.Calls
set_option maxRecDepth 100000
namespace Mine
def relL (slice : Expr) (v ov iv : Value) : List Value := match slice with
  | .Slice _ _ none _ => [iv, v, ov]
  | _ => [v, ov, iv]
section
variable {M : Model} {A : Around} {E : Value → Shared → Prop} {s : Shared} {env : Env}
theorem g_SetItem {o slice value : Expr} {tpos pos : Pos} {Q : Flow → Shared → Prop}
    (h : wpG M A (eval value env) (fun v s₁ => wpAny M A (eval o env) (fun ov s₂ => wpAny M A (eval slice env) (fun iv s₃ => wpG M A (setItem ov iv v) (fun _ s₄ => Q .next s₄) E s₃) E s₂) E s₁) E s)
    (he : exec (.Assign [.Subscript o slice tpos] value pos) env = (do
      standAt pos
      let v ← eval value env
      assignStores env v none [assign (.Subscript o slice tpos) env]) := by rfl) : wpG M A (exec (.Assign [.Subscript o slice tpos] value pos) env) Q E s := by
  rw [he]
  refine g_at (g_bind (g_mono h (fun v s₁ h₁ => ?_) fun _ _ x => x))
  show wpG M A (do assignAll v [assign (.Subscript o slice tpos) env]; pure .next) Q E s₁
  refine g_bind ?_
  show wpG M A (assign (.Subscript o slice tpos) env v) _ E s₁
  have e2 : assign (.Subscript o slice tpos) env v = (holding [v] (eval o env) >>= fun ov => holding [v, ov] (eval slice env) >>= fun iv => standAt tpos >>= fun _ => holding [v, ov, iv] (setItem ov iv v) >>= fun _ => release (relL slice v ov iv) []) := by rfl
  rw [e2]
  refine g_bind (g_holding (lift (wpAny_mono h₁ (fun ov s₂ h₂ => g_bind (g_holding (lift (wpAny_mono h₂ (fun iv s₃ h₃ => g_at (g_bind (g_holding (g_mono h₃ (fun _ s₄ h₄ => ?_) fun _ _ x => x)))) fun _ _ x => x)))) fun _ _ x => x)))
  exact fun Γ p hΓ g => by rw [Sem.wp_release]; exact (g_pure h₄ : wpG M A (pure Flow.next) Q E s₄)
end
theorem ba_setSlot {M : Model} {h : Heap} : Looks M h (typeLookup (.type "bytearray") "__setitem__") (some (.builtin "bytearray.__setitem__")) := Looks.of_peek emptyIn (by kernel_rfl)
theorem ba_setBind {M : Model} {h : Heap} (v : Value) : Looks M h (bindSpecial (.builtin "bytearray.__setitem__") v) (.builtin "bytearray.__setitem__", [v]) := Looks.of_peek emptyIn (by kernel_rfl)
theorem ba_setEntry : entryFor table "bytearray.__setitem__" = some Builtin.«bytearray.__setitem__» := entryFor_of_tree (by kernel_rfl)
theorem ba_setArgs (x sl v : Value) : argsOk "bytearray.__setitem__" ⟨[x, sl, v], []⟩ := by unfold argsOk; kernel_rfl
theorem ba_tc1 {M : Model} {h : Heap} (b : Array UInt8) (t : Tok) : Looks M h (checkTypeCall "bytearray" ⟨[.bytes b t], []⟩) () := Looks.of_peek emptyIn (by kernel_rfl)
theorem ba_newCall1 (b : Array UInt8) (t : Tok) : checkBuiltinCall "bytearray.__new__" ⟨[.type "bytearray", .bytes b t], []⟩ = pure () := by kernel_rfl
theorem ba_initArgs1 (x : Addr) (b : Array UInt8) (t : Tok) : argsOk "bytearray.__init__" ⟨[.ref x, .bytes b t], []⟩ := by unfold argsOk; kernel_rfl
theorem ba_line {b : Array UInt8} {o : Obj} (hz : b.size ≤ 16777216) (e : o.data = .bytearray b 0 := by rfl) : o.data.pastItsLine = none := by
  rw [e]
  unfold Data.pastItsLine
  simp [sizeLine_eq]
  omega
theorem ba_check1 {M : Model} {A : Around} {E : Value → Shared → Prop} {s : Shared} {x : Addr} {b c : Array UInt8} {t : Tok} {R : Unit → Shared → Prop} (hx : s.heap.get? x = some (baObj c)) (h : R () s) : wpAny M A (checkBuiltinCall "bytearray.__init__" ⟨[.ref x, .bytes b t], []⟩) R E s := by
  have t1 : Looks M s.heap (typeOf (.ref x)) (.type "bytearray") := (Looks.ld hx).andThen .now
  have t2 : Looks M s.heap (isInstance (.ref x) (.type "bytearray")) true := t1.andThen ba_sub
  have z := @check_slot M A E s "bytearray.__init__" "bytearray" "__init__" (.ref x) [.bytes b t] [] R
  have z1 := z (by decide +kernel)
  have z2 := z1 (by decide +kernel)
  have z3 := z2 t2
  have z4 := z3 (ba_initArgs1 _ _ _)
  exact z4 h
section
variable {prog : Program} {w : World} {A : Around} {E : Value → Shared → Prop} {s : Shared}
theorem ba_new1 {b : Array UInt8} {t : Tok} {Q₁ : Value → Shared → Prop} (h : Q₁ (.ref s.heap.objs.size) { s with heap := s.heap.push (baObj #[]) }) :
    codeAny (model prog w) A (.call (.builtin "bytearray.__new__") ⟨[.type "bytearray", .bytes b t], []⟩) (wants Q₁ E) s := by
  refine codeAny_of_tree ?_
  show wpAny _ A.in1 (do checkBuiltinCall "bytearray.__new__" ⟨[.type "bytearray", .bytes b t], []⟩; again (.builtin "bytearray.__new__" ⟨[.type "bytearray", .bytes b t], []⟩)) _ _ s
  refine wpAny_bind (wpAny_of_eq (ba_newCall1 b t) (wpAny_pure ⟨plainId_quiet ba_newPlain _, codeAny_builtin_stack ba_newEntry rfl fun p st => ?_⟩))
  rw [Around.under_plainId ba_newPlain _]
  have hsub := ba_subEq
  have hown := ba_owner
  obtain ⟨hp, g, d, tk, os⟩ := s
  simp only [hown]
  wp_walk
  exact h

set_option maxHeartbeats 4000000 in
/-- bytearray(b) -/
theorem g_bytearray1 {b : Array UInt8} {t : Tok} (hz : b.size ≤ 16777216) {R : Result → Shared → Prop} (h : ∀ h', (∀ b o, s.heap.get? b = some o → h'.get? b = some o) → h'.get? s.heap.objs.size = some (baObj b) → h'.objs.size = s.heap.objs.size + 1 →
      R (.ok (.ret (.ref s.heap.objs.size))) { s with heap := h' }) : codeG (model prog w) A (.call (.type "bytearray") ⟨[.bytes b t], []⟩) R s := by
  refine g_tree (lift ?_)
  show wpAny _ _ (callAny (.type "bytearray") _) _ _ _
  refine wpAny_pure ⟨Code.quiet_builtin _ (by decide +kernel), (show badIds.contains "type.__call__" = false from by decide +kernel), ?_⟩
  refine g_builtin entry_typeCall ?_
  unfold Builtin.«type.__call__»
  dsimp only
  refine g_eq (by rw [if_neg (by decide)]) ?_
  rw [if_neg (by rw [ba_can]; decide)]
  refine g_step ((ba_tc1 b t).here ?_)
  refine g_step (ba_mro.here ?_)
  rw [if_neg (by decide)]
  refine g_step (ba_made.here ?_)
  dsimp only
  refine g_bind (g_pure ?_)
  refine g_bind (g_holding (lift (wpAny_call (codeAny_mono (ba_new1 (Q₁ := fun v s' => v = .ref s.heap.objs.size ∧ s' = { s with heap := s.heap.push (baObj #[]) }) (E := fun _ _ => False) ⟨rfl, rfl⟩) fun r s₁ hr => ?_))))
  rcases r with e | (v | _ | _ | _) <;> first | exact hr.elim | skip
  obtain ⟨rfl, rfl⟩ := hr
  let x := s.heap.objs.size
  have hx : (s.heap.push (baObj #[])).get? x = some (baObj #[]) := Heap.get?_push_size _ rfl
  have keep : ∀ b o, s.heap.get? b = some o → (s.heap.push (baObj #[])).get? b = some o := fun b o e => Heap.get?_push_of_some _ e
  have t1 : ∀ {M : Model}, Looks M (s.heap.push (baObj #[])) (typeOf (.ref x)) (.type "bytearray") := (Looks.ld hx).andThen .now
  refine g_step ((t1.andThen ba_sub : Looks (model prog w) _ (isInstance (.ref x) (.type "bytearray")) true).here ?_)
  simp only [Bool.not_true, Bool.false_eq_true, if_false]
  refine g_bind (g_holding ?_)
  unfold callSpecial?
  refine g_step ((t1.andThen ba_init : Looks (model prog w) _ (specialOf (.ref x) (Str.ofString "__init__")) _).here ?_)
  dsimp only
  refine g_holding (g_step ((ba_bind (.ref x)).here ?_))
  dsimp only
  refine g_bind (g_call ?_)
  refine g_tree (lift ?_)
  show wpAny _ _ (callAny (.builtin "bytearray.__init__") ⟨[.ref x, .bytes b t], []⟩) _ _ _
  unfold callAny
  refine wpAny_bind (ba_check1 hx ?_)
  refine wpAny_pure ⟨Code.quiet_builtin _ (by decide +kernel), (show badIds.contains "bytearray.__init__" = false from by decide +kernel), ?_⟩
  refine g_builtin ba_initEntry ?_
  unfold Builtin.«bytearray.__init__»
  dsimp only
  have own : ∀ {M : Model}, Looks M (s.heap.push (baObj #[])) (Builtin.Bytes.ownRelease (.ref x)) false := by
    intro M
    unfold Builtin.Bytes.ownRelease Builtin.Bytes.slotIsOwn
    have r : Looks M (s.heap.push (baObj #[])) (typeLookup (.type "bytearray") (Str.ofString "__release_buffer__")) (some (.builtin "bytearray.__release_buffer__")) := Looks.of_peek emptyIn (by kernel_rfl)
    refine Looks.andThen (a := true) ?_ .now
    refine (t1.andThen r : Looks M _ (specialOf (.ref x) (Str.ofString "__release_buffer__")) _).andThen ?_
    dsimp only
    rw [if_neg (by decide +kernel)]
    exact t1.andThen (Looks.of_peek emptyIn (by kernel_rfl))
  refine g_step (own.here ?_)
  rw [if_neg (by decide)]
  refine g_eq (t' := _) (congrArg (· >>= _) (show Builtin.Bytes.bindOptional "bytearray.__init__" "bytearray" ["source", "encoding", "errors"] [.bytes b t] [] = pure [some (.bytes b t), none, none] from by kernel_rfl)) ?_
  refine g_bind (g_pure ?_)
  dsimp only
  refine g_bind (g_pure ?_)
  refine g_bind (g_pure ?_)
  refine g_bind (wpG_or (g_exported ?_))
  rw [if_neg (by decide)]
  refine g_bind ?_
  unfold Builtin.Bytes.exportsOf
  refine g_step (wpAny_load hx (g_pure ?_))
  refine g_pure ?_
  rw [if_neg (by decide)]
  unfold Builtin.Bytes.write
  dsimp only
  unfold updateBytearray
  refine g_bind (g_step (wpAny_load hx ?_))
  dsimp only
  refine g_step (wpAny_update hx ?_)
  have hx₂ : ((s.heap.push (baObj #[])).update x (Obj.mapBytearray fun _ => #[])).get? x = some (baObj #[]) := Heap.get?_update_self _ hx rfl
  have keep₂ : ∀ b o, s.heap.get? b = some o → ((s.heap.push (baObj #[])).update x (Obj.mapBytearray fun _ => #[])).get? b = some o := fun b o e =>
    Heap.get?_update_of_ne _ (Nat.ne_of_gt (Heap.lt_size e)) (keep b o e)
  refine lift (wpAny_lookBehind hx₂ (by decide +kernel) ?_)
  refine g_step (wpAny_of_eq (a := none) (by kernel_rfl) ?_)
  rw [if_neg (by decide)]
  rw [if_neg (by decide)]
  rw [if_neg (by decide)]
  refine g_bind (g_pure ?_)
  refine g_step (wpAny_of_eq (a := none) (KBy.special_eq (by rw [typeLookup_type, builtinLookup_eq_fast]; kernel_rfl)) ?_)
  rw [if_neg (by decide)]
  refine g_step (wpAny_of_eq KBy.buffer_eq ?_)
  dsimp only
  refine g_step (wpAny_rule ?_)
  refine g_bind (g_step (wpAny_load hx₂ ?_))
  dsimp only
  refine g_step (wpAny_update hx₂ ?_)
  have hx₃ := Heap.get?_update_self (Obj.mapBytearray fun _ => b) hx₂ rfl
  have keep₃ : ∀ c o, s.heap.get? c = some o → (((s.heap.push (baObj #[])).update x (Obj.mapBytearray fun _ => #[])).update x (Obj.mapBytearray fun _ => b)).get? c = some o := fun c o e =>
    Heap.get?_update_of_ne _ (Nat.ne_of_gt (Heap.lt_size e)) (keep₂ c o e)
  refine lift (wpAny_lookBehind hx₃ (ba_line hz) ?_)
  refine g_pure ?_
  refine g_pure ?_
  refine g_pure ?_
  exact h _ keep₃ hx₃ (by simp)
end
end Mine
end
section -- G20
open PySem PySem.W PyProof.Rows PySem.Calls
set_option maxRecDepth 100000
namespace Mine
theorem ba_checkSet {M : Model} {A : Around} {E : Value → Shared → Prop} {s : Shared} {y : Addr} {sl v : Value} {c : Array UInt8} {R : Unit → Shared → Prop} (hy : s.heap.get? y = some (baObj c)) (h : R () s) : wpAny M A (checkBuiltinCall "bytearray.__setitem__" ⟨[.ref y, sl, v], []⟩) R E s := by
  have t1 : Looks M s.heap (typeOf (.ref y)) (.type "bytearray") := (Looks.ld hy).andThen .now
  have t2 : Looks M s.heap (isInstance (.ref y) (.type "bytearray")) true := t1.andThen ba_sub
  have z := @check_slot M A E s "bytearray.__setitem__" "bytearray" "__setitem__" (.ref y) [sl, v] [] R
  have z1 := z (by decide +kernel)
  have z2 := z1 (by decide +kernel)
  have z3 := z2 t2
  have z4 := z3 (ba_setArgs _ _ _)
  exact z4 h
theorem by_noIndex : typeLookup (.type "bytes") (Str.ofString "__index__") = pure none := by rw [typeLookup_type, builtinLookup_eq_fast]; kernel_rfl
theorem by_noInt : typeLookup (.type "bytes") (Str.ofString "__int__") = pure none := by rw [typeLookup_type, builtinLookup_eq_fast]; kernel_rfl
theorem by_noFloat : typeLookup (.type "bytes") (Str.ofString "__float__") = pure none := by rw [typeLookup_type, builtinLookup_eq_fast]; kernel_rfl
theorem by_notBa : isSubtype (.type "bytes") (.type "bytearray") = pure false := by rw [isSubtype_type]; kernel_rfl
theorem by_notComplex : isSubtype (.type "bytes") (.type "complex") = pure false := by rw [isSubtype_type]; kernel_rfl
section
variable {prog : Program} {w : World} {A : Around} {E : Value → Shared → Prop} {s : Shared}
theorem sliceParts_ii {sl : Addr} {a e : Int} {ua ue : Tok} {Q : Value × Value × Value → Shared → Prop} (hsl : s.heap.IsSliceOf sl (.int a ua) (.int e ue) .none) (h : Q (rawInt a, rawInt e, .none) s) : wpAny (model prog w) A (Builtin.Bytes.sliceParts (.ref sl)) Q E s := by
  obtain ⟨o, ho, hc, hd⟩ := hsl
  unfold Builtin.Bytes.sliceParts
  refine wpAny_bind (wpAny_field (x := .none) ho hd rfl ?_)
  refine wpAny_bind (wpAny_of_eq (a := Value.none) rfl ?_)
  refine wpAny_ite (KBy.ite_no (show ¬ ((Value.none == rawInt 0) = true) from Bool.false_ne_true) ?_)
  refine wpAny_bind (wpAny_field (x := .int a ua) ho hd rfl ?_)
  kby_int
  refine wpAny_bind (wpAny_field (x := .int e ue) ho hd rfl ?_)
  kby_int
  exact wpAny_pure h
theorem payload_ba {y : Addr} {c : Array UInt8} {Q : Array UInt8 → Shared → Prop} (ho : s.heap.get? y = some (baObj c)) (h : Q c s) : wpAny (model prog w) A (Builtin.Bytes.payload (.ref y)) Q E s := by
  unfold Builtin.Bytes.payload Builtin.Bytes.payload?
  exact wpAny_bind (wpAny_bind (wpAny_load ho (wpAny_pure (wpAny_pure h))))
theorem clip_of {i j n : Int} (h0 : 0 ≤ j) (h : min i n = j) : max 0 (min i n) = j := by rw [h]; exact Int.max_eq_right h0
theorem bounds_end {n : Nat} {a e : Int} (ha : a = n) (he : a ≤ e) : sliceBounds (some a) (some e) none n = (a, a, 1) := by
  subst ha
  unfold sliceBounds
  have e1 : (if ((n : Nat) : Int) < 0 then ((n : Nat) : Int) + n else (n : Int)) = n := if_neg (Int.not_lt.mpr (Int.natCast_nonneg _))
  have e2 : (if e < 0 then e + (n : Int) else e) = e := if_neg (Int.not_lt.mpr (Int.le_trans (Int.natCast_nonneg _) he))
  simp only [Option.getD_none, e1, e2]
  rw [if_pos (by decide), if_pos (by decide)]
  rw [clip_of (Int.natCast_nonneg n) (Int.min_self _), clip_of (Int.natCast_nonneg n) (Int.min_eq_right he)]
theorem g_checkResize {y : Addr} {c : Array UInt8} {Q : Unit → Shared → Prop} (ho : s.heap.get? y = some (baObj c)) (h : Q () s) : wpG (model prog w) A (Builtin.Bytes.checkResize (.ref y)) Q E s := by
  unfold Builtin.Bytes.checkResize
  refine g_bind (wpG_or (g_exported ?_))
  rw [if_neg (by decide)]
  refine g_bind ?_
  unfold Builtin.Bytes.exportsOf
  refine g_step (wpAny_load ho (g_pure ?_))
  refine g_pure ?_
  rw [if_neg (by decide)]
  exact g_pure h
theorem write_ba {y : Addr} {c : Array UInt8} {f : Array UInt8 → Array UInt8} {Q : Unit → Shared → Prop} (ho : s.heap.get? y = some (baObj c)) (hz : (f c).size ≤ 16777216) (h : ∀ h', (∀ k o, k ≠ y → s.heap.get? k = some o → h'.get? k = some o) → h'.get? y = some (baObj (f c)) → Q () { s with heap := h' }) :
    wpG (model prog w) A (Builtin.Bytes.write (.ref y) f) Q E s := by
  unfold Builtin.Bytes.write
  dsimp only
  unfold updateBytearray
  refine g_step (wpAny_load ho ?_)
  dsimp only
  refine g_step (wpAny_update ho ?_)
  have h1 := Heap.get?_update_self (Obj.mapBytearray f) ho rfl
  refine lift (wpAny_lookBehind h1 (ba_line (b := f c) hz) ?_)
  exact h _ (fun k o hk e => (Heap.get?_update_other _ _ (Ne.symm hk)).trans e) h1
set_option maxHeartbeats 4000000 in
/-- y[a:e] = b at the end of y -/
theorem g_setSlice {y sl : Addr} {c b : Array UInt8} {t : Tok} {a e : Int} {ua ue : Tok} {Q : Unit → Shared → Prop} (hy : s.heap.get? y = some (baObj c)) (hsl : s.heap.IsSliceOf sl (.int a ua) (.int e ue) .none) (ha : a = c.size) (he : a ≤ e) (hz : c.size + b.size ≤ 16777216)
    (h : ∀ h' t', (∀ k o, k ≠ y → s.heap.get? k = some o → h'.get? k = some o) → h'.get? y = some (baObj (c ++ b)) → Q () { s with heap := h', toks := t' }) :
    wpG (model prog w) A (setItem (.ref y) (.ref sl) (.bytes b t)) Q E s := by
  have hT : s.TypeIs (.ref y) "bytearray" := ⟨_, hy, rfl⟩
  have t1 : ∀ {M : Model}, Looks M s.heap (typeOf (.ref y)) (.type "bytearray") := (Looks.ld hy).andThen .now
  unfold setItem
  refine g_holding ?_
  refine g_step (wpAny_sequenceKey hT (by decide) ?_)
  refine g_bind ?_
  unfold callSpecial?
  refine g_step ((t1.andThen ba_setSlot : Looks (model prog w) _ (specialOf (.ref y) (Str.ofString "__setitem__")) _).here ?_)
  dsimp only
  refine g_holding (g_step ((ba_setBind (.ref y)).here ?_))
  dsimp only
  refine g_bind (g_call ?_)
  refine g_tree (lift ?_)
  show wpAny _ _ (callAny (.builtin "bytearray.__setitem__") ⟨[.ref y, .ref sl, .bytes b t], []⟩) _ _ _
  unfold callAny
  refine wpAny_bind (ba_checkSet hy ?_)
  refine wpAny_pure ⟨Code.quiet_builtin _ (by decide +kernel), (show badIds.contains "bytearray.__setitem__" = false from by decide +kernel), ?_⟩
  refine g_builtin ba_setEntry ?_
  unfold Builtin.«bytearray.__setitem__»
  dsimp only
  rw [if_neg (by decide)]
  obtain ⟨os, hos, hcs, hds⟩ := id hsl
  have hTs : s.TypeIs (.ref sl) "slice" := ⟨os, hos, hcs⟩
  refine g_bind ?_
  unfold Builtin.Bytes.subscript?
  refine g_step (wpAny_specialOf hTs slice_no_index (g_pure ?_))
  dsimp only
  refine g_step (wpAny_typeOf hTs ?_)
  rw [if_neg (by decide)]
  refine g_step (sliceParts_ii hsl ?_)
  rw [if_neg (show ¬ (Builtin.Bytes.sameRef (.ref y) (.bytes b t) = true) from Bool.false_ne_true)]
  refine g_step (wpAny_isInstance (T := "bytes") (b := false) (typeIs_bytes _ _ _) by_notBa ?_)
  rw [if_pos (by decide)]
  refine g_bind (wpG_or (g_step (wpAny_of_eq (KBy.special_eq by_noIndex) (g_pure ?_))))
  rw [if_neg (by decide)]
  refine wpG_or (g_step (wpAny_of_eq (KBy.special_eq by_noInt) (g_pure ?_)))
  rw [if_neg (by decide)]
  refine wpG_or (g_step (wpAny_of_eq (KBy.special_eq by_noFloat) (g_pure ?_)))
  rw [if_neg (by decide)]
  refine lift (wpAny_isInstance (T := "bytes") (b := false) (typeIs_bytes _ _ _) by_notComplex ?_)
  refine g_step (wpAny_of_eq (a := none) (by kernel_rfl) ?_)
  rw [if_neg (by decide)]
  refine g_step (wpAny_rule ?_)
  refine g_bind (g_call (g_bytearray1 (by omega) fun h1 hk1 hs1 hz1 => ?_))
  dsimp only
  have hsl1 : h1.IsSliceOf sl (.int a ua) (.int e ue) .none := let ⟨o, ho, r⟩ := hsl; ⟨o, hk1 _ _ ho, r⟩
  refine g_bind (g_holding (lift (sliceParts_ii hsl1 ?_)))
  refine g_step (payload_ba hs1 ?_)
  refine g_step (payload_ba (hk1 _ _ hy) ?_)
  refine g_step (wpAny_of_eq ((sliceIndices_raw (some a) (some e) none c.size (fun e => nomatch e)).trans (congrArg pure (bounds_end ha he))) ?_)
  dsimp only
  rw [if_pos (by decide)]
  refine g_step (wpAny_rule ?_)
  have fc : c.extract 0 a.toNat ++ b ++ c.extract (max a a).toNat = c ++ b := by
    subst ha
    simp
  have fz : (c ++ b).size ≤ 16777216 := by rw [Array.size_append]; exact hz
  have done : ∀ h', (∀ k o, k ≠ y → h1.get? k = some o → h'.get? k = some o) → h'.get? y = some (baObj (c.extract 0 a.toNat ++ b ++ c.extract (max a a).toNat)) → Q () { s with heap := h' } := fun h' k' e' =>
    h h' s.toks (fun k o hk e => k' k o hk (hk1 k o e)) (by rw [fc] at e'; exact e')
  split
  · refine g_bind (g_checkResize (hk1 _ _ hy) ?_)
    refine g_bind (write_ba (hk1 _ _ hy) (by rw [fc]; exact fz) fun h' k' e' => ?_)
    exact g_pure (g_pure (g_pure (done h' k' e')))
  · refine g_bind (write_ba (hk1 _ _ hy) (by rw [fc]; exact fz) fun h' k' e' => ?_)
    exact g_pure (g_pure (g_pure (done h' k' e')))
theorem g_setSliceN {y : Addr} {c b : Array UInt8} {t : Tok} {a e : Int} {ua ue : Tok} {Q : Unit → Shared → Prop} {h₀ : Heap} {L : Addr} {m : Str → Option Value} {news : List (Addr × Obj)} {u : Obj → List (Addr × Obj)}
    (F : Fr h₀ L s.heap m) (N : News h₀ L s.heap news) (U : UpdF y (baObj c) news u) (ha : a = c.size) (he : a ≤ e) (hz : c.size + b.size ≤ 16777216)
    (h : ∀ h' t', Fr h₀ L h' m → News h₀ L h' (u (baObj (c ++ b))) → Q () { s with heap := h', toks := t' }) :
    wpG (model prog w) A (setItem (.ref y) (.ref s.heap.objs.size) (.bytes b t)) Q E { s with heap := s.heap.push { cls := .type "slice", data := .fields #[.int a ua, .int e ue, .none] } } := by
  obtain ⟨pre, post, rfl, hg, p1, p2⟩ := U.split
  have hy := N (y, baObj c) (List.mem_append_right _ (.head _))
  refine g_setSlice (Heap.get?_push_of_some _ hy.1) (Heap.IsSliceOf.new _ _ _ _) ha he hz fun h' t' k hk => ?_
  have kk : ∀ z o, z ≠ y → s.heap.get? z = some o → h'.get? z = some o := fun z o hz e => k z o hz (Heap.get?_push_of_some _ e)
  refine h h' t' ⟨F.ns.at' fun o e => kk _ _ (Ne.symm hy.2.1) e, fun z o e => kk z o (fun q => by rw [q, hy.2.2] at e; cases e) (F.keep z o e), F.above⟩ ?_
  rw [hg]
  intro q hq
  rcases List.mem_append.mp hq with hq | hq
  · exact ⟨kk _ _ (p1 q hq) (N q (List.mem_append_left _ hq)).1, (N q (List.mem_append_left _ hq)).2⟩
  · rcases List.mem_cons.mp hq with rfl | hq
    · exact ⟨hk, hy.2⟩
    · exact ⟨kk _ _ (p2 q hq) (N q (List.mem_append_right _ (.tail _ hq))).1, (N q (List.mem_append_right _ (.tail _ hq))).2⟩
end
end Mine
end
section -- L1j
open PySem PySem.W PyProof.Rows PySem.Calls
set_option maxRecDepth 100000
namespace Mine
set_option maxHeartbeats 4000000
local macro_rules | `(tactic| k_room) => `(tactic| ((try simp only [depth_mark, depth_under_make, depth_under_kw, depth_in1, depth_deeper, depth_caller]); (first | ((show _ + _ < 1000); omega) | ((show _ < 1000); omega))))
local macro_rules | `(tactic| walk_at "call type:type") => `(tactic| (k_here; k_dflt (refine call_type_of (Tx := "bytes") rfl (by decide) ?_)))
theorem len_baN {prog : Program} {w : World} {A : Around} {E : Value → Shared → Prop} {s : Shared} {h₀ : Heap} {L y : Addr} {c : Array UInt8} {news : List (Addr × Obj)} {Q : Value → Shared → Prop} (N : News h₀ L s.heap news) (hm : (y, baObj c) ∈ news) (hz : c.size ≤ 16777216) (h : Q (.int c.size (s.toks + 1)) { s with toks := s.toks + 1 + 1 }) : wpAny (model prog w) A (call (.builtin "len") [.ref y]) Q E s :=
  len_ba (N _ hm).1 hz h
local macro_rules | `(tactic| walk_at "call builtin:len") => `(tactic| (k_here; k_dflt (refine' len_baN ?N ?m ?z ?_; (case N => k_asm); (case m => k_mem); (case z => assumption))))
theorem writeB_call {w : World} {p : Program} {loose : List Str} {mg mb : Str → Option Value} {A₀ : Around} {base h₀ : Heap} {outer : List Env} {L : Addr} {m : Str → Option Value} {env : Env} {mean : ExcName → Option Value} {s : Shared} {dep un : Nat} {gs : Option (List Code)}
    {R : Result → Shared → Prop} {x dx y : Addr} {dd : Obj} {b c : Array UInt8} {t : Tok} (hf : env.frame = some L) (hke : env.scope.kind = .function)
    (X : (hd.heap_39 w.params).In h₀) (T : Top p loose mean mg mb h₀) (B : Below A₀ base outer h₀) (F : Fr h₀ L s.heap m) (hdep : dep < 490) (hun : un < 900)
    (N : News h₀ L s.heap [(x, instObj 365 dx), (dx, dd), (y, baObj c)]) (hdd : FreshB w.params s.heap x dx y c c.size) (hb : 0 < b.size) (hb' : b.size ≤ 16777216) (hc : c.size ≤ 16777216) (hz : c.size + b.size ≤ 16777216)
    (post : ∀ v h' t', (∀ b o, b ≠ dx → b ≠ y → s.heap.get? b = some o → h'.get? b = some o) → FreshB w.params h' x dx y (c ++ b) (c ++ b).size → R (.ok (.ret v)) { s with heap := h', toks := t' }) :
    codeG (model PySem.Challenge.rw_kn0093_01.row.prog w) (AR dep (env :: outer) gs un) (.call (.ref 348) ⟨[.ref x, .bytes b t], []⟩) R s := by
  have X' := X.keeps F.keep
  obtain ⟨hdx0, ⟨t₁, t₂, t₃, e⟩, _⟩ := hdd
  have e' := (N _ (.tail _ (.head _))).1
  rw [e] at e'
  cases e'
  refine' g_defF (news := [(x, instObj 365 dx), (dx, _), (y, baObj c)]) (env := env)
    B F N T.nolimit ?hA hf hke X' ?ho ?hcd ?hroom ?hb ?hloc (fun g L' h₁ hk F₁ N₁ B₁ st hlt => ?_) ?hcell ?c1 ?c2 ?c3
  case hA => rfl
  case ho => k_is
  case hcd => k_is
  case hroom => k_room
  case hb => first | exact BindsTo.of_eq rfl | exact binds_K X' rfl (by k_is) rfl rfl rfl
  case hloc => exact locs rfl
  case hcell => decide
  case c1 => rfl
  case c2 => rfl
  case c3 => rfl
  have X₁ := X.keeps st
  have T₁ := T.keeps st
  have TR₁ := topRead_of T₁
  have nxd : x ≠ dx := fun q => by
    have a1 := (N₁ _ (.head _)).1
    have a2 := (N₁ _ (.tail _ (.head _))).1
    dsimp only at a1 a2
    rw [q, a2] at a1
    exact absurd (congrArg Obj.cls (Option.some.inj a1)) (show ¬ (Value.type "dict" = Value.ref 365) from by decide)
  have ndx := neN (fun q => nxd q.symm : dx ≠ x)
  have nxd := neN nxd
  have hdn : ∀ p ∈ [(x, instObj 365 dx), (dx, _), (y, baObj c)], s.heap.get? p.1 = some p.2 := fun p hp => (N p hp).1
  refine g_execs ?_
  refine lift ?_
  k_steps
  try dsimp only
  refine g_execs ?_
  refine lift ?_
  k_steps
  try dsimp only
  refine g_execs ?_
  refine lift ?_
  k_steps
  try dsimp only
  refine g_execs ?_
  refine lift ?_
  k_steps
  · rename ((b.size : Nat) : Int) = 0 => hz0
    omega
  try dsimp only
  refine g_execs ?_
  refine lift ?_
  k_steps
  try dsimp only
  refine g_execs ?_
  refine lift ?_
  k_steps
  try dsimp only
  refine g_execs ?_
  refine lift ?_
  k_steps
  try dsimp only
  refine g_execs ?_
  rename Fr g L' _ _ => F2
  rename News g L' _ _ => N2
  have Z2 := And.intro F2 N2
  refine g_SetItem (lift ?_)
  k_steps
  dsimp only
  obtain ⟨F2, N2⟩ := Z2
  have nxy : x ≠ y := fun q => by
    have a1 := (N2 _ (.head _)).1
    have a2 := (N2 _ (.tail _ (.tail _ (.head _)))).1
    dsimp only at a1 a2
    rw [q, a2] at a1; cases a1
  have ndy : dx ≠ y := fun q => by
    have a1 := (N2 _ (.tail _ (.head _))).1
    have a2 := (N2 _ (.tail _ (.tail _ (.head _)))).1
    dsimp only at a1 a2
    rw [q, a2] at a1
    exact absurd (congrArg Obj.cls (Option.some.inj a1)) (show ¬ (Value.type "bytearray" = Value.type "dict") from by decide)
  have kndy := neN ndy
  have knxy := neN nxy
  refine' g_setSliceN (s := { s with heap := _, toks := _ }) F2 N2 ?U rfl ?he hz fun h3 t3 F3 N3 => ?_
  case he => omega
  case U => exact .tail nxy (.tail ndy (.head (List.forall_mem_nil _)))
  dsimp only
  clear F2 N2
  have N3 : News g L' h3 [(x, instObj 365 dx), (dx, dictOf [⟨PyData.keyHash w.params "_BytesIO__buf", .str "_BytesIO__buf" t₁, .ref y⟩, ⟨PyData.keyHash w.params "_BytesIO__pos", .str "_BytesIO__pos" t₂, .int (c.size : Int) t₃⟩] 2), (y, baObj (c ++ b))] := N3
  refine g_execs ?_
  refine lift ?_
  k_steps
  try dsimp only
  refine g_execs ?_
  refine lift ?_
  k_steps
  try dsimp only
  rename Fr g L' _ _ => F4
  rename News g L' _ _ => N4
  have e4 := (N4 _ (.tail _ (.head _))).1
  have hsz : (((c ++ b).size : Nat) : Int) = (c.size : Int) + (b.size : Int) := by rw [Array.size_append]; exact Int.natCast_add _ _
  dsimp only at e4
  rw [← hsz] at e4
  refine post _ _ _ (fun b' o h1 h2 e2 => ?_) ⟨(N4 _ (.head _)).1, ⟨t₁, t₂, _, e4⟩, (N4 _ (.tail _ (.tail _ (.head _)))).1⟩
  by_cases hbx : b' = x
  · subst hbx
    rw [hdx0] at e2
    cases e2
    exact (N4 _ (.head _)).1
  · refine F4.keep b' o (hk b' o e2 fun q => ?_)
    rcases List.mem_cons.mp q with q | q
    · exact hbx q
    rcases List.mem_cons.mp q with q | q
    · exact h1 q
    exact h2 (List.mem_singleton.mp q)
end Mine
end
section -- L1l
open PySem PySem.W PyProof.Rows PySem.Calls
set_option maxRecDepth 100000
namespace Mine
set_option maxHeartbeats 4000000
local macro_rules | `(tactic| k_room) => `(tactic| ((try simp only [depth_mark, depth_under_make, depth_under_kw, depth_in1, depth_deeper, depth_caller]); (first | ((show _ + _ < 1000); omega) | ((show _ < 1000); omega))))
theorem writeS_call {w : World} {p : Program} {loose : List Str} {mg mb : Str → Option Value} {A₀ : Around} {base h₀ : Heap} {outer : List Env} {L : Addr} {m : Str → Option Value} {env : Env} {mean : ExcName → Option Value} {s : Shared} {dep un : Nat} {gs : Option (List Code)}
    {R : Result → Shared → Prop} {x dx : Addr} {dd : Obj} {b c : Str} {t : Tok} (hf : env.frame = some L) (hke : env.scope.kind = .function)
    (X : (hd.heap_39 w.params).In h₀) (T : Top p loose mean mg mb h₀) (B : Below A₀ base outer h₀) (F : Fr h₀ L s.heap m) (hdep : dep < 490) (hun : un < 900)
    (N : News h₀ L s.heap [(x, instObj 612 dx), (dx, dd)]) (hdd : FreshS w.params s.heap x dx c c.length) (hb : 0 < b.length) (hz : c.length + b.length ≤ 16777216)
    (post : ∀ v h' t', (∀ b o, b ≠ dx → s.heap.get? b = some o → h'.get? b = some o) → FreshS w.params h' x dx (c ++ b) (c ++ b).length → R (.ok (.ret v)) { s with heap := h', toks := t' }) :
    codeG (model PySem.Challenge.rw_kn0093_01.row.prog w) (AR dep (env :: outer) gs un) (.call (.ref 595) ⟨[.ref x, .str b t], []⟩) R s := by
  have X' := X.keeps F.keep
  obtain ⟨hdx0, t₁, t₂, t₃, t₄, t₅, t₆, e⟩ := hdd
  have e' := (N _ (.tail _ (.head _))).1
  rw [e] at e'
  cases e'
  refine' g_defF (news := [(x, instObj 612 dx), (dx, _)]) (env := env)
    B F N T.nolimit ?hA hf hke X' ?ho ?hcd ?hroom ?hb ?hloc (fun g L' h₁ hk F₁ N₁ B₁ st hlt => ?_) ?hcell ?c1 ?c2 ?c3
  case hA => rfl
  case ho => k_is
  case hcd => k_is
  case hroom => k_room
  case hb => first | exact BindsTo.of_eq rfl | exact binds_K X' rfl (by k_is) rfl rfl rfl
  case hloc => exact locs rfl
  case hcell => decide
  case c1 => rfl
  case c2 => rfl
  case c3 => rfl
  have X₁ := X.keeps st
  have T₁ := T.keeps st
  have TR₁ := topRead_of T₁
  have nxd : x ≠ dx := fun q => by
    have a1 := (N₁ _ (.head _)).1
    have a2 := (N₁ _ (.tail _ (.head _))).1
    dsimp only at a1 a2
    rw [q, a2] at a1
    exact absurd (congrArg Obj.cls (Option.some.inj a1)) (show ¬ (Value.type "dict" = Value.ref 612) from by decide)
  have ndx := neN (fun q => nxd q.symm : dx ≠ x)
  have nxd := neN nxd
  refine g_execs ?_
  refine lift ?_
  k_steps
  try dsimp only
  refine g_execs ?_
  refine lift ?_
  k_steps
  try dsimp only
  refine g_execs ?_
  refine lift ?_
  k_steps
  try dsimp only
  refine g_execs ?_
  refine lift ?_
  k_steps
  try dsimp only
  · rename ((b.length : Nat) : Int) = 0 => hz0
    omega
  try dsimp only
  refine g_execs ?_
  refine lift ?_
  k_steps
  try dsimp only
  refine g_execs ?_
  refine lift ?_
  k_steps
  try dsimp only
  refine g_execs ?_
  refine lift ?_
  k_steps
  try dsimp only
  refine g_execs ?_
  refine lift ?_
  k_steps
  try dsimp only
  refine g_execs ?_
  refine lift ?_
  k_steps
  try dsimp only
  refine g_execs ?_
  refine lift ?_
  k_steps
  try dsimp only
  refine g_execs ?_
  refine lift ?_
  k_steps
  try dsimp only
  refine g_execs ?_
  refine lift ?_
  k_steps
  try dsimp only
  refine g_execs ?_
  refine lift ?_
  k_steps
  try dsimp only
  rename Fr g L' _ _ => F4
  rename News g L' _ _ => N4
  have e1 : Txt.slice c none (some (c.length : Int)) = c := by
    have q := beq_iff_eq.mp (slice_closes_toL (x := c) (j := (c.length : Int)) (by omega) (Int.le_refl _))
    rw [q]
    show (⟨_⟩ : Str) = ⟨c.cps⟩
    congr 1
    have : ((c.length : Int) - 0).toNat = c.cps.toList.length := by rw [Array.length_toList]; show ((c.length : Int) - 0).toNat = c.length; omega
    rw [this, show (0 : Int).toNat = 0 from rfl, List.drop_zero, List.take_length]
  have e2 : Txt.slice c (some ((c.length : Int) + (b.length : Int))) none = Str.empty := slice_beyond (by omega)
  have e3 : c ++ b ++ Str.empty = c ++ b := by
    show (⟨_⟩ : Str) = ⟨_⟩
    congr 1
  have e5 : (((c ++ b).length : Nat) : Int) = (c.length : Int) + (b.length : Int) := by
    show (((c.cps ++ b.cps).size : Nat) : Int) = _
    rw [Array.size_append]; exact Int.natCast_add _ _
  have e4 := (N4 _ (.tail _ (.head _))).1
  dsimp only at e4
  rw [e1, e2, e3, ← e5] at e4
  refine post _ _ _ (fun b' o h1 e2 => ?_) ⟨(N4 _ (.head _)).1, t₁, t₂, t₃, _, t₅, _, e4⟩
  by_cases hbx : b' = x
  · subst hbx
    exact (hdx0.symm.trans e2) ▸ (N4 _ (.head _)).1
  · refine F4.keep b' o (hk b' o e2 fun q => ?_)
    rcases List.mem_cons.mp q with q | q
    · exact hbx q
    exact h1 (List.mem_singleton.mp q)
end Mine
end
section -- L1m
open PySem PySem.W PyProof.Rows PySem.Calls
set_option maxRecDepth 100000
namespace Mine
set_option maxHeartbeats 4000000
local macro_rules | `(tactic| k_room) => `(tactic| ((try simp only [depth_mark, depth_under_make, depth_under_kw, depth_in1, depth_deeper, depth_caller]); (first | ((show _ + _ < 1000); omega) | ((show _ < 1000); omega))))
theorem slice_back (c : Str) : Txt.slice (c ++ (" " : Str)) none (some (-1)) = c := by
  have hl : (c ++ (" " : Str)).length = c.length + 1 := by
    show (c.cps ++ _).size = _
    rw [Array.size_append]
    rfl
  have e1 : Txt.slice (c ++ (" " : Str)) none (some (-1)) = Txt.slice (c ++ (" " : Str)) none (some (c.length : Int)) := by
    unfold Txt.slice
    rw [StrLaws.sliceIdx_neg_hi none (j := -1) _ (by omega) (by rw [hl]; omega), show ((-1 : Int) + ((c ++ (" " : Str)).length : Int)) = (c.length : Int) from by rw [hl]; omega]
  rw [e1, beq_iff_eq.mp (slice_closes_toL (x := c ++ (" " : Str)) (j := (c.length : Int)) (by omega) (by rw [hl]; omega))]
  show (⟨_⟩ : Str) = ⟨c.cps⟩
  congr 1
  have h1 : ((c.length : Int) - 0).toNat = c.cps.toList.length := by rw [Array.length_toList]; show ((c.length : Int) - 0).toNat = c.length; omega
  have h2 : (c ++ (" " : Str)).cps.toList = c.cps.toList ++ (" " : Str).cps.toList := by
    show (c.cps ++ _).toList = _
    rw [Array.toList_append]
  rw [h1, show (0 : Int).toNat = 0 from rfl, List.drop_zero, h2, List.take_left]
theorem getvalueS_call {w : World} {p : Program} {loose : List Str} {mg mb : Str → Option Value} {A₀ : Around} {base h₀ : Heap} {outer : List Env} {L : Addr} {m : Str → Option Value} {env : Env} {mean : ExcName → Option Value} {s : Shared} {dep un : Nat} {gs : Option (List Code)}
    {R : Result → Shared → Prop} {x dx : Addr} {dd : Obj} {c : Str} {n : Int} (hf : env.frame = some L) (hke : env.scope.kind = .function)
    (X : (hd.heap_39 w.params).In h₀) (T : Top p loose mean mg mb h₀) (B : Below A₀ base outer h₀) (F : Fr h₀ L s.heap m) (hdep : dep < 490) (hun : un < 900)
    (N : News h₀ L s.heap [(x, instObj 612 dx), (dx, dd)]) (hdd : FreshS w.params s.heap x dx c n) (hz : c.length + 1 ≤ 16777216)
    (post : ∀ h' t' u, (∀ b o, s.heap.get? b = some o → h'.get? b = some o) → R (.ok (.ret (.str c u))) { s with heap := h', toks := t' }) :
    codeAny (model PySem.Challenge.rw_kn0093_01.row.prog w) (AR dep (env :: outer) gs un) (.call (.ref 527) ⟨[.ref x], []⟩) R s := by
  have X' := X.keeps F.keep
  obtain ⟨_, t₁, t₂, t₃, t₄, t₅, t₆, e⟩ := hdd
  have e' := (N _ (.tail _ (.head _))).1
  rw [e] at e'
  cases e'
  refine' a_defF (news := [(x, instObj 612 dx), (dx, _)]) (env := env)
    B F N T.nolimit ?hA hf hke X' ?ho ?hcd ?hroom ?hb ?hloc (fun g L' h₁ hk F₁ N₁ B₁ st hlt => ?_) ?hcell ?c1 ?c2 ?c3
  case hA => rfl
  case ho => k_is
  case hcd => k_is
  case hroom => k_room
  case hb => first | exact BindsTo.of_eq rfl | exact binds_K X' rfl (by k_is) rfl rfl rfl
  case hloc => exact locs rfl
  case hcell => decide
  case c1 => rfl
  case c2 => rfl
  case c3 => rfl
  have X₁ := X.keeps st
  have T₁ := T.keeps st
  have TR₁ := topRead_of T₁
  have hdn : ∀ p ∈ [(x, instObj 612 dx), (dx, _)], s.heap.get? p.1 = some p.2 := fun p hp => (N p hp).1
  k_steps
  dsimp only
  rename Fr g L' _ _ => F₂
  rename News g L' _ _ => N₂
  rw [slice_back]
  exact post _ _ _ (keepNews hk hdn F₂ N₂ fun p hp => hp)
theorem seekB_call {w : World} {p : Program} {loose : List Str} {mg mb : Str → Option Value} {A₀ : Around} {base h₀ : Heap} {outer : List Env} {L : Addr} {m : Str → Option Value} {env : Env} {mean : ExcName → Option Value} {s : Shared} {dep un : Nat} {gs : Option (List Code)}
    {R : Result → Shared → Prop} {x dx y : Addr} {dd : Obj} {c : Array UInt8} {n : Int} {t : Tok} (hf : env.frame = some L) (hke : env.scope.kind = .function)
    (X : (hd.heap_39 w.params).In h₀) (T : Top p loose mean mg mb h₀) (B : Below A₀ base outer h₀) (F : Fr h₀ L s.heap m) (hdep : dep < 490) (hun : un < 900)
    (N : News h₀ L s.heap [(x, instObj 365 dx), (dx, dd), (y, baObj c)]) (hdd : FreshB w.params s.heap x dx y c n)
    (post : ∀ v h' t', (∀ b o, b ≠ dx → s.heap.get? b = some o → h'.get? b = some o) → FreshB w.params h' x dx y c 0 → R (.ok (.ret v)) { s with heap := h', toks := t' }) :
    codeAny (model PySem.Challenge.rw_kn0093_01.row.prog w) (AR dep (env :: outer) gs un) (.call (.ref 273) ⟨[.ref x, .int 0 t], []⟩) R s := by
  have X' := X.keeps F.keep
  obtain ⟨hdx0, ⟨t₁, t₂, t₃, e⟩, _⟩ := hdd
  have e' := (N _ (.tail _ (.head _))).1
  rw [e] at e'
  cases e'
  have nxd : x ≠ dx := fun q => by
    have a1 := (N _ (.head _)).1
    have a2 := (N _ (.tail _ (.head _))).1
    dsimp only at a1 a2
    rw [q, a2] at a1
    exact absurd (congrArg Obj.cls (Option.some.inj a1)) (show ¬ (Value.type "dict" = Value.ref 365) from by decide)
  have nxy : x ≠ y := fun q => by
    have a1 := (N _ (.head _)).1
    have a2 := (N _ (.tail _ (.tail _ (.head _)))).1
    dsimp only at a1 a2
    rw [q, a2] at a1; cases a1
  have ndy : dx ≠ y := fun q => by
    have a1 := (N _ (.tail _ (.head _))).1
    have a2 := (N _ (.tail _ (.tail _ (.head _)))).1
    dsimp only at a1 a2
    rw [q, a2] at a1
    exact absurd (congrArg Obj.cls (Option.some.inj a1)) (show ¬ (Value.type "bytearray" = Value.type "dict") from by decide)
  refine' a_defF (news := [(x, instObj 365 dx), (dx, _), (y, baObj c)]) (env := env)
    B F N T.nolimit ?hA hf hke X' ?ho ?hcd ?hroom ?hb ?hloc (fun g L' h₁ hk F₁ N₁ B₁ st hlt => ?_) ?hcell ?c1 ?c2 ?c3
  case hA => rfl
  case ho => k_is
  case hcd => k_is
  case hroom => k_room
  case hb => first | exact BindsTo.of_eq rfl | exact binds_K X' rfl (by k_is) rfl rfl rfl
  case hloc => exact locs rfl
  case hcell => decide
  case c1 => rfl
  case c2 => rfl
  case c3 => rfl
  have X₁ := X.keeps st
  have T₁ := T.keeps st
  have TR₁ := topRead_of T₁
  have ndx := neN (fun q => nxd q.symm : dx ≠ x)
  have knxd := neN nxd
  have kndy := neN ndy
  have knxy := neN nxy
  k_steps
  dsimp only
  rename Fr g L' _ _ => F4
  rename News g L' _ _ => N4
  refine post _ _ _ (fun b' o h1 e2 => ?_) ⟨(N4 _ (.head _)).1, ⟨t₁, t₂, _, (N4 _ (.tail _ (.head _))).1⟩, (N4 _ (.tail _ (.tail _ (.head _)))).1⟩
  by_cases hbx : b' = x
  · subst hbx
    exact (hdx0.symm.trans e2) ▸ (N4 _ (.head _)).1
  by_cases hby : b' = y
  · subst hby
    exact ((N _ (.tail _ (.tail _ (.head _)))).1.symm.trans e2) ▸ (N4 _ (.tail _ (.tail _ (.head _)))).1
  · refine F4.keep b' o (hk b' o e2 fun q => ?_)
    rcases List.mem_cons.mp q with q | q
    · exact hbx q
    rcases List.mem_cons.mp q with q | q
    · exact h1 q
    exact hby (List.mem_singleton.mp q)
end Mine
end
section -- G21
open PySem PySem.W PyProof.Rows PySem.Calls
set_option maxRecDepth 100000
namespace Mine
open Builtin
theorem slot_ba_get : Slot "bytearray" "__getitem__" "bytearray.__getitem__" :=
  .of (owner := "bytearray") (n := "__getitem__") (by rw [typeLookup_type, builtinLookup_eq_fast]; kernel_rfl) (by decide +kernel) (by decide +kernel) (by decide +kernel)
    (by first | exact .inl (by decide +kernel) | exact .inr (by decide +kernel)) (by rw [isSubtype_type]; kernel_rfl)
theorem entry_ba_get : entryFor table "bytearray.__getitem__" = some Builtin.«bytearray.__getitem__» := entryFor_of_tree (by kernel_rfl)
theorem args_ba_get (a b : Value) : argsOk "bytearray.__getitem__" ⟨[a, b], []⟩ := by unfold argsOk; kernel_rfl
theorem bounds_in {n : Nat} {a e : Nat} (ha : a ≤ e) (he : e ≤ n) : sliceBounds (some (a : Int)) (some (e : Int)) none n = ((a : Int), (e : Int), 1) := by
  unfold sliceBounds
  have e1 : (if ((a : Nat) : Int) < 0 then ((a : Nat) : Int) + n else (a : Int)) = a := if_neg (Int.not_lt.mpr (Int.natCast_nonneg _))
  have e2 : (if ((e : Nat) : Int) < 0 then (e : Int) + (n : Int) else (e : Int)) = e := if_neg (Int.not_lt.mpr (Int.natCast_nonneg _))
  simp only [Option.getD_none, e1, e2]
  rw [if_pos (by decide), if_pos (by decide)]
  rw [clip_of (Int.natCast_nonneg a) (Int.min_eq_left (Int.ofNat_le.mpr (Nat.le_trans ha he))), clip_of (Int.natCast_nonneg e) (Int.min_eq_left (Int.ofNat_le.mpr he))]
theorem sliced_in {c : Array UInt8} {a e : Nat} (ha : a ≤ e) (he : e ≤ c.size) : Bytes.sliced c (a : Int) (e : Int) 1 = c.extract a e := by
  unfold Bytes.sliced
  rw [sliceRange_one, pick_run]
  apply Array.toList_inj.mp
  simp [Array.toList_extract, List.extract]
theorem meets_baSlice {y sl : Addr} {c : Array UInt8} {a e : Nat} {ua ue : Tok} (ha : a ≤ e) (he : e ≤ c.size) (hz : c.size ≤ 16777216) :
    Meets («bytearray.__getitem__» ⟨[.ref y, .ref sl], []⟩) (fun _ R s => s.heap.get? y = some (baObj c) ∧ s.heap.IsSliceOf sl (.int a ua) (.int e ue) .none ∧ R (.ok (.ret (.ref s.heap.objs.size))) { s with heap := s.heap.push (baObj (c.extract a e)) }) := by
  refine .of_wp fun prog w A R s hS => ?_
  obtain ⟨hy, hsl, h⟩ := hS
  obtain ⟨o, ho, hc, hd⟩ := id hsl
  have hT : s.TypeIs (.ref sl) "slice" := ⟨o, ho, hc⟩
  show wpAny _ _ (Bytes.subscript? (.ref sl) >>= fun r => _) _ _ s
  refine wpAny_bind ?_
  unfold Bytes.subscript?
  refine wpAny_bind (wpAny_specialOf hT slice_no_index (wpAny_pure ?_))
  refine wpAny_bind (wpAny_typeOf hT ?_)
  show wpAny _ _ (Bytes.sliceParts (.ref sl) >>= fun r => _) _ _ s
  refine wpAny_bind (sliceParts_ii hsl ?_)
  refine wpAny_bind (payload_ba hy ?_)
  refine wpAny_bind (wpAny_of_eq ((sliceIndices_raw (some (a : Int)) (some (e : Int)) none c.size (fun q => nomatch q)).trans (congrArg pure (bounds_in ha he))) ?_)
  dsimp only
  rw [sliced_in ha he]
  have hsz : (c.extract a e).size ≤ 16777216 := by rw [Array.size_extract]; omega
  exact wpAny_bind (wpAny_newObj_type (wpAny_pure ⟨_, rfl, h⟩) (show _ ≤ sizeLine from by rw [sizeLine_eq]; exact hsz))
section
variable {prog : Program} {w : World} {A : Around} {E : Value → Shared → Prop} {s : Shared} {value slice : PySem.Expr} {h₀ : Heap} {L : Addr} {m : PySem.Str → Option Value} {news : List (Addr × Obj)} {Q : Value → Shared → Prop}
/-- y[a:e] of a bytearray, as the engine asks it -/
theorem baSlice_K {y : Addr} {c : Array UInt8} {a e : Nat} {ua ue : Tok} (hF : Fr h₀ L s.heap m) (hN : News h₀ L s.heap news) (hm : (y, baObj c) ∈ news) (ha : a ≤ e) (he : e ≤ c.size) (hz : c.size ≤ 16777216)
    (h : ∀ z h' k, Fr h₀ L h' m → News h₀ L h' ((z, baObj (c.extract a e)) :: news) → s.heap.objs.size < z → Q (.ref z) { s with heap := h', toks := k })
    (hs : subscripted slice false (.ref y) (.ref s.heap.objs.size) = operate [.ref s.heap.objs.size, .ref y] (getItem (.ref y) (.ref s.heap.objs.size)) := by with_unfolding_all rfl)
    (ht : ∀ r, letTemporaryGo value (.ref y) r = pure () := by intro _; with_unfolding_all rfl) :
    wpAny (model prog w) A (subscriptTail value slice (.ref y) (.ref s.heap.objs.size)) Q E { s with heap := s.heap.push { cls := .type "slice", data := .fields #[.int a ua, .int e ue, .none] } } := by
  have hy := Heap.get?_push_of_some { cls := .type "slice", data := .fields #[.int a ua, .int e ue, .none] } (hN _ hm).1
  have hT : ({ s with heap := s.heap.push { cls := .type "slice", data := .fields #[.int a ua, .int e ue, .none] } } : Shared).TypeIs (.ref y) "bytearray" := ⟨_, hy, rfl⟩
  refine tail_of_ItemOn ⟨"bytearray", _, slot_ba_get.lookup, hT, getItem_meets hT (by decide) slot_ba_get entry_ba_get (args_ba_get _ _) (meets_baSlice ha he hz)
    ⟨hy, Heap.IsSliceOf.new _ _ _ _, ?_⟩⟩ hs ht
  have hk : ∀ b o, s.heap.get? b = some o → ((s.heap.push { cls := .type "slice", data := .fields #[.int a ua, .int e ue, .none] }).push (baObj (c.extract a e))).get? b = some o := fun b o q => Heap.get?_push_of_some _ (Heap.get?_push_of_some _ q)
  have hs2 : (s.heap.push { cls := .type "slice", data := .fields #[.int a ua, .int e ue, .none] }).objs.size = s.heap.objs.size + 1 := Array.size_push ..
  have hl : s.heap.objs.size < (s.heap.push { cls := .type "slice", data := .fields #[.int a ua, .int e ue, .none] }).objs.size := by
    show (_ : Nat) < _
    rw [hs2]; exact Nat.lt_succ_self _
  exact h _ _ _ (frGrow hF hk) (newsAdd hF (newsGrow hN hk) (Heap.get?_push_size _ rfl) (Nat.le_of_lt hl)) hl
end
end Mine
end
section -- G22
open PySem PySem.W PyProof.Rows PySem.Calls
set_option maxRecDepth 100000
namespace Mine
open Builtin
theorem bb_no_bytes : typeLookup (.type "bytearray") "__bytes__" = pure none := by rw [typeLookup_type, builtinLookup_eq_fast]; kernel_rfl
theorem bb_no_index : typeLookup (.type "bytearray") "__index__" = pure none := by rw [typeLookup_type, builtinLookup_eq_fast]; kernel_rfl
theorem bb_buffer : typeLookup (.type "bytearray") "__buffer__" = pure (some (.builtin "bytearray.__buffer__")) := by rw [typeLookup_type, builtinLookup_eq_fast]; kernel_rfl
section
variable {prog : Program} {w : World} {A : Around} {E : Value → Shared → Prop} {s : Shared}
theorem ba_slotIsOwn {M : Model} {h : Heap} {x : Addr} {c : Array UInt8} (hx : h.get? x = some (baObj c)) : Looks M h (Bytes.slotIsOwn (.ref x) "__buffer__") true := by
  have t1 : Looks M h (typeOf (.ref x)) (.type "bytearray") := (Looks.ld hx).andThen .now
  unfold Bytes.slotIsOwn
  have r : Looks M h (typeLookup (.type "bytearray") (Str.ofString "__buffer__")) (some (.builtin "bytearray.__buffer__")) := Looks.of_peek emptyIn (by kernel_rfl)
  refine (t1.andThen r : Looks M _ (specialOf (.ref x) (Str.ofString "__buffer__")) _).andThen ?_
  dsimp only
  rw [if_neg (by decide +kernel)]
  exact t1.andThen (Looks.of_peek emptyIn (by kernel_rfl))
theorem ba_ownRelease {M : Model} {h : Heap} {x : Addr} {c : Array UInt8} (hx : h.get? x = some (baObj c)) : Looks M h (Bytes.ownRelease (.ref x)) false := by
  have t1 : Looks M h (typeOf (.ref x)) (.type "bytearray") := (Looks.ld hx).andThen .now
  unfold Bytes.ownRelease Bytes.slotIsOwn
  have r : Looks M h (typeLookup (.type "bytearray") (Str.ofString "__release_buffer__")) (some (.builtin "bytearray.__release_buffer__")) := Looks.of_peek emptyIn (by kernel_rfl)
  refine Looks.andThen (a := true) ?_ .now
  refine (t1.andThen r : Looks M _ (specialOf (.ref x) (Str.ofString "__release_buffer__")) _).andThen ?_
  dsimp only
  rw [if_neg (by decide +kernel)]
  exact t1.andThen (Looks.of_peek emptyIn (by kernel_rfl))
theorem ba_buffer {id : String} {f : Bool} {x : Addr} {c : Array UInt8} {Q : Option (Array UInt8) → Shared → Prop} (hx : s.heap.get? x = some (baObj c)) (h : Q (some c) s) : wpAny (model prog w) A (Bytes.buffer? id (.ref x) f) Q E s := by
  have hT : s.TypeIs (.ref x) "bytearray" := ⟨_, hx, rfl⟩
  unfold Bytes.buffer?
  refine wpAny_bind (wpAny_specialOf hT bb_buffer ?_)
  dsimp only
  refine wpAny_bind ((ba_slotIsOwn hx).here ?_)
  rw [if_neg (by decide)]
  refine wpAny_bind (wpAny_specialOf hT bb_buffer ?_)
  refine wpAny_bind ((ba_ownRelease hx).here ?_)
  rw [if_neg (by decide)]
  exact wpAny_bind (payload_ba hx (wpAny_pure h))
theorem bb_new {x : Addr} {c : Array UInt8} {Q : Value → Shared → Prop} (hx : s.heap.get? x = some (baObj c)) (hz : c.size ≤ 16777216)
    (hQ : ∀ t k, Q (.bytes c t) { s with toks := k }) :
    codeAny (model prog w) A (.call (.builtin "bytes.__new__") ⟨[.type "bytes", .ref x], []⟩) (wants Q E) s := by
  refine codeAny_of_tree ?_
  show wpAny _ A.in1 (do checkBuiltinCall "bytes.__new__" ⟨[.type "bytes", .ref x], []⟩; again (.builtin "bytes.__new__" ⟨[.type "bytes", .ref x], []⟩)) _ _ s
  refine wpAny_bind (wpAny_of_eq (F.bm_newCall _) (wpAny_pure ⟨plainId_quiet F.bm_plain _, codeAny_builtin F.bm_entry ?_⟩))
  rw [Around.under_plainId F.bm_plain _]
  have hT : s.TypeIs (.ref x) "bytearray" := ⟨_, hx, rfl⟩
  unfold Builtin.«bytes.__new__»
  refine wpAny_bind (wpAny_of_eq (a := true) rfl ?_)
  refine bm_if_false rfl ?_
  refine wpAny_bind (wpAny_of_eq F.bm_sub ?_)
  refine bm_if_false rfl ?_
  refine wpAny_bind (wpAny_of_eq (F.bm_bind _) ?_)
  refine wpAny_bind (wpAny_of_eq (a := ()) rfl ?_)
  refine wpAny_bind (wpAny_of_eq (a := ()) rfl ?_)
  refine bm_if_false rfl ?_
  refine wpAny_bind (wpAny_specialOf hT bb_no_bytes ?_)
  refine wpAny_bind (wpAny_bind ?_)
  show wpAny _ _ (load x >>= _) _ _ _
  refine wpAny_bind (wpAny_load hx ?_)
  refine wpAny_pure (wpAny_pure ?_)
  refine bm_if_false rfl ?_
  refine wpAny_bind (wpAny_specialOf hT bb_no_index ?_)
  refine bm_if_true rfl ?_
  first
    | show wpAny _ _ (Builtin.Bytes.buffer? "bytes.__new__" (.ref x) true >>= _) _ _ _
    | (refine wpAny_bind ?_; show wpAny _ _ (Builtin.Bytes.buffer? "bytes.__new__" (.ref x) true >>= _) _ _ _)
  refine wpAny_bind (ba_buffer hx ?_)
  refine wpAny_bind (wpAny_rule ?_)
  refine wpAny_bind (wpAny_mkBytes ?_ (by rw [sizeLine_eq]; exact hz))
  show wpAny _ _ (if (Value.type "bytes" == Value.type "bytes") = true then _ else _) _ _ _
  refine bm_if_true (by decide) ?_
  first
    | exact wpAny_pure (hQ _ _)
    | exact wpAny_bind (wpAny_pure (wpAny_pure (hQ _ _)))
theorem call_bytes_ba {x : Addr} {c : Array UInt8} {Q : Value → Shared → Prop} (hx : s.heap.get? x = some (baObj c)) (hz : c.size ≤ 16777216)
    (hQ : ∀ t k, Q (.bytes c t) { s with toks := k }) : wpAny (model prog w) A (call (.type "bytes") [.ref x]) Q E s := by
  refine callType_codes (Q₁ := fun obj s₁ => s₁.TypeIs obj "bytes" ∧ Q obj s₁) F.bm_called (F.bm_typeCall _) F.entry_object_init
    (bb_new hx hz fun t k => ⟨PySem.W.typeIs_bytes _ _ _, hQ t k⟩) fun obj s₁ h₁ => ?_
  exact ⟨h₁.1, F.args_object_init_2 obj _, object_init_meets F.bm_called.init.lookup F.bm_called.made (by decide) prog w A.in1 _ s₁ ⟨h₁.1, rfl, h₁.2⟩⟩
theorem baSlice_I {value slice : PySem.Expr} {h₀ : Heap} {L : Addr} {m : PySem.Str → Option Value} {news : List (Addr × Obj)} {Q : Value → Shared → Prop} {y : Addr} {c : Array UInt8} {a e : Int} {a' e' : Nat} {ua ue : Tok} (hF : Fr h₀ L s.heap m) (hN : News h₀ L s.heap news) (hm : (y, baObj c) ∈ news) (h1 : a = (a' : Int)) (h2 : e = (e' : Int)) (ha : a' ≤ e') (he : e' ≤ c.size) (hz : c.size ≤ 16777216)
    (h : ∀ z h' k, Fr h₀ L h' m → News h₀ L h' ((z, baObj (c.extract a' e')) :: news) → s.heap.objs.size < z → Q (.ref z) { s with heap := h', toks := k })
    (hs : subscripted slice false (.ref y) (.ref s.heap.objs.size) = operate [.ref s.heap.objs.size, .ref y] (getItem (.ref y) (.ref s.heap.objs.size)) := by with_unfolding_all rfl)
    (ht : ∀ r, letTemporaryGo value (.ref y) r = pure () := by intro _; with_unfolding_all rfl) :
    wpAny (model prog w) A (subscriptTail value slice (.ref y) (.ref s.heap.objs.size)) Q E { s with heap := s.heap.push { cls := .type "slice", data := .fields #[.int a ua, .int e ue, .none] } } := by
  subst h1 h2
  exact baSlice_K hF hN hm ha he hz h hs ht
end
end Mine
end
section -- L1n
open PySem PySem.W PyProof.Rows PySem.Calls
set_option maxRecDepth 100000
namespace Mine
set_option maxHeartbeats 4000000
local macro_rules | `(tactic| k_room) => `(tactic| ((try simp only [depth_mark, depth_under_make, depth_under_kw, depth_in1, depth_deeper, depth_caller]); (first | ((show _ + _ < 1000); omega) | ((show _ < 1000); omega))))
local macro_rules | `(tactic| walk_at "call builtin:len") => `(tactic| (k_here; k_dflt (refine' len_baN ?N ?m ?z ?_; (case N => k_asm); (case m => k_mem); (case z => assumption))))
theorem call_bytes_baN {prog : Program} {w : World} {A : Around} {E : Value → Shared → Prop} {s : Shared} {h₀ : Heap} {L x : Addr} {c : Array UInt8} {news : List (Addr × Obj)} {Q : Value → Shared → Prop} (N : News h₀ L s.heap news) (hm : (x, baObj c) ∈ news) (hz : c.size ≤ 16777216)
    (hQ : ∀ t k, Q (.bytes c t) { s with toks := k }) : wpAny (model prog w) A (call (.type "bytes") [.ref x]) Q E s := call_bytes_ba (N _ hm).1 hz hQ
theorem readE_call {w : World} {p : Program} {loose : List Str} {mg mb : Str → Option Value} {A₀ : Around} {base h₀ : Heap} {outer : List Env} {L : Addr} {m : Str → Option Value} {env : Env} {mean : ExcName → Option Value} {s : Shared} {dep un : Nat} {gs : Option (List Code)}
    {R : Result → Shared → Prop} {x dx y : Addr} {dd : Obj} {c : Array UInt8} {k : Int} {t : Tok} (hf : env.frame = some L) (hke : env.scope.kind = .function)
    (X : (hd.heap_39 w.params).In h₀) (T : Top p loose mean mg mb h₀) (B : Below A₀ base outer h₀) (F : Fr h₀ L s.heap m) (hdep : dep < 490) (hun : un < 900)
    (N : News h₀ L s.heap [(x, instObj 365 dx), (dx, dd), (y, baObj c)]) (hdd : FreshB w.params s.heap x dx y c c.size) (hk0 : 0 < k) (hk1 : k ≤ 100) (hz : c.size ≤ 16777216)
    (post : ∀ h' t' u, (∀ b o, s.heap.get? b = some o → h'.get? b = some o) → R (.ok (.ret (.bytes #[] u))) { s with heap := h', toks := t' }) :
    codeAny (model PySem.Challenge.rw_kn0093_01.row.prog w) (AR dep (env :: outer) gs un) (.call (.ref 289) ⟨[.ref x, .int k t], []⟩) R s := by
  have X' := X.keeps F.keep
  obtain ⟨hdx0, ⟨t₁, t₂, t₃, e⟩, _⟩ := hdd
  have e' := (N _ (.tail _ (.head _))).1
  rw [e] at e'
  cases e'
  have nxd : x ≠ dx := fun q => by
    have a1 := (N _ (.head _)).1
    have a2 := (N _ (.tail _ (.head _))).1
    dsimp only at a1 a2
    rw [q, a2] at a1
    exact absurd (congrArg Obj.cls (Option.some.inj a1)) (show ¬ (Value.type "dict" = Value.ref 365) from by decide)
  have nxy : x ≠ y := fun q => by
    have a1 := (N _ (.head _)).1
    have a2 := (N _ (.tail _ (.tail _ (.head _)))).1
    dsimp only at a1 a2
    rw [q, a2] at a1; cases a1
  have ndy : dx ≠ y := fun q => by
    have a1 := (N _ (.tail _ (.head _))).1
    have a2 := (N _ (.tail _ (.tail _ (.head _)))).1
    dsimp only at a1 a2
    rw [q, a2] at a1
    exact absurd (congrArg Obj.cls (Option.some.inj a1)) (show ¬ (Value.type "bytearray" = Value.type "dict") from by decide)
  refine' a_defF (news := [(x, instObj 365 dx), (dx, _), (y, baObj c)]) (env := env)
    B F N T.nolimit ?hA hf hke X' ?ho ?hcd ?hroom ?hb ?hloc (fun g L' h₁ hk F₁ N₁ B₁ st hlt => ?_) ?hcell ?c1 ?c2 ?c3
  case hA => rfl
  case ho => k_is
  case hcd => k_is
  case hroom => k_room
  case hb => first | exact BindsTo.of_eq rfl | exact binds_K X' rfl (by k_is) rfl rfl rfl
  case hloc => exact locs rfl
  case hcell => decide
  case c1 => rfl
  case c2 => rfl
  case c3 => rfl
  have X₁ := X.keeps st
  have T₁ := T.keeps st
  have TR₁ := topRead_of T₁
  have ndx := neN (fun q => nxd q.symm : dx ≠ x)
  have knxd := neN nxd
  have kndy := neN ndy
  have knxy := neN nxy
  have hdn : ∀ p ∈ [(x, instObj 365 dx), (dx, _), (y, baObj c)], s.heap.get? p.1 = some p.2 := fun p hp => (N p hp).1
  k_steps
  dsimp only
  rename Fr g L' _ _ => F₂
  rename News g L' _ _ => N₂
  exact post _ _ _ (keepNews hk hdn F₂ N₂ fun p hp => hp)
theorem a_execsS {M : Model} {A : Around} {E : Value → Shared → Prop} {s : Shared} {env : Env} {st : Stmt} {rest : List Stmt} {Q : Flow → Shared → Prop}
    (h : wpAny M A (exec st env) (fun f s' => match f with | .next => Stop (wpAny M A (execs rest env) Q E s') | f => Q f s') E s) : wpAny M A (execs (st :: rest) env) Q E s := a_execs h
theorem a_nil {M : Model} {A : Around} {E : Value → Shared → Prop} {s : Shared} {env : Env} {Q : Flow → Shared → Prop} (h : Q .next s) : wpAny M A (execs [] env) Q E s := wpAny_pure h
theorem a_IfS {M : Model} {A : Around} {E : Value → Shared → Prop} {s : Shared} {env : Env} {test : Expr} {body orelse : List Stmt} {pos : Pos} {Q : Flow → Shared → Prop}
    (h : wpAny M A (isTrue test env (eval test env)) (fun b s₂ => if b then Stop (wpAny M A (execs body env) Q E s₂) else Stop (wpAny M A (execs orelse env) Q E s₂)) E s) : wpAny M A (exec (.If test body orelse pos) env) Q E s := by
  rw [exec_If]
  refine wpAny_bind (wpAny_standAt (wpAny_bind (wpAny_mono h (fun b s' h' => ?_) fun _ _ e => e)))
  cases b <;> exact h'
theorem extract_few {c : Array UInt8} {a e z : Nat} (hz : c.size ≤ z) : (c.extract a e).size ≤ z := by
  rw [Array.size_extract]
  exact Nat.le_trans (Nat.sub_le _ _) (Nat.le_trans (Nat.min_le_right _ _) hz)
theorem readM_call {w : World} {p : Program} {loose : List Str} {mg mb : Str → Option Value} {A₀ : Around} {base h₀ : Heap} {outer : List Env} {L : Addr} {m : Str → Option Value} {env : Env} {mean : ExcName → Option Value} {s : Shared} {dep un : Nat} {gs : Option (List Code)}
    {R : Result → Shared → Prop} {x dx y : Addr} {dd : Obj} {c : Array UInt8} {k n : Nat} {t : Tok} (hf : env.frame = some L) (hke : env.scope.kind = .function)
    (X : (hd.heap_39 w.params).In h₀) (T : Top p loose mean mg mb h₀) (B : Below A₀ base outer h₀) (F : Fr h₀ L s.heap m) (hdep : dep < 490) (hun : un < 900)
    (N : News h₀ L s.heap [(x, instObj 365 dx), (dx, dd), (y, baObj c)]) (hdd : FreshB w.params s.heap x dx y c (n : Int)) (hn : n < c.size) (hk0 : 0 < k) (hk1 : k ≤ 100) (hz : c.size ≤ 16777216)
    (post : ∀ h' t' u, (∀ b o, b ≠ dx → s.heap.get? b = some o → h'.get? b = some o) → FreshB w.params h' x dx y c ((min (n + k) c.size : Nat) : Int) → R (.ok (.ret (.bytes (c.extract n (min (n + k) c.size)) u))) { s with heap := h', toks := t' }) :
    codeAny (model PySem.Challenge.rw_kn0093_01.row.prog w) (AR dep (env :: outer) gs un) (.call (.ref 289) ⟨[.ref x, .int (k : Int) t], []⟩) R s := by
  have X' := X.keeps F.keep
  obtain ⟨hdx0, ⟨t₁, t₂, t₃, e⟩, _⟩ := hdd
  have e' := (N _ (.tail _ (.head _))).1
  rw [e] at e'
  cases e'
  have nxd : x ≠ dx := fun q => by
    have a1 := (N _ (.head _)).1
    have a2 := (N _ (.tail _ (.head _))).1
    dsimp only at a1 a2
    rw [q, a2] at a1
    exact absurd (congrArg Obj.cls (Option.some.inj a1)) (show ¬ (Value.type "dict" = Value.ref 365) from by decide)
  have nxy : x ≠ y := fun q => by
    have a1 := (N _ (.head _)).1
    have a2 := (N _ (.tail _ (.tail _ (.head _)))).1
    dsimp only at a1 a2
    rw [q, a2] at a1; cases a1
  have ndy : dx ≠ y := fun q => by
    have a1 := (N _ (.tail _ (.head _))).1
    have a2 := (N _ (.tail _ (.tail _ (.head _)))).1
    dsimp only at a1 a2
    rw [q, a2] at a1
    exact absurd (congrArg Obj.cls (Option.some.inj a1)) (show ¬ (Value.type "bytearray" = Value.type "dict") from by decide)
  refine' a_defF (news := [(x, instObj 365 dx), (dx, _), (y, baObj c)]) (env := env)
    B F N T.nolimit ?hA hf hke X' ?ho ?hcd ?hroom ?hb ?hloc (fun g L' h₁ hk F₁ N₁ B₁ st hlt => ?_) ?hcell ?c1 ?c2 ?c3
  case hA => rfl
  case ho => k_is
  case hcd => k_is
  case hroom => k_room
  case hb => first | exact BindsTo.of_eq rfl | exact binds_K X' rfl (by k_is) rfl rfl rfl
  case hloc => exact locs rfl
  case hcell => decide
  case c1 => rfl
  case c2 => rfl
  case c3 => rfl
  have X₁ := X.keeps st
  have T₁ := T.keeps st
  have TR₁ := topRead_of T₁
  have ndx := neN (fun q => nxd q.symm : dx ≠ x)
  have knxd := neN nxd
  have kndy := neN ndy
  have knxy := neN nxy
  have hdn : ∀ p ∈ [(x, instObj 365 dx), (dx, _), (y, baObj c)], s.heap.get? p.1 = some p.2 := fun p hp => (N p hp).1
  refine a_execsS (a_IfS ?_)
  k_steps
  try dsimp only
  refine Stop.mk ?_
  refine a_nil ?_
  refine a_execsS ?_
  k_steps
  try dsimp only
  refine Stop.mk ?_
  refine a_execsS ?_
  k_steps
  try dsimp only
  refine Stop.mk ?_
  refine a_execsS ?_
  k_steps
  try dsimp only
  refine Stop.mk ?_
  refine a_execsS ?_
  k_steps
  try dsimp only
  refine Stop.mk ?_
  refine a_execsS ?_
  k_steps
  try dsimp only
  refine Stop.mk ?_
  by_cases hlt : (n : Int) + (k : Int) < (c.size : Int)
  case pos =>
    refine a_execsS (a_IfS ?_)
    k_steps
    try dsimp only
    refine Stop.mk ?_
    refine a_execsS ?_
    k_steps
    try dsimp only
    refine Stop.mk ?_
    refine a_nil ?_
    refine a_execsS ?_
    k_steps
    try dsimp only
    refine Stop.mk ?_
    refine a_execs ?_
    k_steps
    rename Fr g L' _ _ => F2
    rename News g L' _ _ => N2
    refine' baSlice_I (s := { s with heap := _, toks := _ }) (a' := n) (e' := n + k) F2 N2 (.tail _ (.tail _ (.head _))) rfl ?h2 ?ha ?he hz fun z h3 k3 F3 N3 hlz => ?_
    case h2 => rfl
    case ha => exact Nat.le_add_right _ _
    case he => exact Int.ofNat_le.mp (Int.le_of_lt hlt)
    clear F2 N2
    have hze : (c.extract n (n + k)).size ≤ 16777216 := extract_few hz
    have N3s := N3
    have F3s := F3
    k_steps
    refine' call_bytes_baN N3s (.head _) hze fun t5 k5 => ?_
    k_steps
    have e4 := (N3s _ (.tail _ (.tail _ (.head _)))).1
    dsimp only at e4
    rw [← Int.natCast_add] at e4
    have hmin : min (n + k) c.size = n + k := Nat.min_eq_left (Int.ofNat_le.mp (Int.le_of_lt hlt))
    rw [hmin] at post
    refine post _ _ _ (fun b' o h1 e2 => ?_) ⟨(N3s _ (.tail _ (.head _))).1, ⟨t₁, t₂, _, e4⟩, (N3s _ (.tail _ (.tail _ (.tail _ (.head _))))).1⟩
    by_cases hbx : b' = x
    · subst hbx
      exact (hdx0.symm.trans e2) ▸ (N3s _ (.tail _ (.head _))).1
    by_cases hby : b' = y
    · subst hby
      exact ((N _ (.tail _ (.tail _ (.head _)))).1.symm.trans e2) ▸ (N3s _ (.tail _ (.tail _ (.tail _ (.head _))))).1
    · refine F3s.keep b' o (hk b' o e2 fun q => ?_)
      rcases List.mem_cons.mp q with q | q
      · exact hbx q
      rcases List.mem_cons.mp q with q | q
      · exact h1 q
      exact hby (List.mem_singleton.mp q)
  case neg =>
    refine a_execsS (a_IfS ?_)
    k_steps
    try dsimp only
    refine Stop.mk ?_
    refine a_nil ?_
    refine a_execsS ?_
    k_steps
    try dsimp only
    refine Stop.mk ?_
    refine a_execs ?_
    k_steps
    rename Fr g L' _ _ => F2
    rename News g L' _ _ => N2
    refine' baSlice_I (s := { s with heap := _, toks := _ }) (a' := n) (e' := c.size) F2 N2 (.tail _ (.tail _ (.head _))) rfl ?h2 ?ha ?he hz fun z h3 k3 F3 N3 hlz => ?_
    case h2 => rfl
    case ha => exact Nat.le_of_lt hn
    case he => exact Nat.le_refl _
    clear F2 N2
    have hze : (c.extract n (c.size)).size ≤ 16777216 := extract_few hz
    have N3s := N3
    have F3s := F3
    k_steps
    refine' call_bytes_baN N3s (.head _) hze fun t5 k5 => ?_
    k_steps
    have e4 := (N3s _ (.tail _ (.tail _ (.head _)))).1
    dsimp only at e4
    skip
    have hmin : min (n + k) c.size = c.size := Nat.min_eq_right (Int.ofNat_le.mp (Int.not_lt.mp hlt))
    rw [hmin] at post
    refine post _ _ _ (fun b' o h1 e2 => ?_) ⟨(N3s _ (.tail _ (.head _))).1, ⟨t₁, t₂, _, e4⟩, (N3s _ (.tail _ (.tail _ (.tail _ (.head _))))).1⟩
    by_cases hbx : b' = x
    · subst hbx
      exact (hdx0.symm.trans e2) ▸ (N3s _ (.tail _ (.head _))).1
    by_cases hby : b' = y
    · subst hby
      exact ((N _ (.tail _ (.tail _ (.head _)))).1.symm.trans e2) ▸ (N3s _ (.tail _ (.tail _ (.tail _ (.head _))))).1
    · refine F3s.keep b' o (hk b' o e2 fun q => ?_)
      rcases List.mem_cons.mp q with q | q
      · exact hbx q
      rcases List.mem_cons.mp q with q | q
      · exact h1 q
      exact hby (List.mem_singleton.mp q)
end Mine
end
section -- L1y
open PySem PySem.W PyProof.Rows PySem.Calls
set_option maxRecDepth 100000
namespace Mine
set_option maxHeartbeats 4000000
local macro_rules | `(tactic| k_room) => `(tactic| ((try simp only [depth_mark, depth_under_make, depth_under_kw, depth_in1, depth_deeper, depth_caller]); (first | ((show _ + _ < 1000); omega) | ((show _ < 1000); omega))))
local macro_rules | `(tactic| k_all) => `(tactic| assumption)
theorem mul_small {prog : Program} {w : World} {A : Around} {E : Value → Shared → Prop} {s : Shared} {a : UInt8} {n : Int} {t u : Tok} {Q : Value → Shared → Prop} (h1 : 1 ≤ n) (h3 : n ≤ 3) (h : ∀ b t' k, 0 < b.size → b.size ≤ 3 → Q (.bytes b t') { s with toks := k }) :
    wpAny (model prog w) A (binaryOp .Mult (.bytes #[a] t) (.int n u)) Q E s :=
  bytes_mul_any (b := [a]) (by simp) (by omega) (by omega) (by simp) fun t' k => h _ _ _ (by simp; omega) (by simp; omega)
local macro_rules | `(tactic| walk_at "binaryOp Mult bytes int") => `(tactic| (k_here; k_dflt (refine' mul_small ?a ?b ?_; (case a => assumption); (case b => assumption)); intro b' u' k' hb1' hb2'))
noncomputable abbrev k4B (w : World) : List Stmt := thenB (turnS w.params 3)
noncomputable abbrev e4S (w : World) : Stmt := nthS (elseB (turnS w.params 3)) 0
noncomputable abbrev k5B (w : World) : List Stmt := thenB (e4S w)
noncomputable abbrev e5S (w : World) : Stmt := nthS (elseB (e4S w)) 0
noncomputable abbrev kLB (w : World) : List Stmt := thenB (e5S w)
theorem k4_piece {w : World} {p : Program} {loose : List Str} {mg mb : Str → Option Value} {mean : ExcName → Option Value} {s : Shared} {Q : Flow → Shared → Prop} {E : Value → Shared → Prop} {L lE lI lR lO lS lJ It : Addr} {vsJ : List Value} {i n : Nat} {h : Heap} {tk : Nat}
    {x kd k q : Int} {tx t1 t2 t3 : Tok} {m₀ : Str → Option Value} {P : Pop} {bo : List (Array UInt8)} {bs : List Str} {oI o2 : Obj} {nE nI nR nO nS : Nat} {vsI vsR vsO vsS : List Value}
    {st : Stmt} (hst : st = nthS (k4B w) 0)
    (X : (hd.heap_39 w.params).In s.heap) (T : Top p loose mean mg mb s.heap)
    (hS : LawSt w s.heap L lE lI lR lO lS lJ It vsJ i n h (turnM x kd k q tx t1 t2 t3 m₀) P bo bs oI o2 nE nI nR nO nS vsI vsR vsO vsS)
    (post : ∀ h' tk' b u, 0 < b.size → b.size ≤ 3 → LawSt w s.heap L lE lI lR lO lS lJ It vsJ i n h' (fun y => if y = "piece" then some (.bytes b u) else lawM lE lI lR lO lS (turnM x kd k q tx t1 t2 t3 m₀) y) P bo bs oI o2 nE nI nR nO nS vsI vsR vsO vsS → Q .next { s with heap := h', toks := tk' }) :
    wpAny (model PySem.Challenge.rw_kn0093_01.row.prog w) (callerA.deeper (lawE w L)) (exec st (lawE w L)) Q E { s with heap := h, toks := tk } := by
  unfold lawE
  obtain ⟨sc, hsc⟩ : ∃ sc, sc = scopeAt 626 w.params := ⟨_, rfl⟩
  rw [← hsc]
  conv at hsc => rhs; whnf
  subst hsc
  conv at hst => rhs; whnf
  subst hst
  have F := hS.fr
  obtain ⟨rest, N, ⟨hr1, hr2, hr3, hr4, hr5, hr6⟩, hall, hK⟩ := hS.open
  have TR := topRead_of T
  have e3 : (q.fdiv 256).fmod 3 = (q.fdiv 256) % 3 := Int.fmod_eq_emod_of_nonneg _ (by decide)
  have hn1 : 1 ≤ 1 + (q.fdiv 256).fmod 3 := by rw [e3]; have := Int.emod_nonneg (q.fdiv 256) (show (3 : Int) ≠ 0 by decide); omega
  have hn3 : 1 + (q.fdiv 256).fmod 3 ≤ 3 := by rw [e3]; have := Int.emod_lt_of_pos (q.fdiv 256) (show (0 : Int) < 3 by decide); omega
  k_steps
  rename Fr s.heap L _ _ => F1
  rename News s.heap L _ _ => N1
  have k1 := hK _ _ F1 (fun p hp => (N1 p (by repeat (first | exact hp | refine List.mem_cons_of_mem _ ?_))).1)
  exact post _ _ _ _ (by assumption) (by assumption) (hS.same F1 rfl rfl rfl rfl rfl (newsSub N1 (by repeat (first | exact List.forall_mem_nil _ | refine List.forall_mem_cons.mpr ⟨by k_mem, ?_⟩))) k1)
end Mine
end
section -- L1z
open PySem PySem.W PyProof.Rows PySem.Calls
set_option maxRecDepth 100000
namespace Mine
set_option maxHeartbeats 4000000
local macro_rules | `(tactic| k_room) => `(tactic| ((try simp only [depth_mark, depth_under_make, depth_under_kw, depth_in1, depth_deeper, depth_caller]); (first | ((show _ + _ < 1000); omega) | ((show _ < 1000); omega))))
local macro_rules | `(tactic| k_all) => `(tactic| assumption)
local macro_rules | `(tactic| walk_at "subscriptTail") => `(tactic| (k_here; (with_reducible show wpAny _ _ (subscriptTail _ _ (Value.ref _) (Value.int _ _)) _ _ _); k_dflt (refine' item_lst ?N ?m ?h0 ?h1 ?hx ?_; (case N => k_asm); (case m => k_mem); (case h0 => assumption); (case h1 => assumption); (case hx => assumption))))
local macro_rules | `(tactic| walk_at "subscriptTail") => `(tactic| (k_here; (with_reducible show wpAny _ _ (subscriptTail _ _ (Value.ref _) (Value.str _ _)) _ _ _); k_dflt (refine kda_item (knd := PySem.strKind _ _) (by k_asm) (by k_mem) (by k_asm) (strKind_is _ _ _ _) (by assumption) ?_)))
local macro_rules | `(tactic| walk_at "getItem ref str") => `(tactic| (k_here; k_dflt (refine kdt_getItem (knd := PySem.strKind _ _) (by k_asm) (by k_mem) (by k_asm) (strKind_is _ _ _ _) (by assumption) ?_)))
section
variable {w : World} {g : Heap} {L : Addr} {h : Heap} {P : Pop}
/-- an environ by its number, and its streams -/
theorem Core.pick (c : Core w g L h P) {k : Int} (h0 : 0 ≤ k) (h1 : k < (P.es.length : Int)) : ∃ (a : Addr) (i : Nat) (st : Stm) (e : Nat) (er : Erm) (o : Obj) (kvs : List (Str × Value)) (S : List (Str × D)),
    P.es[k.toNat]? = some a ∧ P.ix[k.toNat]? = some i ∧ P.sts[i]? = some st ∧ P.ex[k.toNat]? = some e ∧ P.ers[e]? = some er ∧
    h.get? a = some o ∧ o.IsDictOf (strKind PySem.Challenge.rw_kn0093_01.row.prog w) kvs ∧ Rel (At h) kvs S ∧ (∀ k ∈ S.map (·.1), k ∈ keysAll) ∧ (∀ v, look S "wsgi.url_scheme" = some v → ∃ y, v = .str y) ∧ look S "wsgi.input" = some (.obj st.x) ∧ look S "wsgi.errors" = some (.obj er.x) ∧
    valueAt kvs "wsgi.input" = some (.ref st.x) ∧ valueAt kvs "wsgi.errors" = some (.ref er.x) := by
  have hk : k.toNat < P.es.length := by omega
  obtain ⟨i, st, e, er, h1, h2, h3, h4, o, kvs, S, g1, g2, g3, g4, g5, g6, g7⟩ := c.env k.toNat _ (List.getElem?_eq_getElem hk)
  obtain ⟨v1, e1, d1⟩ := g3.at g6
  obtain ⟨v2, e2, d2⟩ := g3.at g7
  refine ⟨_, i, st, e, er, o, kvs, S, List.getElem?_eq_getElem hk, h1, h2, h3, h4, g1, g2, g3, g4, g5, g6, g7, ?_, ?_⟩
  · rw [valueAt_look, e1]
    cases v1 <;> first | exact d1.elim | skip
    obtain ⟨rfl, _⟩ := d1
    rfl
  · rw [valueAt_look, e2]
    cases v2 <;> first | exact d2.elim | skip
    obtain ⟨rfl, _⟩ := d2
    rfl
end
theorem has_write {P : Pop} {i : Nat} {st : Stm} {b : Array UInt8} (hi : P.sts[i]? = some st) {a : Addr} (h : Pop.has { P with sts := P.sts.set i { st with b := b } } a) : P.has a := by
  rcases h with h | ⟨s, hs, ha⟩ | h
  · exact .inl h
  · obtain ⟨j, hj⟩ := List.mem_iff_getElem?.mp hs
    rcases set_at hi hj with ⟨_, rfl⟩ | ⟨_, q⟩
    · exact .inr (.inl ⟨st, List.mem_of_getElem? hi, ha⟩)
    · exact .inr (.inl ⟨s, List.mem_of_getElem? q, ha⟩)
  · exact .inr (.inr h)
theorem has_writeS {P : Pop} {i : Nat} {er : Erm} {b : Str} (hi : P.ers[i]? = some er) {a : Addr} (h : Pop.has { P with ers := P.ers.set i { er with b := b } } a) : P.has a := by
  rcases h with h | h | ⟨s, hs, ha⟩
  · exact .inl h
  · exact .inr (.inl h)
  · obtain ⟨j, hj⟩ := List.mem_iff_getElem?.mp hs
    rcases set_at hi hj with ⟨_, rfl⟩ | ⟨_, q⟩
    · exact .inr (.inr ⟨er, List.mem_of_getElem? hi, ha⟩)
    · exact .inr (.inr ⟨s, List.mem_of_getElem? q, ha⟩)
section
variable {w : World} {g : Heap} {L lE lI lR lO lS lJ It : Addr} {vsJ : List Value} {i n : Nat} {h : Heap} {m₀ : Str → Option Value} {P : Pop} {bo : List (Array UInt8)} {bs : List Str} {oI o2 : Obj} {nE nI nR nO nS : Nat} {vsI vsR vsO vsS : List Value}
/-- the frame and the lists, where only streams have been turned -/
theorem LawSt.but (x : LawSt w g L lE lI lR lO lS lJ It vsJ i n h m₀ P bo bs oI o2 nE nI nR nO nS vsI vsR vsO vsS) {h' : Heap} {ds : List Addr} (hds : ∀ d ∈ ds, P.has d) (k : ∀ b o, b ∉ ds → h.get? b = some o → h'.get? b = some o) :
    Fr g L h' (lawM lE lI lR lO lS m₀) ∧ News g L h' [(It, oI), (lJ, listO vsJ.toArray 0), (lS, listO vsS.toArray nS), (lO, listO vsO.toArray nO), (lR, listO vsR.toArray nR), (lI, listO vsI.toArray nI), (lE, listO (P.es.map Value.ref).toArray nE), (L + 1 + 1, o2)] ∧ h'.IsListIter It lJ i := by
  have F := x.fr
  have hI : It ∉ ds := fun q => x.sep _ (hds _ q) (by simp)
  refine ⟨⟨F.ns.at' fun o e => k _ _ (fun q => (x.core.has_new (hds _ q)).1 rfl) e, fun b o e => k b o (fun q => ?_) (F.keep b o e), F.above⟩, fun p hp => ⟨k _ _ (fun q => x.sep _ (hds _ q) (List.mem_map_of_mem (f := (·.1)) hp)) (x.news p hp).1, (x.news p hp).2⟩, x.it.at fun o e => k _ _ hI e⟩
  have := (x.core.has_new (hds _ q)).2
  rw [e] at this; cases this
end
theorem k4_write {w : World} {p : Program} {loose : List Str} {mg mb : Str → Option Value} {mean : ExcName → Option Value} {s : Shared} {A₀ : Around} {base : Heap} {Q : Flow → Shared → Prop} {L lE lI lR lO lS lJ It : Addr} {vsJ : List Value} {i n : Nat} {h : Heap} {tk : Nat}
    {x kd k q : Int} {tx t1 t2 t3 u : Tok} {b : Array UInt8} {m₀ : Str → Option Value} {P : Pop} {bo : List (Array UInt8)} {bs : List Str} {oI o2 : Obj} {nE nI nR nO nS : Nat} {vsI vsR vsO vsS : List Value}
    {sm : Stmt} (hsm : sm = nthS (k4B w) 1)
    (X : (hd.heap_39 w.params).In s.heap) (T : Top p loose mean mg mb s.heap) (B : Below A₀ base [] s.heap)
    (hS : LawSt w s.heap L lE lI lR lO lS lJ It vsJ i n h (fun y => if y = "piece" then some (.bytes b u) else lawM lE lI lR lO lS (turnM x kd k q tx t1 t2 t3 m₀) y) P bo bs oI o2 nE nI nR nO nS vsI vsR vsO vsS)
    (h0 : 0 ≤ k) (h1 : k < (P.es.length : Int)) (hb : 0 < b.size) (hb3 : b.size ≤ 3) (hn : n ≤ 1000)
    (post : ∀ h' tk' j st, P.ix[k.toNat]? = some j → P.sts[j]? = some st → LawSt w s.heap L lE lI lR lO lS lJ It vsJ i (n + 3) h' (fun y => if y = "piece" then some (.bytes b u) else lawM lE lI lR lO lS (turnM x kd k q tx t1 t2 t3 m₀) y) { P with sts := P.sts.set j { st with b := st.b ++ b } } bo bs oI o2 nE nI nR nO nS vsI vsR vsO vsS → Q .next { s with heap := h', toks := tk' }) :
    wpG (model PySem.Challenge.rw_kn0093_01.row.prog w) (callerA.deeper (lawE w L)) (exec sm (lawE w L)) Q (fun _ _ => False) { s with heap := h, toks := tk } := by
  unfold lawE
  obtain ⟨sc, hsc⟩ : ∃ sc, sc = scopeAt 626 w.params := ⟨_, rfl⟩
  rw [← hsc]
  conv at hsc => rhs; whnf
  subst hsc
  conv at hsm => rhs; whnf
  subst hsm
  have F := hS.fr
  obtain ⟨a, j, st, e, er, o, kvs, S, ha, hj, hst, he, her, hao, hod, hrel, hkeys, hsch, hlin, hler, hvi, hve⟩ := hS.core.pick h0 h1
  have hm := List.mem_of_getElem? hst
  obtain ⟨fx, ⟨u₁, u₂, u₃, fdx⟩, fy⟩ := id (hS.core.str st hm)
  obtain ⟨nx, ndx, ny⟩ := hS.core.newS st hm
  have na := hS.core.newE a (List.mem_of_getElem? ha)
  have N : News s.heap L h ((a, o) :: (st.x, instObj 365 st.dx) :: (st.dx, _) :: (st.y, baObj st.b) :: [(It, oI), (lJ, listO vsJ.toArray 0), (lS, listO vsS.toArray nS), (lO, listO vsO.toArray nO), (lR, listO vsR.toArray nR), (lI, listO vsI.toArray nI), (lE, listO (P.es.map Value.ref).toArray nE), (L + 1 + 1, o2)]) :=
    List.forall_mem_cons.mpr ⟨⟨hao, na.1, na.2.1⟩, List.forall_mem_cons.mpr ⟨⟨fx, nx⟩, List.forall_mem_cons.mpr ⟨⟨fdx, ndx⟩, List.forall_mem_cons.mpr ⟨⟨fy, ny⟩, hS.news⟩⟩⟩⟩
  have TR := topRead_of T
  have hx : (P.es.map Value.ref).toArray[k.toNat]? = some (.ref a) := by simp [ha]
  have h2 : k < 16777216 := by have := hS.few; omega
  have lo := na.2.2
  have Z := And.intro F N
  refine g_Expr (g_CallMeth (lift ?_))
  k_steps
  refine lift ?_
  k_steps
  refine g_callWith rfl (g_args (g_spliced (g_eq (if_neg Bool.false_ne_true) (lift ?_))))
  k_steps
  refine g_spliced0 ?_
  obtain ⟨F, N⟩ := Z
  refine ⟨⟨_, .inl rfl, Looks.of_peek (X.keeps F.keep) (by kernel_rfl)⟩, g_call (writeB_call (env := envOfC _ _ L 626 (.ref 625)) rfl rfl X T B F (by decide) (by decide) (List.forall_mem_cons.mpr ⟨⟨fx, nx⟩, List.forall_mem_cons.mpr ⟨⟨fdx, ndx⟩, List.forall_mem_cons.mpr ⟨⟨fy, ny⟩, List.forall_mem_nil _⟩⟩⟩) ⟨fx, ⟨u₁, u₂, u₃, fdx⟩, fy⟩ hb (by omega) (by have := hS.szS st hm; omega) (by have := hS.szS st hm; omega) fun v h5 t5 hk5 hB5 => ?_)⟩
  dsimp only at hk5 ⊢
  refine lift (wpAny_dropValue ?_)
  obtain ⟨F5, N5, it5⟩ := hS.but (h' := h5) (ds := [st.dx, st.y]) (fun d hd => .inr (.inl ⟨st, hm, .inr (by simpa using hd)⟩)) (fun b o hb e => hk5 b o (fun q => hb (by simp [q])) (fun q => hb (by simp [q])) e)
  refine post h5 t5 j st hj hst { hS with fr := F5, news := N5, it := it5, core := hS.core.write hst hk5 hB5, sep := fun a ha => hS.sep a (has_write hst ha), fewS := ?_, szS := fun s' hs' => ?_, szR := fun e' he' => Nat.le_trans (hS.szR e' he') (Nat.le_add_right _ _) }
  · show (P.sts.set j _).length ≤ P.es.length
    rw [List.length_set]; exact hS.fewS
  · obtain ⟨j', hj'⟩ := List.mem_iff_getElem?.mp hs'
    rcases set_at hst hj' with ⟨_, rfl⟩ | ⟨_, q⟩
    · show (st.b ++ b).size ≤ n + 3
      have := hS.szS st hm
      rw [Array.size_append]; omega
    · exact Nat.le_trans (hS.szS s' (List.mem_of_getElem? q)) (Nat.le_add_right _ _)
end Mine
end
section -- L1A
open PySem PySem.W PyProof.Rows PySem.Calls
set_option maxRecDepth 100000
namespace Mine
set_option maxHeartbeats 4000000
local macro_rules | `(tactic| k_room) => `(tactic| ((try simp only [depth_mark, depth_under_make, depth_under_kw, depth_in1, depth_deeper, depth_caller]); (first | ((show _ + _ < 1000); omega) | ((show _ < 1000); omega))))
local macro_rules | `(tactic| k_ne) => `(tactic| (refine neN ?_; (try dsimp only); (first | with_reducible assumption | (refine Ne.symm ?_; with_reducible assumption))))
local macro_rules | `(tactic| k_all) => `(tactic| assumption)
local macro_rules | `(tactic| walk_at "subscriptTail") => `(tactic| (k_here; (with_reducible show wpAny _ _ (subscriptTail _ _ (Value.ref _) (Value.int _ _)) _ _ _); k_dflt (refine' item_lst ?N ?m ?h0 ?h1 ?hx ?_; (case N => k_asm); (case m => k_mem); (case h0 => with_reducible assumption); (case h1 => with_reducible assumption); (case hx => with_reducible assumption))))
theorem natsI_at {vs : List Value} {l : List Nat} {i j : Nat} (h : IntsAre vs (natsI l)) (e : l[i]? = some j) : ∃ t, vs[i]? = some (.int (j : Int) t) := by
  have hl : vs.length = l.length := by rw [h.length]; simp [natsI]
  have hi : i < vs.length := by rw [hl]; exact (List.getElem?_eq_some_iff.mp e).1
  obtain ⟨n, t, q, e'⟩ := h.at i _ (List.getElem?_eq_getElem hi)
  have e2 : (natsI l)[i]? = some (j : Int) := by unfold natsI; rw [List.getElem?_map, e]; rfl
  rw [e2] at e'
  cases e'
  exact ⟨t, by rw [List.getElem?_eq_getElem hi, q]⟩
theorem OctAre.set {vs : List Value} {bo : List (Array UInt8)} (h : OctAre vs bo) {j : Nat} {b : Array UInt8} {u : Tok} : OctAre (vs.set j (.bytes b u)) (bo.set j b) := by
  refine ⟨by simp [h.1], fun i c v hc hv => ?_⟩
  rw [List.getElem?_set] at hc hv
  by_cases q : j = i
  · subst q
    rw [if_pos rfl] at hc hv
    split at hc
    · split at hv
      · cases hc; cases hv; exact ⟨u, rfl⟩
      · cases hv
    · cases hc
  · rw [if_neg q] at hc hv
    exact h.2 i c v hc hv
theorem SgnAre.set {vs : List Value} {bs : List Str} (h : SgnAre vs bs) {j : Nat} {b : Str} {u : Tok} : SgnAre (vs.set j (.str b u)) (bs.set j b) := by
  refine ⟨by simp [h.1], fun i c v hc hv => ?_⟩
  rw [List.getElem?_set] at hc hv
  by_cases q : j = i
  · subst q
    rw [if_pos rfl] at hc hv
    split at hc
    · split at hv
      · cases hc; cases hv; exact ⟨u, rfl⟩
      · cases hv
    · cases hc
  · rw [if_neg q] at hc hv
    exact h.2 i c v hc hv
local macro_rules | `(tactic| walk_at "getItem ref int") => `(tactic| (k_here; (with_reducible show wpAny _ _ (getItem (Value.ref _) (Value.int _ _)) _ _ _); k_dflt (refine' get_lst ?N ?m ?h0 ?h1 ?hx ?_; (case N => k_asm); (case m => k_mem); (case h0 => with_reducible assumption); (case h1 => with_reducible assumption); (case hx => with_reducible assumption))))
local macro_rules | `(tactic| walk_at "inplaceOp Add bytes bytes") => `(tactic| (k_here; k_dflt (refine' iadd_bytes ?z ?_; (case z => with_reducible assumption)); intro u' k'))
local macro_rules | `(tactic| walk_at "setItem ref int") => `(tactic| (k_here; (with_reducible show wpAny _ _ (setItem (Value.ref _) (Value.int _ _) _) _ _ _); k_dflt (refine' set_lst ?F ?N ?U ?h0 ?h1 ?hz ?_; (case F => k_asm); (case N => k_asm); (case U => k_updF); (case h0 => with_reducible assumption); (case h1 => with_reducible assumption); (case hz => with_reducible assumption)); intro h' n' F' N'; (try dsimp only at N')))
theorem k4_told {w : World} {p : Program} {loose : List Str} {mg mb : Str → Option Value} {mean : ExcName → Option Value} {s : Shared} {Q : Flow → Shared → Prop} {E : Value → Shared → Prop} {L lE lI lR lO lS lJ It : Addr} {vsJ : List Value} {i n : Nat} {h : Heap} {tk : Nat}
    {x kd k q : Int} {tx t1 t2 t3 u : Tok} {b : Array UInt8} {m₀ : Str → Option Value} {P : Pop} {bo : List (Array UInt8)} {bs : List Str} {oI o2 : Obj} {nE nI nR nO nS : Nat} {vsI vsR vsO vsS : List Value} {j : Nat} {c : Array UInt8}
    {sm : Stmt} (hsm : sm = nthS (k4B w) 2)
    (X : (hd.heap_39 w.params).In s.heap) (T : Top p loose mean mg mb s.heap) (hO : @LT.lt Nat _ (L + 1 + 1) lE ∧ @LT.lt Nat _ lE lI ∧ @LT.lt Nat _ lI lR ∧ @LT.lt Nat _ lR lO ∧ @LT.lt Nat _ lO lS ∧ @LT.lt Nat _ lS lJ ∧ @LT.lt Nat _ lJ It)
    (hS : LawSt w s.heap L lE lI lR lO lS lJ It vsJ i n h (fun y => if y = "piece" then some (.bytes b u) else lawM lE lI lR lO lS (turnM x kd k q tx t1 t2 t3 m₀) y) P bo bs oI o2 nE nI nR nO nS vsI vsR vsO vsS)
    (h0 : 0 ≤ k) (h1 : k < (P.es.length : Int)) (hj : P.ix[k.toNat]? = some j) (hc : bo[j]? = some c) (hz : c.size + b.size ≤ 1000) (hjs : j < 100)
    (post : ∀ h' tk' m' vsO' nO', LawSt w s.heap L lE lI lR lO lS lJ It vsJ i n h' m' P (bo.set j (c ++ b)) bs oI o2 nE nI nR nO' nS vsI vsR vsO' vsS → Q .next { s with heap := h', toks := tk' }) :
    wpAny (model PySem.Challenge.rw_kn0093_01.row.prog w) (callerA.deeper (lawE w L)) (exec sm (lawE w L)) Q E { s with heap := h, toks := tk } := by
  unfold lawE
  obtain ⟨sc, hsc⟩ : ∃ sc, sc = scopeAt 626 w.params := ⟨_, rfl⟩
  rw [← hsc]
  conv at hsc => rhs; whnf
  subst hsc
  conv at hsm => rhs; whnf
  subst hsm
  have F := hS.fr
  obtain ⟨rest, N, ⟨hr1, hr2, hr3, hr4, hr5, hr6⟩, hall, hK⟩ := hS.open
  have TR := topRead_of T
  obtain ⟨tj, htj⟩ := natsI_at hS.vI hj
  have hx : vsI.toArray[k.toNat]? = some (.int (j : Int) tj) := by simpa using htj
  have hj' : j < vsO.length := by rw [hS.vO.1]; exact (List.getElem?_eq_some_iff.mp hc).1
  obtain ⟨uc, huc⟩ := hS.vO.2 j c _ hc (List.getElem?_eq_getElem hj')
  have h2 : k < 16777216 := by have := hS.few; omega
  have hx2 : vsO.toArray[(j : Int).toNat]? = some (.bytes c uc) := by simp [hj', huc]
  have hj0 : (0 : Int) ≤ (j : Int) := by omega
  have hj1 : (j : Int) < 16777216 := by omega
  have hj2 : (j : Int) < (vsO.toArray.size : Int) := by rw [List.size_toArray]; omega
  have hz' : c.size + b.size ≤ 16777216 := by omega
  obtain ⟨q1, q2, q3, q4, q5, q6, q7⟩ := hO
  obtain ⟨ne10, ne20, ne21, ne30, ne31, ne32, ne40, ne41, ne42, ne43, ne50, ne51, ne52, ne53, ne54, ne60, ne61, ne62, ne63, ne64, ne65, ne70, ne71, ne72, ne73, ne74, ne75, ne76⟩ := apart8 q1 q2 q3 q4 q5 q6 q7
  k_steps
  rename Fr s.heap L _ _ => F1
  rename News s.heap L _ _ => N1
  rename_i u' _ _ n'
  have es : vsO.toArray.setIfInBounds (j : Int).toNat (.bytes (c ++ b) u') = (vsO.set j (.bytes (c ++ b) u')).toArray := by
    apply Array.toList_inj.mp; simp
  rw [es] at N1
  have k1 := hK _ _ F1 (fun p hp => (N1 p (by repeat (first | exact hp | refine List.mem_cons_of_mem _ ?_))).1)
  exact post _ _ _ _ _ (hS.next F1 rfl rfl rfl rfl rfl (newsSub N1 (by repeat (first | exact List.forall_mem_nil _ | refine List.forall_mem_cons.mpr ⟨by k_mem, ?_⟩))) hS.vI hS.vR hS.vO.set hS.vS (hS.core.to k1.2 k1.1) hS.sep hS.c2 hS.pos hS.few hS.fewS hS.fewR hS.szS hS.szR)
end Mine
end
section -- G27
open PySem PySem.W PyProof.Rows PySem.Calls
set_option maxRecDepth 100000
namespace Mine
section
variable {prog : Program} {w : World} {A : Around} {s : Shared} {env : Env}
/-- for target in range(n): J i h stands before the turn i, whatever becomes of the iterator -/
theorem g_forRange {target iter : Expr} {body : List Stmt} {pos : Pos} {Q : Flow → Shared → Prop} (hh : A.handled = none)
    (h : wpAny (model prog w) A (eval iter env) (fun xv s₁ => Stop (∃ (r : Addr) (n : Nat) (t u v : Tok) (J : Nat → Heap → Prop), xv = .ref r ∧ IsRange s₁.heap r 0 (n : Int) 1 t u v ∧ n ≤ 1000 ∧ J 0 s₁.heap ∧
      (∀ i h h', J i h → (∀ b o, b ≠ s₁.heap.objs.size → h.get? b = some o → h'.get? b = some o) → (∀ o, h.get? s₁.heap.objs.size = some o → o.cls = .type "range_iterator") → J i h') ∧
      (∀ (i : Nat) (h₁ : Heap) (tk : Nat) (ti : Tok) (oi : Obj), i < n → J i h₁ → h₁.get? s₁.heap.objs.size = some oi →
        wpAny (model prog w) A (assign target env (.int (i : Int) ti)) (fun _ s₂ => wpG (model prog w) A (execs body env) (fun f s₃ => match f with
          | .next => ∃ h' tk', s₃ = { s₁ with heap := h', toks := tk' } ∧ J (i + 1) h' ∧ h'.get? s₁.heap.objs.size = some oi
          | .ret v => Q (.ret v) s₃
          | _ => False) (fun _ _ => False) s₂) (fun _ _ => False) { s₁ with heap := h₁, toks := tk }) ∧
      (∀ h' tk', J n h' → Q .next { s₁ with heap := h', toks := tk' }))) (fun _ _ => False) s)
    (hs : ∀ x, foldedSetIterable iter env x = pure x := by intro _; rfl) (ht : ∀ it v, letOwnedTupleGo target it v = pure () := by intro _ _; rfl) :
    wpG (model prog w) A (exec (.For target iter body [] pos) env) Q (fun _ _ => False) s := by
  refine g_For (wpAny_mono h (fun xv s₁ h₁ => ?_) fun _ _ e => e) hs
  obtain ⟨r, n, t, u, v, J, rfl, hr, hn, hJ0, hJ, turn, done⟩ := h₁
  have hsz : Builtin.Range.rangeSize 0 (n : Int) 1 = (n : Int) := by
    unfold Builtin.Range.rangeSize
    simp
    omega
  refine wpAny_pyIter_range hr (small_one (by decide) (by decide) (by omega) (by omega)) ?_
  rw [hsz]
  generalize hIt : s₁.heap.objs.size = It
  generalize hH1 : s₁.heap.push { cls := .type "range_iterator", data := .fields #[rawInt 0, rawInt (n : Int), rawInt 1] } = H1
  rw [hIt] at hJ turn
  have hnone : s₁.heap.get? It = none := by
    cases c : s₁.heap.get? It with
    | none => rfl
    | some o => exact absurd (Heap.lt_size c) (by rw [hIt]; exact Nat.lt_irrefl _)
  have hit0 : IsRangeIter H1 It 0 (n : Int) 1 := by
    show H1.get? It = some _
    rw [← hH1, ← hIt]
    exact Heap.get?_push_size _ rfl
  have old : ∀ b o, s₁.heap.get? b = some o → H1.get? b = some o := fun b o e => hH1 ▸ Heap.get?_push_of_some _ e
  have clsI : ∀ {h : Heap} {x l : Int}, IsRangeIter h It x l 1 → ∀ o, h.get? It = some o → o.cls = .type "range_iterator" := fun hi o e => by
    have hi' := hi
    unfold IsRangeIter at hi'
    rw [hi'] at e; cases e; rfl
  refine g_forLoop (fun k s' => ∃ h tk i, s' = { s₁ with heap := h, toks := tk } ∧ J i h ∧ IsRangeIter h It (i : Int) ((n : Int) - i) 1 ∧ i ≤ n ∧ k = n - i) ?_ n ⟨H1, _, 0, rfl, hJ 0 _ _ hJ0 (fun b o _ e => old b o e) (fun o e => by rw [hnone] at e; cases e), by simpa using hit0, Nat.zero_le _, rfl⟩ (ht _)
  rintro k _ ⟨h, tk, i, rfl, hi, hit, hle, rfl⟩
  by_cases hlt : i < n
  · refine wpAny_pyNext_range_item hit (by omega) fun h₁ hit₁ hs₁ => ?_
    dsimp only
    have hit1 := hit₁
    unfold IsRangeIter at hit1
    refine wpAny_mono (turn i h₁ _ _ _ hlt (hJ i _ _ hi (fun b o hb e => hs₁.extBut b o hb e) (clsI hit)) hit1) (fun _ s₂ h₂ => g_mono h₂ (fun f s₃ h₃ => ?_) fun _ _ e => e) fun _ _ e => e
    cases f with
    | next =>
      obtain ⟨h', tk', rfl, hJ', hI'⟩ := h₃
      refine ⟨n - (i + 1), Nat.sub_succ_lt_self _ _ hlt, h', tk', i + 1, rfl, hJ', ?_, hlt, rfl⟩
      have e1 : ((i + 1 : Nat) : Int) = (i : Int) + 1 := rfl
      have e2 : (n : Int) - ((i + 1 : Nat) : Int) = (n : Int) - i - 1 := (Int.sub_sub (n : Int) (i : Int) 1).symm
      rw [e2, e1]
      exact hI'
    | ret v => exact h₃
    | brk => exact h₃.elim
    | cont => exact h₃.elim
  · have : i = n := by omega
    subst this
    refine wpAny_pyNext_range_end hh hit (by omega) fun h₁ he => ?_
    exact done h₁ _ (hJ i _ _ hi (fun b o hb e => he b o hb e) (clsI hit))
end
end Mine
end
section -- L1N
open PySem PySem.W PyProof.Rows PySem.Calls
set_option maxRecDepth 100000
namespace Mine
set_option maxHeartbeats 4000000
/-- what stands behind the first loop -/
structure CloSt (w : World) (g : Heap) (L lE lI lR lO lS : Addr) (h : Heap) (m₀ : Str → Option Value) (P : Pop) (o2 : Obj) (nE nI nR nO nS : Nat) (vsI vsR vsO vsS : List Value) : Prop where
  fr : Fr g L h (lawM lE lI lR lO lS m₀)
  news : News g L h [(lS, listO vsS.toArray nS), (lO, listO vsO.toArray nO), (lR, listO vsR.toArray nR), (lI, listO vsI.toArray nI), (lE, listO (P.es.map Value.ref).toArray nE), (L + 1 + 1, o2)]
  vI : IntsAre vsI (natsI P.ix)
  vR : IntsAre vsR (natsI P.ex)
  vO : OctAre vsO (P.sts.map (·.b))
  vS : SgnAre vsS (P.ers.map (·.b))
  core : Core w g L h P
  sep : ∀ a, P.has a → a ∉ [lS, lO, lR, lI, lE, L + 1 + 1]
  c2 : cellO o2
  few : P.es.length ≤ 12
  fewS : P.sts.length ≤ P.es.length
  fewR : P.ers.length ≤ P.es.length
  szS : ∀ s ∈ P.sts, s.b.size ≤ 1000
  szR : ∀ e ∈ P.ers, e.b.length ≤ 1000
/-- what a step of the second loop leaves as it stands -/
def Rest (P : Pop) (L : Addr) (h h' : Heap) : Prop := ∀ b o, h.get? b = some o → b ≠ L → b ≠ L + 1 + 1 → ¬ P.has b → h'.get? b = some o
theorem Rest.trans {P : Pop} {L : Addr} {h h' h'' : Heap} (a : Rest P L h h') (b : Rest P L h' h'') : Rest P L h h'' := fun x o e c1 c2 c3 => b x o (a x o e c1 c2 c3) c1 c2 c3
theorem Rest.of {P : Pop} {L : Addr} {h h' : Heap} (k : ∀ b o, b ≠ L → h.get? b = some o → h'.get? b = some o) : Rest P L h h' := fun x o e c1 _ _ => k x o c1 e
section
variable {w : World} {g : Heap} {L lE lI lR lO lS : Addr} {h : Heap} {m₀ : Str → Option Value} {P : Pop} {o2 : Obj} {nE nI nR nO nS : Nat} {vsI vsR vsO vsS : List Value}
theorem CloSt.nG (x : CloSt w g L lE lI lR lO lS h m₀ P o2 nE nI nR nO nS vsI vsR vsO vsS) : ∀ p ∈ [(lS, listO vsS.toArray nS), (lO, listO vsO.toArray nO), (lR, listO vsR.toArray nR), (lI, listO vsI.toArray nI), (lE, listO (P.es.map Value.ref).toArray nE), (L + 1 + 1, o2)], ¬ goodO p.2 :=
  nG_list (nG_list (nG_list (nG_list (nG_list (nG_cons (let ⟨_, q⟩ := x.c2; cell_notGood q) fun _ hp => nomatch hp)))))
theorem CloSt.still (x : CloSt w g L lE lI lR lO lS h m₀ P o2 nE nI nR nO nS vsI vsR vsO vsS) {h' : Heap} {m' : Str → Option Value} {rest : List (Addr × Obj)} (F' : Fr g L h' m') (N' : ∀ p ∈ rest, h'.get? p.1 = some p.2)
    (hall : ∀ b o, h.get? b = some o → b ≠ L → g.get? b = none → b ∉ [lS, lO, lR, lI, lE, L + 1 + 1] → (b, o) ∈ rest) : Still P h h' :=
  ⟨keep_rest x.fr F' N' hall fun b o hb e => news_notGood x.news x.nG hb e, fun a ha o e => N' (a, o) (hall a o e (x.core.has_new ha).1 (x.core.has_new ha).2 (x.sep a ha))⟩
theorem CloSt.open (x : CloSt w g L lE lI lR lO lS h m₀ P o2 nE nI nR nO nS vsI vsR vsO vsS) : ∃ rest : List (Addr × Obj),
    News g L h ((lS, listO vsS.toArray nS) :: (lO, listO vsO.toArray nO) :: (lR, listO vsR.toArray nR) :: (lI, listO vsI.toArray nI) :: (lE, listO (P.es.map Value.ref).toArray nE) :: (L + 1 + 1, o2) :: rest) ∧
    ((∀ p ∈ rest, p.1 ≠ lS) ∧ (∀ p ∈ rest, p.1 ≠ lO) ∧ (∀ p ∈ rest, p.1 ≠ lR) ∧ (∀ p ∈ rest, p.1 ≠ lI) ∧ (∀ p ∈ rest, p.1 ≠ lE) ∧ (∀ p ∈ rest, p.1 ≠ L + 1 + 1)) ∧
    (∀ b o, h.get? b = some o → b ≠ L → g.get? b = none → b ∉ [lS, lO, lR, lI, lE, L + 1 + 1] → (b, o) ∈ rest) ∧
    (∀ h' m', Fr g L h' m' → (∀ p ∈ rest, h'.get? p.1 = some p.2) → Still P h h') := by
  obtain ⟨rest, NR, hl, hall⟩ := ledger_all g h L [lS, lO, lR, lI, lE, L + 1 + 1]
  have ne : ∀ a ∈ [lS, lO, lR, lI, lE, L + 1 + 1], ∀ p ∈ rest, p.1 ≠ a := fun a ha p hp e => hl p hp (e ▸ ha)
  refine ⟨rest, fun p hp => ?_, ⟨ne _ (.head _), ne _ (.tail _ (.head _)), ne _ (.tail _ (.tail _ (.head _))), ne _ (.tail _ (.tail _ (.tail _ (.head _)))), ne _ (.tail _ (.tail _ (.tail _ (.tail _ (.head _))))), ne _ (.tail _ (.tail _ (.tail _ (.tail _ (.tail _ (.head _))))))⟩, hall, fun h' m' F' N' => x.still F' N' hall⟩
  rcases List.mem_append.mp (show p ∈ [(lS, listO vsS.toArray nS), (lO, listO vsO.toArray nO), (lR, listO vsR.toArray nR), (lI, listO vsI.toArray nI), (lE, listO (P.es.map Value.ref).toArray nE), (L + 1 + 1, o2)] ++ rest from hp) with hp | hp
  · exact x.news p hp
  · exact NR p hp
/-- what has changed elsewhere does not touch it -/
theorem CloSt.ext (x : CloSt w g L lE lI lR lO lS h m₀ P o2 nE nI nR nO nS vsI vsR vsO vsS) {h' : Heap} {z : Addr} (k : ∀ b o, b ≠ z → h.get? b = some o → h'.get? b = some o) (hz : ∀ o, h.get? z = some o → ¬ goodO o) (hL : z ≠ L) (hg : g.get? z = none) (hl : z ∉ [lS, lO, lR, lI, lE, L + 1 + 1]) (hP : ¬ P.has z) :
    CloSt w g L lE lI lR lO lS h' m₀ P o2 nE nI nR nO nS vsI vsR vsO vsS :=
  { x with
    fr := ⟨x.fr.ns.at' fun o e => k _ _ (Ne.symm hL) e, fun b o e => k b o (fun q => by rw [q, hg] at e; cases e) (x.fr.keep b o e), x.fr.above⟩
    news := news_but x.news k (ne_all hl)
    core := x.core.to (fun a ha o e => k a o (fun q => hP (q ▸ ha)) e) fun b o t e => k b o (fun q => hz o (q ▸ e) t) e }
end
noncomputable section
def forB : Stmt → List Stmt
  | .For _ _ b _ _ => b
  | _ => []
def c7S (w : World) : Stmt := nthS (stmtsAt 626 w.params) 7
def cT (w : World) (k : Nat) : Stmt := nthS (forB (c7S w)) k
def inB (w : World) : List Stmt := forB (cT w 0)
end
end Mine
end
section -- L1O
open PySem PySem.W PyProof.Rows PySem.Calls
set_option maxRecDepth 100000
namespace Mine
set_option maxHeartbeats 4000000
local macro_rules | `(tactic| k_room) => `(tactic| ((try simp only [depth_mark, depth_under_make, depth_under_kw, depth_in1, depth_deeper, depth_caller]); (first | ((show _ + _ < 1000); omega) | ((show _ < 1000); omega))))
local macro_rules | `(tactic| k_all) => `(tactic| assumption)
local macro_rules | `(tactic| walk_at "subscriptTail") => `(tactic| (k_here; (with_reducible show wpAny _ _ (subscriptTail _ _ (Value.ref _) (Value.int _ _)) _ _ _); k_dflt (refine' item_lst ?N ?m ?h0 ?h1 ?hx ?_; (case N => k_asm); (case m => k_mem); (case h0 => with_reducible assumption); (case h1 => with_reducible assumption); (case hx => with_reducible assumption))))
local macro_rules | `(tactic| walk_at "getItem ref str") => `(tactic| (k_here; k_dflt (refine kdt_getItem (knd := PySem.strKind _ _) (by k_asm) (by k_mem) (by k_asm) (strKind_is _ _ _ _) (by assumption) ?_)))
local macro_rules | `(tactic| walk_at "compareOp Is ref ref") => `(tactic| (k_here; (first | (refine wpAny_is_ref_self ?_) | (refine' wpAny_is_ref_other ?n ?x ?y ?t ?_; (case n => with_reducible assumption); (case x => with_reducible assumption); (case y => with_reducible assumption); (case t => (intro q; cases q))))))
theorem inner_test {w : World} {p : Program} {loose : List Str} {mg mb : Str → Option Value} {mean : ExcName → Option Value} {s : Shared} {Q : Flow → Shared → Prop} {E : Value → Shared → Prop} {L lE lI lR lO lS : Addr} {h : Heap} {tk : Nat}
    {i j : Nat} {ti tj : Tok} {m₀ : Str → Option Value} {P : Pop} {o2 : Obj} {nE nI nR nO nS : Nat} {vsI vsR vsO vsS : List Value} {st : Stmt} (hst : st = nthS (inB w) 0)
    (X : (hd.heap_39 w.params).In s.heap) (T : Top p loose mean mg mb s.heap)
    (hS : CloSt w s.heap L lE lI lR lO lS h (fun y => if y = "j" then some (.int (j : Int) tj) else m₀ y) P o2 nE nI nR nO nS vsI vsR vsO vsS) (hi2 : o2.data = .cell (some (.int (i : Int) ti)))
    (hi : i < P.es.length) (hj : j < P.es.length)
    (post : ∀ tk', Q .next { s with heap := h, toks := tk' }) :
    wpAny (model PySem.Challenge.rw_kn0093_01.row.prog w) (callerA.deeper (lawE w L)) (exec st (lawE w L)) Q E { s with heap := h, toks := tk } := by
  unfold lawE
  obtain ⟨sc, hsc⟩ : ∃ sc, sc = scopeAt 626 w.params := ⟨_, rfl⟩
  rw [← hsc]
  conv at hsc => rhs; whnf
  subst hsc
  conv at hst => rhs; whnf
  subst hst
  have F := hS.fr
  have hfew := hS.few
  obtain ⟨a, ja, sa, ea, ra, oa, kva, Sa, ha, hja, hsa, hea, hra, hao, hoda, _, _, _, _, _, hvia, hvea⟩ := hS.core.pick (k := (i : Int)) (by omega) (by omega)
  obtain ⟨b, jb, sb, eb, rb, ob, kvb, Sb, hb, hjb, hsb, heb, hrb, hbo, hodb, _, _, _, _, _, hvib, hveb⟩ := hS.core.pick (k := (j : Int)) (by omega) (by omega)
  have na := hS.core.newE a (List.mem_of_getElem? ha)
  have nb := hS.core.newE b (List.mem_of_getElem? hb)
  have N := newsMore (newsMore hS.news hbo ⟨nb.1, nb.2.1⟩) hao ⟨na.1, na.2.1⟩
  have TR := topRead_of T
  have hxa : (P.es.map Value.ref).toArray[((i : Nat) : Int).toNat]? = some (.ref a) := by simpa using ha
  have hxb : (P.es.map Value.ref).toArray[((j : Nat) : Int).toNat]? = some (.ref b) := by simpa using hb
  obtain ⟨ta, hta⟩ := natsI_at hS.vI hja
  obtain ⟨tb, htb⟩ := natsI_at hS.vI hjb
  have hya : vsI.toArray[((i : Nat) : Int).toNat]? = some (.int (ja : Int) ta) := by simpa using hta
  have hyb : vsI.toArray[((j : Nat) : Int).toNat]? = some (.int (jb : Int) tb) := by simpa using htb
  have i0 : (0 : Int) ≤ (i : Int) := by omega
  have j0 : (0 : Int) ≤ (j : Int) := by omega
  have i1 : (i : Int) < 16777216 := by omega
  have j1 : (j : Int) < 16777216 := by omega
  have la := na.2.2
  have lb := nb.2.2
  have fxa := (hS.core.str sa (List.mem_of_getElem? hsa)).1
  have fxb := (hS.core.str sb (List.mem_of_getElem? hsb)).1
  by_cases hjj : ja = jb
  · subst hjj
    rw [hsa] at hsb; cases hsb
    k_steps
    · rename (_ != _) = true => hb
      simp at hb
    · exact post _
  · have nab : sa.x ≠ sb.x := fun e => hjj (hS.core.xinj hsa hsb e)
    have njj : (ja : Int) ≠ (jb : Int) := by omega
    k_steps
    · rename (_ != _) = true => hb
      simp at hb
      exact absurd hb njj
    · exact post _
theorem inner_testE {w : World} {p : Program} {loose : List Str} {mg mb : Str → Option Value} {mean : ExcName → Option Value} {s : Shared} {Q : Flow → Shared → Prop} {E : Value → Shared → Prop} {L lE lI lR lO lS : Addr} {h : Heap} {tk : Nat}
    {i j : Nat} {ti tj : Tok} {m₀ : Str → Option Value} {P : Pop} {o2 : Obj} {nE nI nR nO nS : Nat} {vsI vsR vsO vsS : List Value} {st : Stmt} (hst : st = nthS (inB w) 1)
    (X : (hd.heap_39 w.params).In s.heap) (T : Top p loose mean mg mb s.heap)
    (hS : CloSt w s.heap L lE lI lR lO lS h (fun y => if y = "j" then some (.int (j : Int) tj) else m₀ y) P o2 nE nI nR nO nS vsI vsR vsO vsS) (hi2 : o2.data = .cell (some (.int (i : Int) ti)))
    (hi : i < P.es.length) (hj : j < P.es.length)
    (post : ∀ tk', Q .next { s with heap := h, toks := tk' }) :
    wpAny (model PySem.Challenge.rw_kn0093_01.row.prog w) (callerA.deeper (lawE w L)) (exec st (lawE w L)) Q E { s with heap := h, toks := tk } := by
  unfold lawE
  obtain ⟨sc, hsc⟩ : ∃ sc, sc = scopeAt 626 w.params := ⟨_, rfl⟩
  rw [← hsc]
  conv at hsc => rhs; whnf
  subst hsc
  conv at hst => rhs; whnf
  subst hst
  have F := hS.fr
  have hfew := hS.few
  obtain ⟨a, ja, sa, ea, ra, oa, kva, Sa, ha, hja, hsa, hea, hra, hao, hoda, _, _, _, _, _, hvia, hvea⟩ := hS.core.pick (k := (i : Int)) (by omega) (by omega)
  obtain ⟨b, jb, sb, eb, rb, ob, kvb, Sb, hb, hjb, hsb, heb, hrb, hbo, hodb, _, _, _, _, _, hvib, hveb⟩ := hS.core.pick (k := (j : Int)) (by omega) (by omega)
  have na := hS.core.newE a (List.mem_of_getElem? ha)
  have nb := hS.core.newE b (List.mem_of_getElem? hb)
  have N := newsMore (newsMore hS.news hbo ⟨nb.1, nb.2.1⟩) hao ⟨na.1, na.2.1⟩
  have TR := topRead_of T
  have hxa : (P.es.map Value.ref).toArray[((i : Nat) : Int).toNat]? = some (.ref a) := by simpa using ha
  have hxb : (P.es.map Value.ref).toArray[((j : Nat) : Int).toNat]? = some (.ref b) := by simpa using hb
  obtain ⟨ta, hta⟩ := natsI_at hS.vR hea
  obtain ⟨tb, htb⟩ := natsI_at hS.vR heb
  have hya : vsR.toArray[((i : Nat) : Int).toNat]? = some (.int (ea : Int) ta) := by simpa using hta
  have hyb : vsR.toArray[((j : Nat) : Int).toNat]? = some (.int (eb : Int) tb) := by simpa using htb
  have i0 : (0 : Int) ≤ (i : Int) := by omega
  have j0 : (0 : Int) ≤ (j : Int) := by omega
  have i1 : (i : Int) < 16777216 := by omega
  have j1 : (j : Int) < 16777216 := by omega
  have la := na.2.2
  have lb := nb.2.2
  have fxa := (hS.core.err ra (List.mem_of_getElem? hra)).1
  have fxb := (hS.core.err rb (List.mem_of_getElem? hrb)).1
  by_cases hjj : ea = eb
  · subst hjj
    rw [hra] at hrb; cases hrb
    k_steps
    · rename (_ != _) = true => hb
      simp at hb
    · exact post _
  · have nab : ra.x ≠ rb.x := fun e => hjj (hS.core.einj hra hrb e)
    have njj : (ea : Int) ≠ (eb : Int) := by omega
    k_steps
    · rename (_ != _) = true => hb
      simp at hb
      exact absurd hb njj
    · exact post _
end Mine
end
section -- L1P
open PySem PySem.W PyProof.Rows PySem.Calls
set_option maxRecDepth 100000
namespace Mine
set_option maxHeartbeats 4000000
local macro_rules | `(tactic| k_room) => `(tactic| ((try simp only [depth_mark, depth_under_make, depth_under_kw, depth_in1, depth_deeper, depth_caller]); (first | ((show _ + _ < 1000); omega) | ((show _ < 1000); omega))))
local macro_rules | `(tactic| k_all) => `(tactic| assumption)
local macro_rules | `(tactic| walk_at "call builtin:len") => `(tactic| (k_here; k_dflt (refine' len_lst ?N ?m ?e ?z ?_; (case N => k_asm); (case m => k_mem); (case e => with_reducible assumption); (case z => with_reducible assumption))))
theorem lawM_put {lE lI lR lO lS : Addr} {m : Str → Option Value} {nm : Str} {v : Option Value} (h : nm ∉ (["signs", "octets", "errors", "inputs", "environs"] : List Str)) : ∀ y, (if y = nm then v else lawM lE lI lR lO lS m y) = lawM lE lI lR lO lS (fun y => if y = nm then v else m y) y := fun y => by
  simp only [List.mem_cons, List.not_mem_nil, or_false, not_or] at h
  obtain ⟨h1, h2, h3, h4, h5⟩ := h
  unfold lawM
  dsimp only
  by_cases q : y = nm
  · subst q
    rw [if_pos rfl, if_neg h1, if_neg h2, if_neg h3, if_neg h4, if_neg h5, if_pos rfl]
  · rw [if_neg q, if_neg q]
theorem cls_notGood {o : Obj} (h : o.cls = .type "range_iterator") : ¬ goodO o := by
  rintro (⟨q, _⟩ | ⟨C, dx, rfl⟩)
  · rw [h] at q; exact absurd q (by decide)
  · cases h
section
variable {w : World} {g : Heap} {L lE lI lR lO lS : Addr} {h : Heap} {m₀ : Str → Option Value} {P : Pop} {o2 : Obj} {nE nI nR nO nS : Nat} {vsI vsR vsO vsS : List Value}
/-- a local name told -/
theorem CloSt.put (x : CloSt w g L lE lI lR lO lS h m₀ P o2 nE nI nR nO nS vsI vsR vsO vsS) {h' : Heap} {nm : Str} {v : Option Value} (hnm : nm ∉ (["signs", "octets", "errors", "inputs", "environs"] : List Str)) (hn : h'.Ns L (fun y => if y = nm then v else lawM lE lI lR lO lS m₀ y)) (hk : ∀ b o, b ≠ L → h.get? b = some o → h'.get? b = some o) :
    CloSt w g L lE lI lR lO lS h' (fun y => if y = nm then v else m₀ y) P o2 nE nI nR nO nS vsI vsR vsO vsS := by
  have hP : ∀ a, P.has a → a ≠ L := fun a ha => (x.core.has_new ha).1
  exact { x with
    fr := frCongr (m := fun y => if y = nm then v else lawM lE lI lR lO lS m₀ y) ⟨hn, fun b o e => hk b o (fun q => Nat.lt_irrefl _ (Nat.lt_of_lt_of_le (Heap.lt_size (q ▸ e : g.get? L = some o)) x.fr.above)) (x.fr.keep b o e), x.fr.above⟩ (lawM_put hnm)
    news := newsNew x.news hk
    core := x.core.to (fun a ha o e => hk a o (hP a ha) e) fun b o t e => hk b o (fun q => Mine.Fr.notDict x.fr o (q ▸ e) t) e }
theorem CloSt.grow (x : CloSt w g L lE lI lR lO lS h m₀ P o2 nE nI nR nO nS vsI vsR vsO vsS) {h' : Heap} (k : ∀ b o, h.get? b = some o → h'.get? b = some o) : CloSt w g L lE lI lR lO lS h' m₀ P o2 nE nI nR nO nS vsI vsR vsO vsS :=
  { x with fr := frGrow x.fr k, news := newsGrow x.news k, core := x.core.to (fun a _ o e => k a o e) (Kept.of k) }
theorem CloSt.low (x : CloSt w g L lE lI lR lO lS h m₀ P o2 nE nI nR nO nS vsI vsR vsO vsS) {z : Addr} (hz : h.get? z = none) : z ≠ L ∧ g.get? z = none ∧ z ∉ [lS, lO, lR, lI, lE, L + 1 + 1] ∧ ¬ P.has z := by
  have dead : ∀ b o, h.get? b = some o → z ≠ b := fun b o e q => by rw [← q, hz] at e; cases e
  refine ⟨?_, ?_, fun hm => ?_, fun hp => ?_⟩
  · obtain ⟨oL, _, _, hL, _⟩ := x.fr.ns
    exact dead _ _ hL
  · cases c : g.get? z with
    | none => rfl
    | some o => exact absurd rfl (dead z o (x.fr.keep _ _ c))
  · obtain ⟨p, hp, e⟩ := List.mem_map.mp (show z ∈ [(lS, listO vsS.toArray nS), (lO, listO vsO.toArray nO), (lR, listO vsR.toArray nR), (lI, listO vsI.toArray nI), (lE, listO (P.es.map Value.ref).toArray nE), (L + 1 + 1, o2)].map (·.1) from hm)
    exact dead p.1 p.2 (x.news p hp).1 e.symm
  · obtain ⟨o, q⟩ := x.core.has_at hp
    exact dead z o q rfl
end
theorem in_eq (w : World) : inB w = [nthS (inB w) 0, nthS (inB w) 1] := by with_unfolding_all rfl
theorem inner_loop {w : World} {p : Program} {loose : List Str} {mg mb : Str → Option Value} {mean : ExcName → Option Value} {s : Shared} {Q : Flow → Shared → Prop} {L lE lI lR lO lS : Addr} {h : Heap} {tk : Nat}
    {i : Nat} {ti : Tok} {m₀ : Str → Option Value} {P : Pop} {o2 : Obj} {nE nI nR nO nS : Nat} {vsI vsR vsO vsS : List Value} {st : Stmt} (hst : st = cT w 0)
    (X : (hd.heap_39 w.params).In s.heap) (T : Top p loose mean mg mb s.heap)
    (hS : CloSt w s.heap L lE lI lR lO lS h m₀ P o2 nE nI nR nO nS vsI vsR vsO vsS) (hi2 : o2.data = .cell (some (.int (i : Int) ti)))
    (hi : i < P.es.length)
    (post : ∀ h' tk' m', CloSt w s.heap L lE lI lR lO lS h' m' P o2 nE nI nR nO nS vsI vsR vsO vsS → Rest P L h h' → Q .next { s with heap := h', toks := tk' }) :
    wpG (model PySem.Challenge.rw_kn0093_01.row.prog w) (callerA.deeper (lawE w L)) (exec st (lawE w L)) Q (fun _ _ => False) { s with heap := h, toks := tk } := by
  have hB : ∀ {h₁ tk₁} {m₁ : Str → Option Value} {j : Nat} {tj : Tok} {QQ : Flow → Shared → Prop}, CloSt w s.heap L lE lI lR lO lS h₁ (fun y => if y = "j" then some (.int (j : Int) tj) else m₁ y) P o2 nE nI nR nO nS vsI vsR vsO vsS → j < P.es.length → (∀ tk', QQ .next { s with heap := h₁, toks := tk' }) →
      wpG (model PySem.Challenge.rw_kn0093_01.row.prog w) (callerA.deeper (lawE w L)) (execs (inB w) (lawE w L)) QQ (fun _ _ => False) { s with heap := h₁, toks := tk₁ } := by
    intro h₁ tk₁ m₁ j tj QQ hc hj hq
    rw [in_eq w]
    obtain ⟨s0, e0⟩ : ∃ z, z = nthS (inB w) 0 := ⟨_, rfl⟩
    obtain ⟨s1, e1⟩ : ∃ z, z = nthS (inB w) 1 := ⟨_, rfl⟩
    rw [← e0, ← e1]
    exact g_execs (lift (inner_test e0 X T hc hi2 hi hj fun tk1 => g_execs (lift (inner_testE e1 X T hc hi2 hi hj fun tk2 => g_nil (hq tk2)))))
  unfold lawE at hB ⊢
  obtain ⟨sc, hsc⟩ : ∃ sc, sc = scopeAt 626 w.params := ⟨_, rfl⟩
  rw [← hsc] at hB ⊢
  conv at hsc => rhs; whnf
  subst hsc
  obtain ⟨b0, hb0⟩ : ∃ b, b = inB w := ⟨_, rfl⟩
  rw [← hb0] at hB
  conv at hb0 => rhs; whnf
  subst hb0
  conv at hst => rhs; whnf
  subst hst
  have F := hS.fr
  have N := hS.news
  have TR := topRead_of T
  have hfew := hS.few
  have hsz : (P.es.map Value.ref).toArray.size = P.es.length := by simp
  have hz2 : P.es.length ≤ 16777216 := by omega
  refine g_forRange rfl ?_
  k_steps
  rename IsRange _ _ _ _ _ _ _ _ => hr
  rename ∀ (b : Addr) (o : Obj), _ = some o → _ = some o => hk6
  rename_i h6 tk6 t6 u6 v6 F6 N6
  dsimp only at hr hk6
  have hS6 := hS.grow hk6
  have hnone : h6.get? h6.objs.size = none := by
    cases c : h6.get? h6.objs.size with
    | none => rfl
    | some o => exact absurd (Heap.lt_size c) (Nat.lt_irrefl _)
  obtain ⟨zL, zg, zl, zP⟩ := hS6.low hnone
  refine Stop.mk ⟨_, P.es.length, t6, u6, v6, fun _ h' => ∃ m', CloSt w s.heap L lE lI lR lO lS h' m' P o2 nE nI nR nO nS vsI vsR vsO vsS ∧ Rest P L h h', rfl, hr, by omega, ⟨m₀, hS6, Rest.of fun b o _ e => hk6 b o e⟩, ?_, ?_, ?_⟩
  · rintro k h1 h2 ⟨m', hc, hrest⟩ hk hcls
    dsimp only at hk hcls
    refine ⟨m', hc.ext (z := h6.objs.size) hk (fun o e => cls_notGood (hcls o e)) zL zg zl zP, fun b o e c1 c2 c3 => hk b o (fun q => ?_) (hrest b o e c1 c2 c3)⟩
    have := hk6 _ _ e
    rw [q, hnone] at this; cases this
  · rintro j h1 tkj tj oi hj ⟨m', hc, hrest⟩ hIt
    dsimp only at hIt ⊢
    refine wpAny_assign_Name (wpAny_storeName_local (by rfl) hc.fr.ns (fun h2 hn2 hs2 => ?_) rfl)
    have hk2 : ∀ b o, b ≠ L → h1.get? b = some o → h2.get? b = some o := fun b o hb e => hs2.extBut b o hb e
    have hc2 := hc.put (nm := "j") (by decide) hn2 hk2
    exact hB hc2 hj fun tk' => ⟨h2, tk', rfl, ⟨_, hc2, hrest.trans (Rest.of hk2)⟩, hk2 _ _ zL hIt⟩
  · rintro h' tk' ⟨m', hc, hrest⟩
    exact post h' tk' m' hc hrest
end Mine
end
section -- G23
open PySem PySem.W PyProof.Rows PySem.Calls
set_option maxRecDepth 100000
namespace Mine
open PySem Builtin Builtin.ObjectAttr
theorem kind_hasattr : builtinKind "hasattr" = none := by decide +kernel
theorem plain_hasattr : plainId "hasattr" = true := by decide +kernel
theorem entry_hasattr : entryFor table "hasattr" = some Builtin.«hasattr» := entryFor_of_tree (by kernel_rfl)
theorem args_hasattr_2 (a b : Value) : argsOk "hasattr" ⟨[a, b], []⟩ := by unfold argsOk; kernel_rfl
section
variable {prog : Program} {w : World} {A : Around} {E : Value → Shared → Prop} {s : Shared} {K : Frag} {x C f L : Addr} {ox : Obj} {od : Obj} {name : PySem.Str} {expr fill : Bool} {h₀ : Heap} {m : PySem.Str → Option Value} {news : List (Addr × Obj)} {es : List DictEntry} {n : Nat} {Q : Value → Shared → Prop} {t : Tok}
theorem hb_open (X : K.In s.heap) (I : InstAt s.heap x ox C (some od)) (hga : findIn K (.ref C) "__getattribute__" = some (some (.builtin "object.__getattribute__")))
    (h : wpAny (model prog w) A.in1 (Builtin.«proto.getattr_hooked» ⟨[.ref x, .str name t], []⟩)
      (fun fin s' => match fin with | .done (.ret v) => wpAny (model prog w) A (handedOut v) Q E s' | _ => False) (fun e s' => wpAny (model prog w) A (noteIf fill (.ref x) (.str name t) e) (fun _ s'' => E e s'') E s') s) :
    wpAny (model prog w) A (getAttrBy (.ref x) (.str name t) fill expr) Q E s := by
  obtain ⟨hh, g, d, tk, os⟩ := s
  have L0 := I.type (M := model prog w)
  have L1 := looks_findIn (M := model prog w) X hga
  unfold getAttrBy
  refine wpAny_holding (wpAny_bind (L0.at (wpAny_bind (L1.at ?_))))
  show wpAny _ _ (getAttrEveryday _ _ _) _ _ _
  refine wpAny_bind (wpAny_onRaise (wpAny_runValue (codeAny_builtin F.plainObj_entry_getattr_hooked (wpAny_mono h (fun fin s' z => ?_) fun _ _ z => z))))
  rcases fin with (_ | _ | _ | _) | _ <;> first | exact z | exact z.elim
theorem hb_bind {g a : Value} (X : K.In s.heap) (I : InstAt s.heap x ox C (some od)) (hga : findIn K (.ref C) "__getattribute__" = some (some (.builtin "object.__getattribute__")))
    (hf : findObj K C (some od) name = some (.bind g a)) (hk : findIn K (.ref C) "__getattr__" = some none)
    (h : wpAny (model prog w) A.in1 (call g [a, .ref x, .ref C]) (fun v s' => wpAny (model prog w) A (handedOut v) Q E s') (fun e s' => wpAny (model prog w) A (noteIf fill (.ref x) (.str name t) e) (fun _ s'' => E e s'') E s') s) :
    wpAny (model prog w) A (getAttrBy (.ref x) (.str name t) fill expr) Q E s := by
  refine hb_open X I hga ?_
  obtain ⟨hh', gg, d, tk, os⟩ := s
  have L0 := I.type (M := model prog w)
  have L1 := looks_find (M := model prog w) X I hf
  have L2 := looks_findIn (M := model prog w) X hk
  refine wpAny_bind (wpAny_pure (wpAny_bind (L0.at (wpAny_bind (L1.at (wpAny_bind (L2.at ?_)))))))
  show wpAny _ _ (holding [a] (call g [a, .ref x, .ref C]) >>= ret) _ _ _
  exact wpAny_bind (wpAny_holding (wpAny_mono h (fun v s' z => wpAny_pure z) fun _ _ z => z))
theorem hb_bound (F : Fr h₀ L s.heap m) (X₀ : K.In h₀) (N : News h₀ L s.heap news) (I : InstAt s.heap x ox C (some (dictOf es n))) (hg : plainGet K C name = true) (hh : hasDictIn K C = true) (ha : findIn K (.ref C) name = some (some (.ref f))) (hf : isFn K (.ref f) = true)
    (hgf : specialIn K (.ref f) "__get__" = some (some (.builtin "function.__get__"))) (ht : takesIn K (.ref f) = some false) (hc : copiedNames.contains name = false) (hl : getL name es = some none)
    (h : ∀ q h', Fr h₀ L h' m → News h₀ L h' ((q, methodObj (.ref f) (.ref x)) :: news) → (∀ p ∈ news, p.1 < q) → Q (.ref q) { s with heap := h' }) : wpAny (model prog w) A (getAttrBy (.ref x) (.str name t) fill expr) Q E s :=
  hb_bind (X₀.keeps F.keep) I (plainGet_of hg).1 (findObj_fn hh ha hgf ht hc (by show lookIn name (dictOf es n) = _; rw [lookIn_dict, hl])) (plainGet_of hg).2
    (wpAny_call (fn_get (X₀.keeps F.keep) (beq_iff_eq.mp hf) (handed_on rfl (h s.heap.objs.size _ (F.push _) (N.push F _) fun p hp => Heap.lt_size (N p hp).1))))
/-- hasattr(x, name), where name is a function of x's class -/
theorem has_bound (F : Fr h₀ L s.heap m) (X₀ : K.In h₀) (N : News h₀ L s.heap news) (I : InstAt s.heap x ox C (some (dictOf es n))) (hg : plainGet K C name = true) (hh : hasDictIn K C = true) (ha : findIn K (.ref C) name = some (some (.ref f))) (hf : isFn K (.ref f) = true)
    (hgf : specialIn K (.ref f) "__get__" = some (some (.builtin "function.__get__"))) (ht : takesIn K (.ref f) = some false) (hc : copiedNames.contains name = false) (hl : getL name es = some none) (hmod : subIn K (.ref C) (.type "module") = some false)
    (h : ∀ q h', Fr h₀ L h' m → News h₀ L h' ((q, methodObj (.ref f) (.ref x)) :: news) → (∀ p ∈ news, p.1 < q) → Q (.bool true) { s with heap := h' }) : wpAny (model prog w) A (call (.builtin "hasattr") [.ref x, .str name t]) Q E s := by
  refine Calls.call_function_entry kind_hasattr plain_hasattr entry_hasattr (args_hasattr_2 _ _) ?_
  have L0 := I.type (M := model prog w)
  have L1 := looks_subIn (M := model prog w) (X₀.keeps F.keep) hmod
  unfold Builtin.«hasattr»
  refine wpAny_bind (wpAny_of_eq (a := [.ref x, .str name t]) (by first | rfl | kernel_rfl) ?_)
  dsimp only
  refine wpAny_bind (wpAny_of_eq (a := ()) (by first | rfl | kernel_rfl) ?_)
  rw [if_neg (show ¬ ((Value.ref x == Value.builtin "__main__.__loader__#opaque") = true) from Bool.false_ne_true)]
  refine wpAny_bind (L0.here ?_)
  dsimp only
  k_delta "optionalOnAModule"
  refine wpAny_bind ?_
  dsimp only
  refine wpAny_bind (wpAny_of_eq (a := some name) (by first | rfl | kernel_rfl) ?_)
  dsimp only
  refine wpAny_bind ((L0.andThen L1 : Looks (model prog w) s.heap (isInstance (.ref x) (.type "module")) false).here ?_)
  rw [if_pos (show (!false) = true from rfl)]
  refine wpAny_pure ?_
  rw [if_neg (show ¬ (((0 : Nat) == 1) = true) from Bool.false_ne_true)]
  unfold getAttrBy?
  refine wpAny_bind (wpAny_bind (wpAny_attempt (hb_bound F X₀ N I hg hh ha hf hgf ht hc hl fun q h' F' N' l1 => wpAny_pure ?_)))
  rw [if_neg (show ¬ (((some (Value.ref q)).isNone && (0 : Nat) == 2) = true) from Bool.false_ne_true)]
  exact wpAny_pure ⟨_, rfl, h q h' F' N' l1⟩
end
end Mine
end
section -- G24
open PySem PySem.W PyProof.Rows PySem.Calls
set_option maxRecDepth 100000
namespace Mine
/- y = [x for x in it], it an iterator of an own class -/
section
variable {prog : Program} {w : World} {A : Around} {E : Value → Shared → Prop} {env : Env} {s : Shared}
/-- what the iterator is: J i h: it stands before its item i; wr: what an item turns; L: the frame, whose own object the end may turn -/
structure OwnIt (prog : Program) (w : World) (A : Around) (I L : Addr) (mL : Str → Option Value) (wr : List Addr) (n : Nat) (P : Nat → Value → Prop) (J : Nat → Heap → Prop) (s₂ : Shared) : Prop where
  hL : L ∉ wr
  old : ∀ b ∈ wr, b < s₂.heap.objs.size
  self : ∀ h tk (Q : Value → Shared → Prop) (E : Value → Shared → Prop), J 0 h → (∀ h' tk', (∀ b o, h.get? b = some o → h'.get? b = some o) → Q (.ref I) { s₂ with heap := h', toks := tk' }) → wpAny (model prog w) A (pyIter (.ref I)) Q E { s₂ with heap := h, toks := tk }
  frame : ∀ i h h', J i h → (∀ b o, b < s₂.heap.objs.size → h.get? b = some o → h'.get? b = some o) → J i h'
  item : ∀ i h tk (Q : Option Value → Shared → Prop) (E : Value → Shared → Prop), i < n → J i h →
    (∀ v h' tk', P i v → J (i + 1) h' → (∀ b o, b ∉ wr → h.get? b = some o → h'.get? b = some o) → Q (some v) { s₂ with heap := h', toks := tk' }) → wpAny (model prog w) A (pyNext (.ref I)) Q E { s₂ with heap := h, toks := tk }
  done : ∀ h tk (Q : Option Value → Shared → Prop) (E : Value → Shared → Prop), J n h →
    (∀ h' tk', (∀ b o, b ≠ L → h.get? b = some o → h'.get? b = some o) → (h.Ns L mL → h'.Ns L mL) → Q none { s₂ with heap := h', toks := tk' }) → wpAny (model prog w) A (pyNext (.ref I)) Q E { s₂ with heap := h, toks := tk }
theorem tests_nil {M : Model} {c : Env} {Q : Bool → Shared → Prop} (h : Q true s) : wpAny M A (forIn ([] : List Expr) true fun c' r => if r = true then do let ok ← isTrue c' c (eval c' c); pure (ForInStep.yield ok) else pure (ForInStep.yield r)) Q E s := by
  show wpAny M A (pure true) Q E s
  exact wpAny_pure h
theorem loopOwn {iter : Expr} {x : Str} {px p1 : Pos} {scope : Scope} {pos : Pos} {I D L : Addr} {wr : List Addr} {n : Nat} {P : Nat → Value → Prop} {J : Nat → Heap → Prop} {s₂ : Shared} {mL : Str → Option Value} {cenv : Env} {m : Str → Option Value} {h : Heap} {tk : Nat} {R : Result → Shared → Prop}
    (W : OwnIt prog w A I L mL wr n P J s₂) (hx : cenv.kindOf x = some .local) (hfn : cenv.scope.kind = .function) (hp : (cenv.scope.kind == .class || (cenv.scope.kind == .module && cenv.locals != cenv.globals)) = false) (hd : (x == ("__debug__" : Str)) = false)
    (hDC : D ≠ cenv.locals) (hD : s₂.heap.objs.size ≤ D) (hC : s₂.heap.objs.size ≤ cenv.locals) (hLD : D ≠ L) (hLC : cenv.locals ≠ L)
    (hst : J 0 h) (hacc : h.PlainList D #[]) (hn : h.Ns cenv.locals m) (hsz : n ≤ sizeLine)
    (hR : ∀ h' tk' m' (vs : List Value) hd, h'.Ns cenv.locals m' → h'.PlainList D vs.toArray → vs.length = n → (∀ j v, vs[j]? = some v → P j v) → J n hd → (∀ b o, b ≠ L → hd.get? b = some o → h'.get? b = some o) →
      (∀ b o, b ≠ cenv.locals → b ∉ wr → b ≠ D → h.get? b = some o → hd.get? b = some o) → (hd.Ns L mL → h'.Ns L mL) → R (.ok .next) { s₂ with heap := h', toks := tk' }) :
    codeAny (model prog w) A (.compLoop (.ListComp (.Name x p1) [⟨.Name x px, iter, [], 0⟩] scope pos) 0 (.ref I) (.ref D) cenv) R { s₂ with heap := h, toks := tk } := by
  have hDw : D ∉ wr := fun q => Nat.lt_irrefl _ (Nat.lt_of_lt_of_le (W.old _ q) hD)
  have hCw : cenv.locals ∉ wr := fun q => Nat.lt_irrefl _ (Nat.lt_of_lt_of_le (W.old _ q) hC)
  have ltD : ∀ b, b < s₂.heap.objs.size → b ≠ D := fun b hb e => Nat.lt_irrefl _ (Nat.lt_of_lt_of_le (e ▸ hb) hD)
  have ltC : ∀ b, b < s₂.heap.objs.size → b ≠ cenv.locals := fun b hb e => Nat.lt_irrefl _ (Nat.lt_of_lt_of_le (e ▸ hb) hC)
  refine codeAny_compLoop_tests
    (fun k s' => ∃ h' tk' m', ∃ vs : List Value, s' = { s₂ with heap := h', toks := tk' } ∧ J vs.length h' ∧ h'.PlainList D vs.toArray ∧ h'.Ns cenv.locals m' ∧ (∀ j v, vs[j]? = some v → P j v) ∧ vs.length ≤ n ∧ k = n + 1 - vs.length ∧
      (∀ b o, b ≠ cenv.locals → b ∉ wr → b ≠ D → h.get? b = some o → h'.get? b = some o)) ?_ (n + 1)
    ⟨h, tk, m, [], rfl, hst, hacc, hn, by simp, Nat.zero_le _, rfl, fun _ _ _ _ _ e => e⟩
  rintro k s' ⟨H, tk', m', vs, rfl, hst', hacc', hn', hP, hi, rfl, hk⟩
  by_cases hlt : vs.length < n
  · refine W.item vs.length _ _ _ _ hlt hst' fun v h₁ tk₁ hPv hst₁ hk₁ => ?_
    dsimp only
    refine wpAny_assign_Name (wpAny_storeName_local hx (hn'.at' fun o e => hk₁ _ o hCw e) (fun h₂ hn₂ hs₂ => ?_) hp)
    have up₂ : ∀ b o, b ≠ cenv.locals → b ∉ wr → H.get? b = some o → h₂.get? b = some o := fun b o hbC hbf e => hs₂.extBut b o hbC (hk₁ b o hbf e)
    have hst₂ : J (vs.length + 1) h₂ := W.frame _ _ _ hst₁ fun b o hb e => hs₂.extBut b o (ltC b hb) e
    refine tests_nil ?_
    rw [if_pos rfl]
    refine wpAny_Name (wpAny_loadName_local (v := v) hfn hx hn₂ (by simp) ?_) hd
    have hacc₂ : h₂.PlainList D vs.toArray := hacc'.at fun o e => up₂ D o hDC hDw e
    refine wpAny_list_append_plain (hsz := by rw [List.size_toArray]; omega) hacc₂ fun h₅ hl₅ hs₅ => ?_
    have hP' : ∀ j u, (vs ++ [v])[j]? = some u → P j u := fun j u hj => by
      rcases Nat.lt_trichotomy j vs.length with q | q | q
      · exact hP j u (by rwa [List.getElem?_append_left q] at hj)
      · subst q; simp at hj; subst hj; exact hPv
      · have hnone : (vs ++ [v])[j]? = none := List.getElem?_eq_none (by rw [List.length_append, List.length_singleton]; exact q)
        rw [hnone] at hj; cases hj
    refine ⟨n + 1 - (vs.length + 1), Nat.sub_succ_lt_self _ _ (Nat.lt_succ_of_lt hlt), h₅, _, _, vs ++ [v], rfl, ?_, by simpa using hl₅, hn₂.sameBut hs₅ (Ne.symm hDC), hP', (by rw [List.length_append, List.length_singleton]; exact hlt), (by rw [List.length_append, List.length_singleton]),
      fun b o hbC hbf hbD e => hs₅.extBut b o hbD (up₂ b o hbC hbf (hk b o hbC hbf hbD e))⟩
    have := W.frame _ _ h₅ hst₂ fun b o hb e => hs₅.extBut b o (ltD b hb) e
    simpa using this
  · have hin : vs.length = n := by omega
    refine W.done _ _ _ _ (hin ▸ hst') fun h₁ tk₁ hk₁ hL₁ => ?_
    dsimp only
    exact hR h₁ tk₁ m' vs H (hn'.at' fun o e => hk₁ _ o hLC e) (hacc'.at fun o e => hk₁ _ o hLD e) hin hP (hin ▸ hst') hk₁ hk hL₁
theorem Assign_own {iter : Expr} {x y : Str} {px py p1 : Pos} {scope : Scope} {cl : List (Str × Addr)} {pos spos : Pos} {Q : Flow → Shared → Prop}
    (hsw : swapsWith (.ListComp (.Name x p1) [⟨.Name x px, iter, [], 0⟩] scope pos) (some (.Name y py)) spos.line env = pure true)
    (hclos : closureFor scope env = pure cl) (hcell : ∀ z ∈ scope.names, z.2 ≠ .cell) (hkind : scope.kind = .function)
    (hnames : ∀ z ∈ scope.names, z.2 = .local → scope.names.lookup z.1 = some .local) (hx : scope.names.lookup x = some .local) (hd : (x == ("__debug__" : Str)) = false)
    (hy : env.kindOf y = some .local) (hp : (env.scope.kind == .class || (env.scope.kind == .module && env.locals != env.globals)) = false)
    (h : wpAny (model prog w) A (eval iter env) (fun xv s₁ => wpAny (model prog w) A (pyIter xv) (fun it s₂ => Stop (∃ I wr n P J m, it = .ref I ∧ OwnIt prog w A I env.locals m wr n P J s₂ ∧ n ≤ sizeLine ∧ J 0 s₂.heap ∧ s₂.heap.Ns env.locals m ∧
      (∀ D h' tk (vs : List Value) hd c, s₂.heap.get? D = none → h'.get? D = some { cls := .type "list", data := .seq vs.toArray c } → vs.length = n → (∀ j v, vs[j]? = some v → P j v) → h'.Ns env.locals (fun z => if z = y then some (.ref D) else m z) →
        (∀ b o, b ≠ env.locals → b ∉ wr → s₂.heap.get? b = some o → h'.get? b = some o) → J n hd → (∀ b o, b ≠ env.locals → b < s₂.heap.objs.size → hd.get? b = some o → h'.get? b = some o) → Q .next { s₂ with heap := h', toks := tk }))) E s₁) E s)
    (hs : ∀ x, foldedSetIterable iter env x = pure x := by intro _; rfl) :
    wpAny (model prog w) A (exec (.Assign [.Name y py] (.ListComp (.Name x p1) [⟨.Name x px, iter, [], 0⟩] scope pos) spos) env) Q E s := by
  rw [exec_Assign_Name_used _ _ _ _ hsw]
  refine wpAny_bind (wpAny_standAt (wpAny_bind ?_))
  show wpAny _ A (do let _ ← comprehension (.ListComp (.Name x p1) [⟨.Name x px, iter, [], 0⟩] scope pos) scope env _ (newList []) false (eval iter env) (some (assign (.Name y py) env))) _ _ s
  refine wpAny_bind (wpAny_mono (wpAny_comprehension_free (use := some (assign (.Name y py) env)) (Q := fun _ s' => Q .next s') rfl hs hclos hkind hnames
    (wpAny_mono h (fun xv s₁ h₁ => wpAny_mono h₁ (fun it s₂ h₂ => ?_) fun _ _ e => e) fun _ _ e => e)) (fun _ s' hq => wpAny_pure (wpAny_pure hq)) fun _ _ e => e)
  obtain ⟨I, wr, n, P, J, m, rfl, W, hsz, hst, hn, hQ⟩ := h₂
  refine wpAny_newObj_type (wpAny_newFunctionEnv hcell (by intro y hy; simp at hy) (fun h₁ hns₁ hsb₁ => ?_) hkind)
  dsimp only at hns₁ hsb₁ ⊢
  generalize hH2 : s₂.heap.push { cls := .type "list", dict := none, data := .seq ([] : List Value).toArray } = H2 at hns₁ hsb₁ ⊢
  have hC : H2.objs.size = s₂.heap.objs.size + 1 := by rw [← hH2, Heap.size_push]
  have hDC : s₂.heap.objs.size ≠ H2.objs.size := by rw [hC]; exact Nat.ne_of_lt (Nat.lt_succ_self _)
  have hCle : s₂.heap.objs.size ≤ H2.objs.size := by rw [hC]; exact Nat.le_succ _
  have below : ∀ b, b < s₂.heap.objs.size → b ≠ H2.objs.size ∧ b ≠ s₂.heap.objs.size := fun b hb => ⟨by rw [hC]; exact Nat.ne_of_lt (Nat.lt_succ_of_lt hb), Nat.ne_of_lt hb⟩
  have old : ∀ b o, s₂.heap.get? b = some o → h₁.get? b = some o := fun b o e => hsb₁.extBut b o (below b (Heap.lt_size e)).1 (Heap.get?_push_of_some _ (hH2 ▸ Heap.get?_push_of_some _ e))
  have hacc : h₁.PlainList s₂.heap.objs.size #[] := ⟨_, hsb₁.extBut _ _ hDC (Heap.get?_push_of_some _ (hH2 ▸ Heap.get?_push_size _ rfl))⟩
  have hst₁ : J 0 h₁ := W.frame _ _ _ hst fun b o _ e => old b o e
  have fresh : ∀ a, s₂.heap.objs.size ≤ a → s₂.heap.get? a = none := fun a ha => by
    cases e : s₂.heap.get? a with
    | none => rfl
    | some o' => exact absurd (Heap.lt_size e) (Nat.not_lt.mpr ha)
  have hLlt : env.locals < s₂.heap.objs.size := let ⟨o, _, _, ho, _⟩ := hn; Heap.lt_size ho
  have hLC : env.locals ≠ H2.objs.size := (below _ hLlt).1
  have hLD : env.locals ≠ s₂.heap.objs.size := (below _ hLlt).2
  have loop : ∀ (h₂ : Heap) (tk₂ : Nat), (∀ b o, h₁.get? b = some o → h₂.get? b = some o) →
      codeAny (model prog w) A (.compLoop (.ListComp (.Name x p1) [⟨.Name x px, iter, [], 0⟩] scope pos) 0 (.ref I) (.ref s₂.heap.objs.size) (compEnvC scope cl H2.objs.size env))
        (compPost (model prog w) A E (some (assign (.Name y py) env)) (fun _ s' => Q .next s') (.ref s₂.heap.objs.size) H2.objs.size) { s₂ with heap := h₂, toks := tk₂ } := by
    intro h₂ tk₂ k₂
    refine loopOwn (cenv := compEnvC scope cl H2.objs.size env) (m := fun y => (([] : List (Str × Value)).reverse.lookup y)) W (lookup_relabel_local hx) (by simp [compEnvC, relabel, hkind]) (by simp [compEnvC, relabel, hkind]) hd hDC (Nat.le_refl _) hCle (Ne.symm hLD) (Ne.symm hLC)
      (W.frame _ _ _ hst₁ fun b o _ e => k₂ b o e) (hacc.at fun o e => k₂ _ o e) (hns₁.at' fun o e => k₂ _ o e) hsz fun h' tk' m' vs hd' hnC hpl hlen hP hJ hk hk' hNsL => ?_
    show wpAny _ A (assign (.Name y py) env (.ref s₂.heap.objs.size)) _ _ _
    have hnL : hd'.Ns env.locals m := hn.at' fun o e => hk' _ o hLC W.hL hLD (k₂ _ o (old _ o e))
    refine wpAny_assign_Name (wpAny_storeName_local hy (hNsL hnL) (fun h₃ hn₃ hs₃ => ?_) hp)
    refine ⟨m', hnC.sameBut hs₃ (Ne.symm hLC), fun h₄ hs₄ => ?_⟩
    obtain ⟨c, hpl⟩ := hpl
    exact hQ _ h₄ _ vs hd' c (fresh _ (Nat.le_refl _)) (hs₄.extBut _ _ hDC (hs₃.extBut _ _ (Ne.symm hLD) hpl)) hlen hP (hn₃.sameBut hs₄ hLC)
      (fun b o hbL hbw e => hs₄.extBut b o (below b (Heap.lt_size e)).1 (hs₃.extBut b o hbL (hk b o hbL (hk' b o (below b (Heap.lt_size e)).1 hbw (below b (Heap.lt_size e)).2 (k₂ b o (old b o e))))))
      hJ fun b o hbL hb e => hs₄.extBut b o (below b hb).1 (hs₃.extBut b o hbL (hk b o hbL e))
  refine codeAny_compStart_list (loop _ _ fun _ _ e => e) (W.self h₁ _ _ _ hst₁ fun h' tk' k' => loop h' tk' k')
end
end Mine
end
section -- L1q
open PySem PySem.W PyProof.Rows PySem.Calls
set_option maxRecDepth 100000
namespace Mine
set_option maxHeartbeats 4000000
local macro_rules | `(tactic| k_room) => `(tactic| ((try simp only [depth_mark, depth_under_make, depth_under_kw, depth_in1, depth_deeper, depth_caller]); (first | ((show _ + _ < 1000); omega) | ((show _ < 1000); omega))))
local macro_rules | `(tactic| walk_at "call ref") => `(tactic| (k_here; refine Stop.out ?_))
theorem truthy_by {prog : Program} {w : World} {A : Around} {E : Value → Shared → Prop} {s : Shared} {b : Array UInt8} {t : Tok} {v : Bool} {Q : Bool → Shared → Prop} (hz : b.size ≤ 16777216) (hv : ((b.size : Int) != 0) = v) (h : ∀ k, Q v { s with toks := k }) : wpAny (model prog w) A (truthy (.bytes b t)) Q E s :=
  truthy_bytes (by omega) (hv ▸ h _)
local macro_rules | `(tactic| walk_at "truthy bytes") => `(tactic| (k_here; k_dflt (refine' truthy_by ?z ?v ?_; (case z => assumption); (case v => assumption)); intro _))
def WrapAt (P : Params) (h : Heap) (fw df x : Addr) (k : Nat) (q : Addr) : Prop :=
  h.get? fw = some (instObj 53 df) ∧ ∃ t₁ t₂ t₃ t₄, h.get? df = some (dictOf [⟨PyData.keyHash P "filelike", .str "filelike" t₁, .ref x⟩, ⟨PyData.keyHash P "blksize", .str "blksize" t₂, .int (k : Int) t₄⟩, ⟨PyData.keyHash P "close", .str "close" t₃, .ref q⟩] 3)
theorem extract_some {c : Array UInt8} {n k : Nat} (hn : n < c.size) (hk : 0 < k) : (((c.extract n (min (n + k) c.size)).size : Int) != 0) = true := by
  refine bne_iff_ne.mpr fun e => ?_
  have e := Int.ofNat_inj.mp e
  rw [Array.size_extract, Nat.min_eq_left (Nat.min_le_right _ _)] at e
  exact absurd (Nat.sub_eq_zero_iff_le.mp e) (Nat.not_le.mpr (Nat.lt_min.mpr ⟨Nat.lt_add_of_pos_right hk, hn⟩))
theorem nextI_call {w : World} {p : Program} {loose : List Str} {mg mb : Str → Option Value} {A₀ : Around} {base h₀ : Heap} {outer : List Env} {L : Addr} {m : Str → Option Value} {env : Env} {mean : ExcName → Option Value} {s : Shared} {dep un : Nat} {gs : Option (List Code)}
    {R : Result → Shared → Prop} {fw df x dx y q : Addr} {ddf dd : Obj} {c : Array UInt8} {k n : Nat} (hf : env.frame = some L) (hke : env.scope.kind = .function)
    (X : (hd.heap_39 w.params).In h₀) (T : Top p loose mean mg mb h₀) (B : Below A₀ base outer h₀) (F : Fr h₀ L s.heap m) (hdep : dep < 480) (hun : un < 890)
    (N : News h₀ L s.heap [(fw, instObj 53 df), (df, ddf), (x, instObj 365 dx), (dx, dd), (y, baObj c)]) (hW : WrapAt w.params s.heap fw df x k q) (hdd : FreshB w.params s.heap x dx y c (n : Int)) (hn : n < c.size) (hk0 : 0 < k) (hk1 : k ≤ 100) (hz : c.size ≤ 16777216)
    (ndf : df ≠ dx) (nfx : fw ≠ x)
    (post : ∀ h' t' u, (∀ b o, b ≠ dx → s.heap.get? b = some o → h'.get? b = some o) → FreshB w.params h' x dx y c ((min (n + k) c.size : Nat) : Int) → R (.ok (.ret (.bytes (c.extract n (min (n + k) c.size)) u))) { s with heap := h', toks := t' }) :
    codeAny (model PySem.Challenge.rw_kn0093_01.row.prog w) (AR dep (env :: outer) gs un) (.call (.ref 50) ⟨[.ref fw], []⟩) R s := by
  have X' := X.keeps F.keep
  obtain ⟨hfw0, t₁, t₂, t₃, t₄, e⟩ := hW
  have e' := (N _ (.tail _ (.head _))).1
  rw [e] at e'
  cases e'
  have hdd' := hdd
  obtain ⟨hdx0, ⟨u₁, u₂, u₃, e2⟩, hy0⟩ := hdd'
  have e2' := (N _ (.tail _ (.tail _ (.tail _ (.head _))))).1
  rw [e2] at e2'
  cases e2'
  refine' a_defF (news := [(fw, instObj 53 df), (df, _), (x, instObj 365 dx), (dx, _), (y, baObj c)]) (env := env)
    B F N T.nolimit ?hA hf hke X' ?ho ?hcd ?hroom ?hb ?hloc (fun g L' h₁ hk F₁ N₁ B₁ st hlt => ?_) ?hcell ?c1 ?c2 ?c3
  case hA => rfl
  case ho => k_is
  case hcd => k_is
  case hroom => k_room
  case hb => first | exact BindsTo.of_eq rfl | exact binds_K X' rfl (by k_is) rfl rfl rfl
  case hloc => exact locs rfl
  case hcell => decide
  case c1 => rfl
  case c2 => rfl
  case c3 => rfl
  have X₁ := X.keeps st
  have T₁ := T.keeps st
  have TR₁ := topRead_of T₁
  have hn1 : ∀ p ∈ [(fw, instObj 53 df), (df, _), (x, instObj 365 dx), (dx, _), (y, baObj c)], s.heap.get? p.1 = some p.2 := fun p hp => (N p hp).1
  k_steps
  rename Fr g L' _ _ => F2
  rename News g L' _ _ => N2
  refine Stop.mk (wpAny_call (readM_call (k := k) (n := n) rfl rfl X₁ T₁ B₁ F2 (show dep + 1 < 490 from Nat.lt_of_le_of_lt hdep (by decide)) (show un + 3 < 900 from Nat.lt_of_lt_of_le (Nat.add_lt_add_right hun 3) (by decide)) (fun p hp => N2 p (.tail _ (.tail _ hp))) ⟨(N2 _ (.tail _ (.tail _ (.head _)))).1, ⟨u₁, u₂, u₃, (N2 _ (.tail _ (.tail _ (.tail _ (.head _))))).1⟩, (N2 _ (.tail _ (.tail _ (.tail _ (.tail _ (.head _)))))).1⟩ hn hk0 hk1 hz fun h3 t3 u hk3 hB3 => ?_))
  dsimp only at hk3 ⊢
  have F3 := frBut F2 hk3 (N2 _ (.tail _ (.tail _ (.tail _ (.head _))))).2.1 (N2 _ (.tail _ (.tail _ (.tail _ (.head _))))).2.2
  obtain ⟨hx3, ⟨v₁, v₂, v₃, hdx3⟩, hy3⟩ := id hB3
  have nfd : fw ≠ dx := ne_cls (N2 _ (.head _)).1 (N2 _ (.tail _ (.tail _ (.tail _ (.head _))))).1 (show ¬ (Value.ref 53 = Value.type "dict") from by decide)
  have N3 : News g L' h3 [(fw, instObj 53 df), (df, _), (x, instObj 365 dx), (dx, _), (y, baObj c)] :=
    List.forall_mem_cons.mpr ⟨⟨hk3 _ _ nfd (N2 _ (.head _)).1, (N2 _ (.head _)).2⟩, List.forall_mem_cons.mpr ⟨⟨hk3 _ _ ndf (N2 _ (.tail _ (.head _))).1, (N2 _ (.tail _ (.head _))).2⟩, List.forall_mem_cons.mpr ⟨⟨hx3, (N2 _ (.tail _ (.tail _ (.head _)))).2⟩,
      List.forall_mem_cons.mpr ⟨⟨hdx3, (N2 _ (.tail _ (.tail _ (.tail _ (.head _))))).2⟩, List.forall_mem_cons.mpr ⟨⟨hy3, (N2 _ (.tail _ (.tail _ (.tail _ (.tail _ (.head _)))))).2⟩, List.forall_mem_nil _⟩⟩⟩⟩⟩
  clear F2 N2 hB3
  have hz1 : (c.extract n (min (n + k) c.size)).size ≤ 16777216 := extract_few hz
  have hz2 : (((c.extract n (min (n + k) c.size)).size : Int) != 0) = true := extract_some hn hk0
  k_steps
  dsimp only
  rename Fr g L' _ _ => F4
  rename News g L' _ _ => N4
  refine post _ _ _ (fun b' o h1 e3 => ?_) ⟨(N4 _ (.tail _ (.tail _ (.head _)))).1, ⟨v₁, v₂, v₃, (N4 _ (.tail _ (.tail _ (.tail _ (.head _))))).1⟩, (N4 _ (.tail _ (.tail _ (.tail _ (.tail _ (.head _)))))).1⟩
  by_cases q1 : b' = fw
  · subst q1; exact (hfw0.symm.trans e3) ▸ (N4 _ (.head _)).1
  by_cases q2 : b' = df
  · subst q2; exact (e.symm.trans e3) ▸ (N4 _ (.tail _ (.head _))).1
  by_cases q3 : b' = x
  · subst q3; exact (hdx0.symm.trans e3) ▸ (N4 _ (.tail _ (.tail _ (.head _)))).1
  by_cases q5 : b' = y
  · subst q5; exact (hy0.symm.trans e3) ▸ (N4 _ (.tail _ (.tail _ (.tail _ (.tail _ (.head _)))))).1
  · refine F4.keep b' o (hk b' o e3 fun q => ?_)
    simp only [List.map_cons, List.map_nil, List.mem_cons, List.not_mem_nil, or_false] at q
    rcases q with q | q | q | q | q
    · exact q1 q
    · exact q2 q
    · exact q3 q
    · exact h1 q
    · exact q5 q
end Mine
end
section -- L1r
open PySem PySem.W PyProof.Rows PySem.Calls
set_option maxRecDepth 100000
namespace Mine
set_option maxHeartbeats 4000000
local macro_rules | `(tactic| k_room) => `(tactic| ((try simp only [depth_mark, depth_under_make, depth_under_kw, depth_in1, depth_deeper, depth_caller]); (first | ((show _ + _ < 1000); omega) | ((show _ < 1000); omega))))
local macro_rules | `(tactic| walk_at "call ref") => `(tactic| (k_here; refine Stop.out ?_))
theorem readE_callA {w : World} {p : Program} {loose : List Str} {mg mb : Str → Option Value} {A₀ : Around} {base h₀ : Heap} {outer : List Env} {L : Addr} {m : Str → Option Value} {env : Env} {mean : ExcName → Option Value} {s : Shared} {dep un : Nat} {gs : Option (List Code)}
    {R : Result → Shared → Prop} {x dx y : Addr} {dd : Obj} {c : Array UInt8} {k : Int} {t : Tok} (hf : env.frame = some L) (hke : env.scope.kind = .function)
    (X : (hd.heap_39 w.params).In h₀) (T : Top p loose mean mg mb h₀) (B : Below A₀ base outer h₀) (F : Fr h₀ L s.heap m) (hdep : dep < 490) (hun : un < 900)
    (N : News h₀ L s.heap [(x, instObj 365 dx), (dx, dd), (y, baObj c)]) (hdd : FreshB w.params s.heap x dx y c c.size) (hk0 : 0 < k) (hk1 : k ≤ 100) (hz : c.size ≤ 16777216)
    (post : ∀ h' t' u, (∀ b o, s.heap.get? b = some o → h'.get? b = some o) → R (.ok (.ret (.bytes #[] u))) { s with heap := h', toks := t' }) :
    codeAny (model PySem.Challenge.rw_kn0093_01.row.prog w) (AR dep (env :: outer) gs un) (.call (.ref 289) ⟨[.ref x, .int k t], []⟩) R s := readE_call hf hke X T B F hdep hun N hdd hk0 hk1 hz post
local macro_rules | `(tactic| walk_at "truthy bytes") => `(tactic| (k_here; k_dflt (refine' truthy_by ?z ?v ?_; (case z => assumption); (case v => assumption)); intro _))
theorem stop_at {M : Model} {A : Around} {E : Value → Shared → Prop} {s : Shared} {L : Addr} {h₀ : Heap} {m : Str → Option Value} {Q : Option Value → Shared → Prop} {outer : List Env} {env : Env} {e t : Addr} {h : Heap} {vs : List Value} {news : List (Addr × Obj)} {X : String}
    (R : RaisedK h₀ (env :: outer) e (.type X) t vs news s.heap) (hfr : env.frame = some L) (hsm : h.UpToSlots s.heap) (F : Fr h₀ L h m) (hsub : isSubtype (.type X) (.type "StopIteration") = pure true)
    (k : Fr h₀ L s.heap m → News h₀ L s.heap news → Q none s) : OwitStop M A Q E (.ref e) s := by
  obtain ⟨⟨B, hB, hl, hfl, _⟩, _⟩ := R
  have hL : B.get? L = none := by
    obtain ⟨_, ⟨L', _, hf, hn', _⟩, _⟩ := hfl.2.2.1
    rw [hfr] at hf
    obtain rfl : L = L' := Option.some.inj hf
    exact hn'
  have hf' := flyingW_base hB hfl
  obtain ⟨ob, hob, hobc⟩ := hf'.there
  have hT : s.TypeIs (.ref e) X := (show ∃ o, s.heap.get? e = some o ∧ o.cls = .type X from ⟨ob, hob, hobc⟩)
  unfold OwitStop
  refine wpAny_isInstance hT hsub ?_
  show (if true = true then Q none s else E (.ref e) s)
  rw [if_pos rfl]
  exact k (F.of_stays hf'.1 hsm) fun q hq => ⟨hfl.1 _ _ (hl q hq).1, (fun z => by have := (hl q hq).1; rw [z, hL] at this; cases this), (hl q hq).2⟩
theorem nextD {w : World} {p : Program} {loose : List Str} {mg mb : Str → Option Value} {A₀ : Around} {h₀ : Heap} {outer : List Env} {L : Addr} {m : Str → Option Value} {cn : Str} {ns : List (Str × NameKind)} {mo : List (Str × Const)} {a : Addr} {ccd : Value} {mean : ExcName → Option Value} {s : Shared} {dep un : Nat} {gs : Option (List Code)}
    {Q : Option Value → Shared → Prop} {E : Value → Shared → Prop} {fw df x dx y q : Addr} {ddf dd : Obj} {c : Array UInt8} {k : Nat}
    (X : (hd.heap_39 w.params).In h₀) (T : Top p loose mean mg mb h₀) (B : Below A₀ h₀ outer h₀) (F : Fr h₀ L s.heap m) (hdep : dep < 480) (hun : un < 890)
    (N : News h₀ L s.heap [(fw, instObj 53 df), (df, ddf), (x, instObj 365 dx), (dx, dd), (y, baObj c)]) (hW : WrapAt w.params s.heap fw df x k q) (hdd : FreshB w.params s.heap x dx y c c.size) (hk0 : 0 < k) (hk1 : k ≤ 100) (hz : c.size ≤ 16777216)
    (post : ∀ h' t', Fr h₀ L h' m → (∀ b o, b ≠ L → s.heap.get? b = some o → h'.get? b = some o) → Q none { s with heap := h', toks := t' }) :
    wpAny (model PySem.Challenge.rw_kn0093_01.row.prog w) (AR dep (envOfC cn ⟨.function, ns, false, false, mo⟩ L a ccd :: outer) gs un) (pyNext (.ref fw)) Q E s := by
  obtain ⟨hfw0, t₁, t₂, t₃, t₄, e⟩ := hW
  have e' := (N _ (.tail _ (.head _))).1
  rw [e] at e'
  cases e'
  obtain ⟨hdx0, ⟨u₁, u₂, u₃, e2⟩, hy0⟩ := id hdd
  have e2' := (N _ (.tail _ (.tail _ (.tail _ (.head _))))).1
  rw [e2] at e2'
  cases e2'
  obtain ⟨rest, NR, hl, hall⟩ := ledger_all h₀ s.heap L [fw, df, x, dx, y]
  have N' : News h₀ L s.heap ((fw, instObj 53 df) :: (df, _) :: (x, instObj 365 dx) :: (dx, _) :: (y, baObj c) :: rest) := List.forall_mem_cons.mpr ⟨N _ (.head _), List.forall_mem_cons.mpr ⟨N _ (.tail _ (.head _)), List.forall_mem_cons.mpr ⟨N _ (.tail _ (.tail _ (.head _))), List.forall_mem_cons.mpr ⟨N _ (.tail _ (.tail _ (.tail _ (.head _)))), List.forall_mem_cons.mpr ⟨N _ (.tail _ (.tail _ (.tail _ (.tail _ (.head _))))), NR⟩⟩⟩⟩⟩
  have Ns := And.intro F N
  clear N
  have TR := topRead_of T
  refine' owit_next (x := fw) ?F X ?I ?hs ?hf ?_
  case F => exact F
  case I => k_inst
  case hs => k_is
  case hf => k_is
  refine wpAny_call ?_
  k_enter
  k_steps
  rename (hd.heap_39 w.params).In _ => X2
  rename Top p loose mean mg mb _ => T2
  rename Below _ _ _ _ => B2
  rename Fr _ _ _ _ => F2
  rename News _ _ _ _ => N2
  refine Stop.mk (wpAny_call (readE_callA (k := (k : Int)) rfl rfl X2 T2 B2 F2 (show dep + 1 < 490 from Nat.lt_of_le_of_lt hdep (by decide)) (show un + 3 < 900 from Nat.lt_of_lt_of_le (Nat.add_lt_add_right hun 3) (by decide)) (List.forall_mem_cons.mpr ⟨N2 _ (.tail _ (.tail _ (.head _))), List.forall_mem_cons.mpr ⟨N2 _ (.tail _ (.tail _ (.tail _ (.head _)))), List.forall_mem_cons.mpr ⟨N2 _ (.tail _ (.tail _ (.tail _ (.tail _ (.head _))))), List.forall_mem_nil _⟩⟩⟩) ⟨(N2 _ (.tail _ (.tail _ (.head _)))).1, ⟨u₁, u₂, u₃, (N2 _ (.tail _ (.tail _ (.tail _ (.head _))))).1⟩, (N2 _ (.tail _ (.tail _ (.tail _ (.tail _ (.head _)))))).1⟩ (by omega) (by omega) hz fun h3 t3 u hk3 => ?_))
  dsimp only at hk3 ⊢
  have F3 := frGrow F2 hk3
  have N3 := newsGrow N2 hk3
  clear F2 N2
  have z1 : (#[] : Array UInt8).size ≤ 16777216 := by decide
  have z2 : (((#[] : Array UInt8).size : Int) != 0) = false := by decide
  k_steps
  rename RaisedK _ _ _ _ _ _ _ _ => rkX
  refine stop_at rkX rfl (by assumption) (by assumption) (by first | rfl | kernel_rfl | decide) fun F5 N5 => ?_
  refine post _ _ F5 fun b' o hb e3 => ?_
  by_cases q1 : b' = fw
  · subst q1; exact (hfw0.symm.trans e3) ▸ (N5 (b', instObj 53 df) (by k_mem)).1
  by_cases q2 : b' = df
  · subst q2; exact (e.symm.trans e3) ▸ (N5 (b', _) (by k_mem)).1
  by_cases q3 : b' = x
  · subst q3; exact (hdx0.symm.trans e3) ▸ (N5 (b', _) (by k_mem)).1
  by_cases q4 : b' = dx
  · subst q4; exact (e2.symm.trans e3) ▸ (N5 (b', _) (by k_mem)).1
  by_cases q5 : b' = y
  · subst q5; exact (hy0.symm.trans e3) ▸ (N5 (b', _) (by k_mem)).1
  cases c0 : h₀.get? b' with
  | some o' =>
    have := F.keep _ _ c0
    rw [e3] at this; cases this
    exact F5.keep _ _ c0
  | none => exact (N5 (b', o) (by
      have hm : (b', o) ∈ rest := hall b' o e3 hb c0 (by simp [q1, q2, q3, q4, q5])
      simp [hm])).1
end Mine
end
section -- L1s
open PySem PySem.W PyProof.Rows PySem.Calls
set_option maxRecDepth 100000
namespace Mine
set_option maxHeartbeats 4000000
local macro_rules | `(tactic| k_room) => `(tactic| ((try simp only [depth_mark, depth_under_make, depth_under_kw, depth_in1, depth_deeper, depth_caller]); (first | ((show _ + _ < 1000); omega) | ((show _ < 1000); omega))))
local macro_rules | `(tactic| walk_at "call builtin:hasattr") => `(tactic| (k_here; k_dflt (refine' has_bound ?k1 ?k2 ?k3 ?k4 ?k5 ?k6 ?k7 ?k8 ?k9 ?k10 ?k11 ?k12 ?k13 ?_; (case k4 => k_inst); (case k1 => k_asm); (case k2 => k_asm); (case k3 => k_asm); (case k5 => k_is); (case k6 => k_is); (case k7 => k_is); (case k8 => k_is); (case k9 => k_is); (case k10 => k_is); (case k11 => decide +kernel); (case k12 => k_get); (case k13 => k_is)); intro q' h' F' N' l1; (try k_lt l1); (try k_sweep)))
theorem iterI_call {w : World} {p : Program} {loose : List Str} {mg mb : Str → Option Value} {A₀ : Around} {base h₀ : Heap} {outer : List Env} {L : Addr} {m : Str → Option Value} {env : Env} {mean : ExcName → Option Value} {s : Shared} {dep un : Nat} {gs : Option (List Code)}
    {R : Result → Shared → Prop} {fw : Addr} (hf : env.frame = some L) (hke : env.scope.kind = .function)
    (X : (hd.heap_39 w.params).In h₀) (T : Top p loose mean mg mb h₀) (B : Below A₀ base outer h₀) (F : Fr h₀ L s.heap m) (hdep : dep < 490) (hun : un < 900)
    (post : ∀ h' t', (∀ b o, s.heap.get? b = some o → h'.get? b = some o) → R (.ok (.ret (.ref fw))) { s with heap := h', toks := t' }) :
    codeAny (model PySem.Challenge.rw_kn0093_01.row.prog w) (AR dep (env :: outer) gs un) (.call (.ref 43) ⟨[.ref fw], []⟩) R s := by
  have X' := X.keeps F.keep
  refine' a_defF (news := []) (env := env)
    B F (fun _ hp => nomatch hp) T.nolimit ?hA hf hke X' ?ho ?hcd ?hroom ?hb ?hloc (fun g L' h₁ hk F₁ N₁ B₁ st hlt => ?_) ?hcell ?c1 ?c2 ?c3
  case hA => rfl
  case ho => k_is
  case hcd => k_is
  case hroom => k_room
  case hb => first | exact BindsTo.of_eq rfl | exact binds_K X' rfl (by k_is) rfl rfl rfl
  case hloc => exact locs rfl
  case hcell => decide
  case c1 => rfl
  case c2 => rfl
  case c3 => rfl
  have X₁ := X.keeps st
  have T₁ := T.keeps st
  have TR₁ := topRead_of T₁
  k_steps
  dsimp only
  exact post _ _ (keepOf hk F₁)
theorem iterF {w : World} {p : Program} {loose : List Str} {mg mb : Str → Option Value} {A₀ : Around} {base h₀ : Heap} {outer : List Env} {L : Addr} {m : Str → Option Value} {env : Env} {mean : ExcName → Option Value} {s : Shared} {dep un : Nat} {gs : Option (List Code)}
    {Q : Value → Shared → Prop} {E : Value → Shared → Prop} {fw df : Addr} {ddf : Obj} (hf : env.frame = some L) (hke : env.scope.kind = .function)
    (X : (hd.heap_39 w.params).In h₀) (T : Top p loose mean mg mb h₀) (B : Below A₀ base outer h₀) (F : Fr h₀ L s.heap m) (N : News h₀ L s.heap [(fw, instObj 53 df), (df, ddf)]) (hdep : dep < 490) (hun : un < 900)
    (post : ∀ h' t', (∀ b o, s.heap.get? b = some o → h'.get? b = some o) → Q (.ref fw) { s with heap := h', toks := t' }) :
    wpAny (model PySem.Challenge.rw_kn0093_01.row.prog w) (AR dep (env :: outer) gs un) (pyIter (.ref fw)) Q E s := by
  refine' owit_iter (x := fw) F X ?I ?hs ?hf (wpAny_call (iterI_call hf hke X T B F hdep hun fun h' t' k => ?_))
  case I => k_inst
  case hs => k_is
  case hf => k_is
  have F' := frGrow F k
  have N' := newsGrow N k
  refine' owit_it (x := fw) F' X ?I2 ?hs2 (post h' t' k)
  case I2 => exact InstAt.of_news N' (.head _) (.tail _ (.head _))
  case hs2 => k_is
theorem wrap_make {w : World} {p : Program} {loose : List Str} {mg mb : Str → Option Value} {A₀ : Around} {base h₀ : Heap} {outer : List Env} {L : Addr} {m : Str → Option Value} {cn : Str} {ns : List (Str × NameKind)} {mo : List (Str × Const)} {a : Addr} {ccd : Value} {mean : ExcName → Option Value} {s : Shared} {dep un : Nat} {gs : Option (List Code)}
    {Q : Value → Shared → Prop} {E : Value → Shared → Prop} {x dx y : Addr} {dd : Obj} {c : Array UInt8} {k n : Nat} {t : Tok}
    (X : (hd.heap_39 w.params).In h₀) (T : Top p loose mean mg mb h₀) (B : Below A₀ base outer h₀) (F : Fr h₀ L s.heap m) (hdep : dep < 480) (hun : un < 880)
    (N : News h₀ L s.heap [(x, instObj 365 dx), (dx, dd), (y, baObj c)]) (hdd : FreshB w.params s.heap x dx y c (n : Int)) (hk0 : 0 < k) (hk1 : k ≤ 100)
    (post : ∀ fw df q h' t', Fr h₀ L h' m → (∀ b o, b ≠ L → s.heap.get? b = some o → h'.get? b = some o) → WrapAt w.params h' fw df x k q → h₀.get? fw = none → h₀.get? df = none → fw ≠ L → df ≠ L → s.heap.get? fw = none → s.heap.get? df = none → Q (.ref fw) { s with heap := h', toks := t' }) :
    wpAny (model PySem.Challenge.rw_kn0093_01.row.prog w) (AR dep (envOfC cn ⟨.function, ns, false, false, mo⟩ L a ccd :: outer) gs un) (call (.ref 53) [.ref x, .int (k : Int) t]) Q E s := by
  obtain ⟨hdx0, ⟨u₁, u₂, u₃, e2⟩, hy0⟩ := id hdd
  have e2' := (N _ (.tail _ (.head _))).1
  rw [e2] at e2'
  cases e2'
  obtain ⟨rest, NR, hl, hall⟩ := ledger_all h₀ s.heap L [x, dx, y]
  have N' : News h₀ L s.heap ((x, instObj 365 dx) :: (dx, _) :: (y, baObj c) :: rest) := List.forall_mem_cons.mpr ⟨N _ (.head _), List.forall_mem_cons.mpr ⟨N _ (.tail _ (.head _)), List.forall_mem_cons.mpr ⟨N _ (.tail _ (.tail _ (.head _))), NR⟩⟩⟩
  clear N
  have TR := topRead_of T
  refine' call_cls (fI := 36) F X N' ?k4 ?k5 ?k6 (fun fw df h₁ F₁ N₁ l₁ l₂ => ?_)
  case k4 => k_is
  case k5 => k_is
  case k6 => k_is
  have nz : ∀ b, @LE.le Nat _ df b → s.heap.get? b = none ∨ b = L ∨ ∃ o, h₀.get? b = some o := fun b hb => by
    cases c0 : s.heap.get? b with
    | none => exact .inl rfl
    | some o =>
      by_cases hL : b = L
      · exact .inr (.inl hL)
      · cases c1 : h₀.get? b with
        | some o' => exact .inr (.inr ⟨o', rfl⟩)
        | none =>
          have hm : @LT.lt Nat _ b df := by
            by_cases q1 : b = x
            · subst q1; exact l₁ _ (.head _)
            by_cases q2 : b = dx
            · subst q2; exact l₁ _ (.tail _ (.head _))
            by_cases q3 : b = y
            · subst q3; exact l₁ _ (.tail _ (.tail _ (.head _)))
            exact l₁ _ (.tail _ (.tail _ (.tail _ (hall b o c0 hL c1 (by simp [q1, q2, q3])))))
          exact absurd (Nat.lt_of_lt_of_le hm hb) (Nat.lt_irrefl _)
  have hfw := N₁ _ (.head _)
  have hdf := N₁ _ (.tail _ (.head _))
  have nfw : s.heap.get? fw = none := (nz fw (Nat.le_of_lt l₂)).resolve_right fun h => h.elim hfw.2.1 fun ⟨o, q⟩ => by
    have := hfw.2.2
    rw [q] at this; cases this
  have ndf : s.heap.get? df = none := (nz df (Nat.le_refl _)).resolve_right fun h => h.elim hdf.2.1 fun ⟨o, q⟩ => by
    have := hdf.2.2
    rw [q] at this; cases this
  dsimp only at hfw hdf
  have l1 := l₁
  k_lt l1
  have l₂' := ltN l₂
  have F₀ := And.intro F trivial
  clear F N'
  k_enter
  k_steps
  rename Fr h₀ L _ _ => F5
  rename News h₀ L _ _ => N5
  dsimp only at F5 N5
  have keep5 := newsSub (l' := _ :: _ :: _ :: rest) N5 fun p hp => .tail _ (.tail _ (.tail _ (.tail _ hp)))
  refine post fw df _ _ _ F5 (fun b o hb e => ?_) ⟨(N5 (fw, instObj 53 df) (by k_mem)).1, _, _, _, _, (N5 (df, _) (.tail _ (.tail _ (.tail _ (.head _))))).1⟩ hfw.2.2 hdf.2.2 hfw.2.1 hdf.2.1 nfw ndf
  cases c1 : h₀.get? b with
  | some o' =>
    have := F₀.1.keep _ _ c1
    rw [e] at this; cases this
    exact F5.keep _ _ c1
  | none =>
    by_cases q1 : b = x
    · subst q1; rw [hdx0] at e; cases e; exact (keep5 _ (.head _)).1
    by_cases q2 : b = dx
    · subst q2; rw [e2] at e; cases e; exact (keep5 _ (.tail _ (.head _))).1
    by_cases q3 : b = y
    · subst q3; rw [hy0] at e; cases e; exact (keep5 _ (.tail _ (.tail _ (.head _)))).1
    exact (keep5 _ (.tail _ (.tail _ (.tail _ (hall b o e hb c1 (by simp [q1, q2, q3])))))).1
end Mine
end
section -- L1Q
open PySem PySem.W PyProof.Rows PySem.Calls
set_option maxRecDepth 100000
namespace Mine
set_option maxHeartbeats 4000000
def np (c : Array UInt8) (k : Nat) : Nat := (c.size + k - 1) / k
def pc (c : Array UInt8) (k j : Nat) : Array UInt8 := c.extract (min (j * k) c.size) (min (j * k + k) c.size)
theorem np_lt {c : Array UInt8} {k j : Nat} (hk : 0 < k) (h : j < np c k) : j * k < c.size := by
  unfold np at h
  have h1 : (j + 1) * k ≤ c.size + k - 1 := by
    have := (Nat.le_div_iff_mul_le hk).mp (show j + 1 ≤ (c.size + k - 1) / k from h)
    exact this
  rw [Nat.add_mul, Nat.one_mul] at h1
  omega
theorem np_end {c : Array UInt8} {k : Nat} (hk : 0 < k) : c.size ≤ np c k * k := by
  unfold np
  have h1 := Nat.div_add_mod (c.size + k - 1) k
  have h2 := Nat.mod_lt (c.size + k - 1) hk
  rw [Nat.mul_comm] at h1
  omega
def WrapJ (w : World) (g : Heap) (L : Addr) (m : Str → Option Value) (fw df x dx y q : Addr) (c : Array UInt8) (k : Nat) (i : Nat) (h : Heap) : Prop :=
  Fr g L h m ∧ WrapAt w.params h fw df x k q ∧ FreshB w.params h x dx y c ((min (i * k) c.size : Nat) : Int)
theorem wrap_own {w : World} {p : Program} {loose : List Str} {mg mb : Str → Option Value} {A₀ : Around} {h₀ : Heap} {outer : List Env} {L : Addr} {m : Str → Option Value} {cn : Str} {ns : List (Str × NameKind)} {mo : List (Str × Const)} {a : Addr} {ccd : Value} {mean : ExcName → Option Value} {s : Shared} {dep un : Nat} {gs : Option (List Code)}
    {fw df x dx y q : Addr} {c : Array UInt8} {k : Nat}
    (X : (hd.heap_39 w.params).In h₀) (T : Top p loose mean mg mb h₀) (B : Below A₀ h₀ outer h₀) (hdep : dep < 480) (hun : un < 880)
    (J0 : WrapJ w h₀ L m fw df x dx y q c k 0 s.heap) (nfw : fw ≠ L ∧ h₀.get? fw = none) (ndf : df ≠ L ∧ h₀.get? df = none) (nx : x ≠ L ∧ h₀.get? x = none) (ndx : dx ≠ L ∧ h₀.get? dx = none) (ny : y ≠ L ∧ h₀.get? y = none) (nfd : df ≠ dx) (nfx : fw ≠ x)
    (hk0 : 0 < k) (hk1 : k ≤ 100) (hz : c.size ≤ 16777216) :
    OwnIt PySem.Challenge.rw_kn0093_01.row.prog w (AR dep (envOfC cn ⟨.function, ns, false, false, mo⟩ L a ccd :: outer) gs un) fw L m [dx] (np c k) (fun j v => ∃ u, v = .bytes (pc c k j) u) (WrapJ w h₀ L m fw df x dx y q c k) s := by
  have news : ∀ {i h}, WrapJ w h₀ L m fw df x dx y q c k i h → ∃ ddf dd, News h₀ L h [(fw, instObj 53 df), (df, ddf), (x, instObj 365 dx), (dx, dd), (y, baObj c)] := by
    rintro i h ⟨F, ⟨w1, t1, t2, t3, t4, w2⟩, b1, ⟨u1, u2, u3, b2⟩, b3⟩
    exact ⟨_, _, List.forall_mem_cons.mpr ⟨⟨w1, nfw⟩, List.forall_mem_cons.mpr ⟨⟨w2, ndf⟩, List.forall_mem_cons.mpr ⟨⟨b1, nx⟩, List.forall_mem_cons.mpr ⟨⟨b2, ndx⟩, List.forall_mem_cons.mpr ⟨⟨b3, ny⟩, List.forall_mem_nil _⟩⟩⟩⟩⟩⟩
  have moved : ∀ {i h h'}, WrapJ w h₀ L m fw df x dx y q c k i h → (∀ b o, b < s.heap.objs.size → h.get? b = some o → h'.get? b = some o) → WrapJ w h₀ L m fw df x dx y q c k i h' := by
    rintro i h h' ⟨F, ⟨w1, t1, t2, t3, t4, w2⟩, b1, ⟨u1, u2, u3, b2⟩, b3⟩ kk
    obtain ⟨F0, ⟨v1, r1, r2, r3, r4, v2⟩, d1, ⟨z1, z2, z3, d2⟩, d3⟩ := J0
    refine ⟨⟨F.ns.at' fun o e => kk _ _ ?_ e, fun b o e => kk b o (Heap.lt_size (F0.keep _ _ e)) (F.keep b o e), F.above⟩, ⟨kk _ _ (Heap.lt_size v1) w1, t1, t2, t3, t4, kk _ _ (Heap.lt_size v2) w2⟩, kk _ _ (Heap.lt_size d1) b1, ⟨u1, u2, u3, kk _ _ (Heap.lt_size d2) b2⟩, kk _ _ (Heap.lt_size d3) b3⟩
    obtain ⟨oL, _, _, hL, _⟩ := F0.ns
    exact Heap.lt_size hL
  have hdx0 : ∃ o, s.heap.get? dx = some o := by
    obtain ⟨_, _, _, ⟨_, _, _, d2⟩, _⟩ := J0
    exact ⟨_, d2⟩
  refine ⟨fun hm => ndx.1 (List.mem_singleton.mp hm).symm, fun b hb => ?_, ?_, fun i h h' hJ kk => moved hJ kk, ?_, ?_⟩
  · obtain rfl := List.mem_singleton.mp hb
    obtain ⟨o, ho⟩ := hdx0
    exact Heap.lt_size ho
  · intro h tk Q E hJ hq
    obtain ⟨ddf, dd, N⟩ := news hJ
    exact iterF (s := { s with heap := h, toks := tk }) (env := envOfC cn ⟨.function, ns, false, false, mo⟩ L a ccd) rfl rfl X T B hJ.1 (List.forall_mem_cons.mpr ⟨N _ (.head _), List.forall_mem_cons.mpr ⟨N _ (.tail _ (.head _)), List.forall_mem_nil _⟩⟩) (by omega) (by omega) fun h' t' kk => hq h' t' kk
  · intro i h tk Q E hi hJ hq
    obtain ⟨ddf, dd, N⟩ := news hJ
    have hlt := np_lt hk0 hi
    have e1 : min (i * k) c.size = i * k := by omega
    have hB := hJ.2.2
    rw [e1] at hB
    refine' owit_next (x := fw) hJ.1 X ?I ?hs ?hf (wpAny_call (nextI_call (s := { s with heap := h, toks := tk }) (env := envOfC cn ⟨.function, ns, false, false, mo⟩ L a ccd) (n := i * k) rfl rfl X T B hJ.1 hdep (by omega) N hJ.2.1 hB hlt hk0 hk1 hz nfd nfx fun h' t' u kk hB' => ?_))
    case I => exact InstAt.of_news N (.head _) (.tail _ (.head _))
    case hs => k_is
    case hf => k_is
    dsimp only at kk
    refine hq _ h' t' ⟨u, ?_⟩ ⟨?_, ?_, ?_⟩ (fun b o hb e => kk b o (fun z => hb (by simp [z])) e)
    · unfold pc; rw [e1]
    · exact frBut hJ.1 kk ndx.1 ndx.2
    · obtain ⟨w1, t1, t2, t3, t4, w2⟩ := hJ.2.1
      refine ⟨kk _ _ ?_ w1, t1, t2, t3, t4, kk _ _ nfd w2⟩
      obtain ⟨_, ⟨_, _, _, b2⟩, _⟩ := hB
      exact ne_cls w1 b2 (show ¬ (Value.ref 53 = Value.type "dict") from by decide)
    · have e2 : (i + 1) * k = i * k + k := by rw [Nat.add_mul, Nat.one_mul]
      rw [e2]; exact hB'
  · intro h tk Q E hJ hq
    obtain ⟨ddf, dd, N⟩ := news hJ
    have hB := hJ.2.2
    have e1 : min (np c k * k) c.size = c.size := by have := np_end (c := c) hk0; omega
    rw [e1] at hB
    exact nextD (s := { s with heap := h, toks := tk }) X T B hJ.1 hdep (by omega) N hJ.2.1 hB hk0 hk1 hz fun h' t' F' kk => hq h' t' kk fun _ => F'.ns
end Mine
end
section -- L1R
open PySem PySem.W PyProof.Rows PySem.Calls
set_option maxRecDepth 100000
namespace Mine
set_option maxHeartbeats 4000000
local macro_rules | `(tactic| k_room) => `(tactic| ((try simp only [depth_mark, depth_under_make, depth_under_kw, depth_in1, depth_deeper, depth_caller]); (first | ((show _ + _ < 1000); omega) | ((show _ < 1000); omega))))
local macro_rules | `(tactic| k_all) => `(tactic| assumption)
local macro_rules | `(tactic| walk_at "subscriptTail") => `(tactic| (k_here; (with_reducible show wpAny _ _ (subscriptTail _ _ (Value.ref _) (Value.int _ _)) _ _ _); k_dflt (refine' item_lst ?N ?m ?h0 ?h1 ?hx ?_; (case N => k_asm); (case m => k_mem); (case h0 => with_reducible assumption); (case h1 => with_reducible assumption); (case hx => with_reducible assumption))))
local macro_rules | `(tactic| walk_at "getItem ref str") => `(tactic| (k_here; k_dflt (refine kdt_getItem (knd := PySem.strKind _ _) (by k_asm) (by k_mem) (by k_asm) (strKind_is _ _ _ _) (by assumption) ?_)))
local macro_rules | `(tactic| walk_at "call ref") => `(tactic| (k_here; refine Stop.out ?_))
theorem CloSt.rest {w : World} {g : Heap} {L lE lI lR lO lS : Addr} {h h' : Heap} {m₀ m' : Str → Option Value} {P : Pop} {o2 : Obj} {nE nI nR nO nS : Nat} {vsI vsR vsO vsS : List Value} (hS : CloSt w g L lE lI lR lO lS h m₀ P o2 nE nI nR nO nS vsI vsR vsO vsS) {rest : List (Addr × Obj)}
    (F1 : Fr g L h' m') (N1 : News g L h' [(lS, listO vsS.toArray nS), (lO, listO vsO.toArray nO), (lR, listO vsR.toArray nR), (lI, listO vsI.toArray nI), (lE, listO (P.es.map Value.ref).toArray nE), (L + 1 + 1, o2)]) (Nr : ∀ p ∈ rest, h'.get? p.1 = some p.2)
    (hall : ∀ b o, h.get? b = some o → b ≠ L → g.get? b = none → b ∉ [lS, lO, lR, lI, lE, L + 1 + 1] → (b, o) ∈ rest) : ∀ b o, h.get? b = some o → b ≠ L → h'.get? b = some o := fun b o e c1 => by
  cases c0 : g.get? b with
  | some o' =>
    have := hS.fr.keep _ _ c0
    rw [e] at this; cases this
    exact F1.keep _ _ c0
  | none =>
    by_cases hm : b ∈ [lS, lO, lR, lI, lE, L + 1 + 1]
    · exact ledger_same hS.news N1 hm e
    · exact Nr (b, o) (hall b o e c1 c0 hm)
theorem clo_stream {w : World} {p : Program} {loose : List Str} {mg mb : Str → Option Value} {mean : ExcName → Option Value} {s : Shared} {Q : Flow → Shared → Prop} {E : Value → Shared → Prop} {L lE lI lR lO lS : Addr} {h : Heap} {tk : Nat}
    {i : Nat} {ti : Tok} {m₀ : Str → Option Value} {P : Pop} {o2 : Obj} {nE nI nR nO nS : Nat} {vsI vsR vsO vsS : List Value} {st : Stmt} (hst : st = cT w 1)
    (X : (hd.heap_39 w.params).In s.heap) (T : Top p loose mean mg mb s.heap)
    (hS : CloSt w s.heap L lE lI lR lO lS h m₀ P o2 nE nI nR nO nS vsI vsR vsO vsS) (hi2 : o2.data = .cell (some (.int (i : Int) ti)))
    (hi : i < P.es.length)
    (post : ∀ h' tk' j sa, P.ix[i]? = some j → P.sts[j]? = some sa → CloSt w s.heap L lE lI lR lO lS h' (fun y => if y = "stream" then some (.ref sa.x) else m₀ y) P o2 nE nI nR nO nS vsI vsR vsO vsS → Rest P L h h' → Q .next { s with heap := h', toks := tk' }) :
    wpAny (model PySem.Challenge.rw_kn0093_01.row.prog w) (callerA.deeper (lawE w L)) (exec st (lawE w L)) Q E { s with heap := h, toks := tk } := by
  unfold lawE
  obtain ⟨sc, hsc⟩ : ∃ sc, sc = scopeAt 626 w.params := ⟨_, rfl⟩
  rw [← hsc]
  conv at hsc => rhs; whnf
  subst hsc
  conv at hst => rhs; whnf
  subst hst
  have F := hS.fr
  have hfew := hS.few
  obtain ⟨a, ja, sa, ea, ra, oa, kva, Sa, ha, hja, hsa, hea, hra, hao, hoda, _, _, _, _, _, hvia, hvea⟩ := hS.core.pick (k := (i : Int)) (by omega) (by omega)
  have na := hS.core.newE a (List.mem_of_getElem? ha)
  obtain ⟨rest, N0, ⟨hr1, hr2, hr3, hr4, hr5, hr6⟩, hall, hK⟩ := hS.open
  have N := newsMore N0 hao ⟨na.1, na.2.1⟩
  clear N0
  have TR := topRead_of T
  have hxa : (P.es.map Value.ref).toArray[((i : Nat) : Int).toNat]? = some (.ref a) := by simpa using ha
  have i0 : (0 : Int) ≤ (i : Int) := by omega
  have i1 : (i : Int) < 16777216 := by omega
  have la := na.2.2
  k_steps
  rename Fr s.heap L _ _ => F1
  rename News s.heap L _ _ => N1
  have k1 := hK _ _ F1 (fun p hp => (N1 p (by repeat (first | exact hp | refine List.mem_cons_of_mem _ ?_))).1)
  have F1' := frCongr F1 (lawM_put (nm := "stream") (by decide))
  have N1' := newsSub N1 (l' := [(lS, listO vsS.toArray nS), (lO, listO vsO.toArray nO), (lR, listO vsR.toArray nR), (lI, listO vsI.toArray nI), (lE, listO (P.es.map Value.ref).toArray nE), (L + 1 + 1, o2)]) (by repeat (first | exact List.forall_mem_nil _ | refine List.forall_mem_cons.mpr ⟨by k_mem, ?_⟩))
  exact post _ _ ja sa (by simpa using hja) hsa { hS with fr := F1', news := N1', core := hS.core.to k1.2 k1.1 } (fun b o e c1 _ _ => hS.rest F1 N1' (fun p hp => (N1 p (by repeat (first | exact hp | refine List.mem_cons_of_mem _ ?_))).1) hall b o e c1)
end Mine
end
section -- L1S
open PySem PySem.W PyProof.Rows PySem.Calls
set_option maxRecDepth 100000
namespace Mine
set_option maxHeartbeats 4000000
local macro_rules | `(tactic| k_room) => `(tactic| ((try simp only [depth_mark, depth_under_make, depth_under_kw, depth_in1, depth_deeper, depth_caller]); (first | ((show _ + _ < 1000); omega) | ((show _ < 1000); omega))))
local macro_rules | `(tactic| k_all) => `(tactic| assumption)
local macro_rules | `(tactic| walk_at "call ref") => `(tactic| (k_here; refine Stop.out ?_))
theorem clo_pieces {w : World} {p : Program} {loose : List Str} {mg mb : Str → Option Value} {mean : ExcName → Option Value} {s : Shared} {A₀ : Around} {Q : Flow → Shared → Prop} {L lE lI lR lO lS : Addr} {h : Heap} {tk : Nat}
    {i j : Nat} {ti : Tok} {m₀ : Str → Option Value} {P : Pop} {o2 : Obj} {nE nI nR nO nS : Nat} {vsI vsR vsO vsS : List Value} {sa : Stm} {s2 s3 : Stmt} {rs : List Stmt} (e2 : s2 = cT w 2) (e3 : s3 = cT w 3)
    (X : (hd.heap_39 w.params).In s.heap) (T : Top p loose mean mg mb s.heap) (B : Below A₀ s.heap [] s.heap)
    (hS : CloSt w s.heap L lE lI lR lO lS h (fun y => if y = "stream" then some (.ref sa.x) else m₀ y) P o2 nE nI nR nO nS vsI vsR vsO vsS) (hi2 : o2.data = .cell (some (.int (i : Int) ti)))
    (hi : i < P.es.length) (hsa : P.sts[j]? = some sa)
    (post : ∀ (h' : Heap) (tk' : Nat) (D : Addr) (vs : List Value) (c' : Nat), CloSt w s.heap L lE lI lR lO lS h' (fun y => if y = "pieces" then some (.ref D) else if y = "stream" then some (.ref sa.x) else m₀ y) P o2 nE nI nR nO nS vsI vsR vsO vsS → Rest P L h h' → h'.get? D = some (listO vs.toArray c') → h.get? D = none → vs.length = np sa.b (1 + i) →
      (∀ (jj : Nat) (v : Value), vs[jj]? = some v → ∃ u, v = .bytes (pc sa.b (1 + i) jj) u) → wpG (model PySem.Challenge.rw_kn0093_01.row.prog w) (callerA.deeper (lawE w L)) (execs rs (lawE w L)) Q (fun _ _ => False) { s with heap := h', toks := tk' }) :
    wpG (model PySem.Challenge.rw_kn0093_01.row.prog w) (callerA.deeper (lawE w L)) (execs (s2 :: s3 :: rs) (lawE w L)) Q (fun _ _ => False) { s with heap := h, toks := tk } := by
  unfold lawE at post ⊢
  obtain ⟨sc, hsc⟩ : ∃ sc, sc = scopeAt 626 w.params := ⟨_, rfl⟩
  rw [← hsc] at post ⊢
  conv at hsc => rhs; whnf
  subst hsc
  conv at e2 => rhs; whnf
  subst e2
  conv at e3 => rhs; whnf
  subst e3
  have F := hS.fr
  have hm := List.mem_of_getElem? hsa
  obtain ⟨fx, ⟨u₁, u₂, u₃, fdx⟩, fy⟩ := id (hS.core.str sa hm)
  obtain ⟨nx, ndx, ny⟩ := hS.core.newS sa hm
  have hfew := hS.few
  have hsz := hS.szS sa hm
  have hPx : P.has sa.x := .inr (.inl ⟨sa, hm, .inl rfl⟩)
  have hPd : P.has sa.dx := .inr (.inl ⟨sa, hm, .inr (.inl rfl)⟩)
  have hPy : P.has sa.y := .inr (.inl ⟨sa, hm, .inr (.inr rfl)⟩)
  have N := newsMore (newsMore (newsMore hS.news fy ny) fdx ndx) fx nx
  have TR := topRead_of T
  have Z := And.intro F N
  refine g_execs (g_Expr (g_CallMeth (lift ?_)))
  k_steps
  refine lift ?_
  k_steps
  refine g_callWith rfl (g_args (g_spliced (g_eq (if_neg Bool.false_ne_true) (lift ?_))))
  k_steps
  refine g_spliced0 ?_
  obtain ⟨F, N⟩ := Z
  refine ⟨⟨_, .inl rfl, Looks.of_peek (X.keeps F.keep) (by kernel_rfl)⟩, g_call (liftC (seekB_call (env := envOfC _ _ L 626 (.ref 625)) rfl rfl X T B F (by decide) (by decide) (List.forall_mem_cons.mpr ⟨⟨fx, nx⟩, List.forall_mem_cons.mpr ⟨⟨fdx, ndx⟩, List.forall_mem_cons.mpr ⟨⟨fy, ny⟩, List.forall_mem_nil _⟩⟩⟩) ⟨fx, ⟨u₁, u₂, u₃, fdx⟩, fy⟩ fun v h2 t2 hk2 hB2 => ?_))⟩
  dsimp only at hk2 ⊢
  refine lift (wpAny_dropValue ?_)
  dsimp only
  have F2 := frBut F hk2 ndx.1 ndx.2
  have N2 : News s.heap L h2 [(lS, listO vsS.toArray nS), (lO, listO vsO.toArray nO), (lR, listO vsR.toArray nR), (lI, listO vsI.toArray nI), (lE, listO (P.es.map Value.ref).toArray nE), (L + 1 + 1, o2)] := fun q hq => ⟨hk2 _ _ (fun e => hS.sep _ hPd (e ▸ List.mem_map_of_mem (f := (·.1)) hq)) (hS.news q hq).1, (hS.news q hq).2⟩
  clear F N
  have F2s := And.intro F2 N2
  refine g_execs (lift (Assign_own (by with_unfolding_all rfl) (by with_unfolding_all rfl) (by decide) rfl (by decide) (by rfl) (by decide) rfl rfl ?_))
  k_steps
  refine Stop.mk ?_
  obtain ⟨F2, N2⟩ := F2s
  have ek : (1 : Int) + (i : Int) = ((1 + i : Nat) : Int) := by omega
  rw [ek]
  obtain ⟨gx, ⟨v₁, v₂, v₃, gdx⟩, gy⟩ := id hB2
  refine wrap_make (s := { s with heap := h2, toks := _ }) (k := 1 + i) (n := 0) X T B F2 (by decide) (by decide) (List.forall_mem_cons.mpr ⟨⟨gx, nx⟩, List.forall_mem_cons.mpr ⟨⟨gdx, ndx⟩, List.forall_mem_cons.mpr ⟨⟨gy, ny⟩, List.forall_mem_nil _⟩⟩⟩) hB2 (by omega) (by omega)
    fun fw df q h3 t3 F3 k3 hW gfw gdf nfL ndL dfw ddf => ?_
  dsimp only at k3 dfw ddf ⊢
  obtain ⟨hW1, w1, w2, w3, w4, hW2⟩ := id hW
  refine iterF (s := { s with heap := h3, toks := t3 }) (env := envOfC _ _ L 626 (.ref 625)) rfl rfl X T B F3 (List.forall_mem_cons.mpr ⟨⟨hW1, nfL, gfw⟩, List.forall_mem_cons.mpr ⟨⟨hW2, ndL, gdf⟩, List.forall_mem_nil _⟩⟩) (by decide) (by decide) fun h4 t4 k4 => ?_
  dsimp only at k4 ⊢
  have F4 := frGrow F3 k4
  have B3 : FreshB w.params h3 sa.x sa.dx sa.y sa.b 0 := hB2.mv fun b hb o e => k3 b o (by rcases hb with rfl | rfl | rfl; exact nx.1; exact ndx.1; exact ny.1) e
  have B4 : FreshB w.params h4 sa.x sa.dx sa.y sa.b 0 := B3.mv fun b _ o e => k4 b o e
  have J0 : WrapJ w s.heap L _ fw df sa.x sa.dx sa.y q sa.b (1 + i) 0 h4 := ⟨F4, ⟨k4 _ _ hW1, w1, w2, w3, w4, k4 _ _ hW2⟩, by simpa using B4⟩
  have nfx : fw ≠ sa.x := fun e => by rw [e, gx] at dfw; cases dfw
  have nfd : df ≠ sa.dx := fun e => by rw [e, gdx] at ddf; cases ddf
  have k24 : ∀ b o, b ≠ L → h2.get? b = some o → h4.get? b = some o := fun b o hb e => k4 b o (k3 b o hb e)
  refine Stop.mk ⟨fw, [sa.dx], np sa.b (1 + i), fun jj v => ∃ u, v = .bytes (pc sa.b (1 + i) jj) u, WrapJ w s.heap L _ fw df sa.x sa.dx sa.y q sa.b (1 + i), _, rfl, wrap_own (s := { s with heap := h4, toks := t4 }) X T B (by decide) (by decide) J0 ⟨nfL, gfw⟩ ⟨ndL, gdf⟩ nx ndx ny nfd nfx (by omega) (by omega) (by omega), ?_, J0, F4.ns, ?_⟩
  · rw [sizeLine_eq]
    unfold np
    exact Nat.le_trans (Nat.div_le_self _ _) (by omega)
  · intro D h5 t5 vs hd c5 hDn hD hlen hP hn5 hk5 hJ hJk
    try dsimp only at hDn
    try dsimp only at hk5
    try dsimp only at hJk
    try dsimp only at hn5
    try dsimp only
    have e1 : min (np sa.b (1 + i) * (1 + i)) sa.b.size = sa.b.size := by have := np_end (c := sa.b) (k := 1 + i) (by omega); omega
    have B5 : FreshB w.params h5 sa.x sa.dx sa.y sa.b (sa.b.size : Int) := by
      have := hJ.2.2
      rw [e1] at this
      obtain ⟨z1, ⟨_, _, _, z2⟩, z3⟩ := id B4
      exact this.mv fun b hb o e => hJk b o (by rcases hb with rfl | rfl | rfl; exact nx.1; exact ndx.1; exact ny.1) (by rcases hb with rfl | rfl | rfl; exact Heap.lt_size z1; exact Heap.lt_size z2; exact Heap.lt_size z3) e
    have up : ∀ b o, b ≠ L → b ≠ sa.dx → h.get? b = some o → h5.get? b = some o := fun b o hb hd e => hk5 b o hb (by simpa using hd) (k24 b o hb (hk2 b o hd e))
    have K : Kept h h5 := fun b o t e => up b o (fun q => Mine.Fr.notDict hS.fr o (q ▸ e) t) (fun q => by rw [q, fdx] at e; cases e; exact dictOf_notGood t) e
    have nP : ∀ b, P.has b → b ≠ L := fun b hb => (hS.core.has_new hb).1
    have core5 := hS.core.back hsa K (fun b hb n1 _ o e => up b o (nP b hb) n1 e) B5
    have F5 : Fr s.heap L h5 _ := frCongr (m' := lawM lE lI lR lO lS (fun y => if y = "pieces" then some (.ref D) else if y = "stream" then some (.ref sa.x) else m₀ y)) ⟨hn5, fun b o e => up b o (fun q => Nat.lt_irrefl _ (Nat.lt_of_lt_of_le (Heap.lt_size (q ▸ e : s.heap.get? L = some o)) hS.fr.above)) (fun q => by rw [q, ndx.2] at e; cases e) (hS.fr.keep b o e), hS.fr.above⟩ (lawM_put (nm := "pieces") (by decide))
    have N5 : News s.heap L h5 [(lS, listO vsS.toArray nS), (lO, listO vsO.toArray nO), (lR, listO vsR.toArray nR), (lI, listO vsI.toArray nI), (lE, listO (P.es.map Value.ref).toArray nE), (L + 1 + 1, o2)] := fun q hq => ⟨up _ _ (hS.news q hq).2.1 (fun e => hS.sep _ hPd (e ▸ List.mem_map_of_mem (f := (·.1)) hq)) (hS.news q hq).1, (hS.news q hq).2⟩
    refine post h5 t5 D vs c5 { hS with fr := F5, news := N5, core := core5 } (fun b o e c1 _ c3 => up b o c1 (fun q => c3 (q ▸ hPd)) e) hD ?_ hlen hP
    cases c0 : h.get? D with
    | none => rfl
    | some o =>
      by_cases q1 : D = L
      · obtain ⟨oL, _, _, hL, _⟩ := F4.ns
        rw [q1, hL] at hDn; cases hDn
      by_cases q2 : D = sa.dx
      · obtain ⟨_, ⟨_, _, _, z2⟩, _⟩ := id B4
        rw [q2, z2] at hDn; cases hDn
      · have := k24 D o q1 (hk2 D o q2 c0)
        rw [hDn] at this; cases this
end Mine
end
section -- G28
open PySem PySem.W PyProof.Rows PySem.Calls
set_option maxRecDepth 100000
namespace Mine
open Builtin
theorem slot_by_join : Slot "bytes" "join" "bytes.join" :=
  .of (owner := "bytes") (n := "join") (by rw [typeLookup_type, builtinLookup_eq_fast]; kernel_rfl) (by decide +kernel) (by decide +kernel) (by decide +kernel)
    (by first | exact .inl (by decide +kernel) | exact .inr (by decide +kernel)) (by rw [isSubtype_type]; kernel_rfl)
theorem entry_by_join : entryFor table "bytes.join" = some Builtin.«bytes.join» := entryFor_of_tree (by kernel_rfl)
theorem args_by_join (a b : Value) : argsOk "bytes.join" ⟨[a, b], []⟩ := by unfold argsOk; kernel_rfl
theorem take_eq {id : String} {b : Array UInt8} {t : Tok} : Bytes.takeBufferQuiet? id (.bytes b t) 0 = pure (some (b, none)) := by
  have e0 : ((0 : Int) == Bytes.fullReadOnly) = false := by decide
  unfold Bytes.takeBufferQuiet? Bytes.takeBuffer?
  rw [KBy.special_eq KBy.look_buffer, KBy.own_buffer, e0, KBy.buffer_eq]
  kernel_rfl
def glue (bs : List (Array UInt8)) : Array UInt8 := bs.foldl (· ++ ·) #[]
theorem joined_nil : ∀ (bs : List (Array UInt8)), Bytes.joined #[] bs = glue bs := by
  intro bs
  unfold Bytes.joined glue
  have key : ∀ (l : List (Array UInt8)) (n : Nat) (acc : Array UInt8), (l.zipIdx n).foldl (fun out (x : Array UInt8 × Nat) => (if x.2 > 0 then out ++ #[] else out) ++ x.1) acc = l.foldl (· ++ ·) acc := by
    intro l
    induction l with
    | nil => intro n acc; rfl
    | cons a r ih =>
      intro n acc
      rw [List.zipIdx_cons, List.foldl_cons, List.foldl_cons, ih]
      congr 1
      split <;> simp
  exact key bs 0 #[]
theorem joinGo {M : Model} {A : Around} {E : Value → Shared → Prop} {s : Shared} {keep : List Value} {Q : Unit → Shared → Prop} : ∀ {l : List (Value × Option Value)} (_ : ∀ p ∈ l, p.2 = none) (_ : Q () s), wpAny M A (Bytes.joinLetGo l keep) Q E s
  | [], _, h => by unfold Bytes.joinLetGo; exact wpAny_pure h
  | (x, w) :: r, hl, h => by
    have e : w = none := hl _ (.head _)
    subst e
    unfold Bytes.joinLetGo
    exact wpAny_bind (wpAny_letGo (joinGo (fun p hp => hl p (.tail _ hp)) h))
theorem glue_size : ∀ (l : List (Array UInt8)) (a : Array UInt8) (n : Nat), l.foldl (fun n b => n + b.size) n + a.size = (l.foldl (· ++ ·) a).size + n
  | [], a, n => by simp [Nat.add_comm]
  | b :: r, a, n => by
    rw [List.foldl_cons, List.foldl_cons]
    have := glue_size r (a ++ b) (n + b.size)
    rw [Array.size_append] at this
    omega
theorem jm_not {V : Array Value} {f : Value → Sem PySem.Fin} {g : Array Value → Sem PySem.Fin} (h : V.size ≠ 1) : Bytes.joinM.match_1 (fun _ => Sem PySem.Fin) V f g = g V := by
  unfold Bytes.joinM.match_1
  rw [dif_neg h]
theorem jm_wp {α : Type} {M : Model} {A : Around} {E : Value → Shared → Prop} {s : Shared} {Q : α → Shared → Prop} {X Y : Sem α} (e : X = Y) (h : wpAny M A Y Q E s) : wpAny M A X Q E s := by rw [e]; exact h
theorem meets_join {l : Addr} {t : Tok} {vs : List Value} {bs : List (Array UInt8)} (hlen : vs.length = bs.length) (hv : ∀ (i : Nat) (b : Array UInt8), bs[i]? = some b → ∃ u, vs[i]? = some (.bytes b u)) (hgl : (glue bs).size ≤ 16777216) :
    Meets («bytes.join» ⟨[.bytes #[] t, .ref l], []⟩) (fun _ R s => s.heap.IsList l vs.toArray ∧ (∀ t' k, R (.ok (.ret (.bytes (glue bs) t'))) { s with toks := k })) := by
  refine .of_wp fun prog w A R s hS => ?_
  obtain ⟨hl, h⟩ := hS
  obtain ⟨ol, hol, hcl, nl, hdl⟩ := id hl
  show wpAny _ _ (Bytes.joinM .bytes ⟨[.bytes #[] t, .ref l], []⟩) _ _ s
  unfold Bytes.joinM
  dsimp only
  refine wpAny_bind (wpAny_of_eq (a := (Value.bytes #[] t, Value.ref l)) (by first | rfl | kernel_rfl) ?_)
  dsimp only
  refine wpAny_bind ?_
  unfold Bytes.joinItems
  refine wpAny_bind (wpAny_typeOf hl.typeIs ?_)
  rw [if_pos (by decide)]
  refine wpAny_pure ?_
  refine wpAny_bind (wpAny_seqItems hol hdl ?_)
  dsimp only
  rw [if_pos (by decide)]
  by_cases h1 : vs.length = 1
  · obtain ⟨x, e1⟩ := List.length_eq_one_iff.1 h1
    subst e1
    rw [show ([x] : List Value).toArray = #[x] from rfl]
    match bs, hlen with
    | [b], _ =>
      obtain ⟨u, hu⟩ := hv 0 b rfl
      have e2 : x = .bytes b u := by simpa using hu
      subst e2
      refine wpAny_bind (m := typeOf (Value.bytes b u)) (wpAny_typeOf (typeIs_bytes s b u) ?_)
      rw [if_pos (by decide)]
      refine wpAny_bind (wpAny_rule ?_)
      have g1 : glue [b] = b := by simp [glue]
      have := h u s.toks
      rw [g1] at this
      exact wpAny_pure ⟨_, rfl, this⟩
  · refine jm_wp (jm_not (by simpa using h1)) ?_
    rw [Std.Legacy.Range.forIn_eq_forIn_range']
    refine wpAny_bind (wpAny_forIn_list _ (fun rest (b : Array (Array UInt8) × List (Value × Option Value)) s' => s' = s ∧ ∃ k, k ≤ bs.length ∧ rest = List.range' k (bs.length - k) ∧ b.1.toList = bs.take k ∧ ∀ p ∈ b.2, p.1.onHeap = false ∧ p.2 = none) _ ?_ ?_ _ _ ?_)
    · rintro i rest ⟨parts, taken⟩ s' ⟨rfl, k, hk, hr, hp, ht⟩
      have hk' : k < bs.length := by
        rcases Nat.lt_or_ge k bs.length with q | q
        · exact q
        · rw [Nat.sub_eq_zero_of_le q] at hr; cases hr
      obtain ⟨m, hm⟩ : ∃ m, bs.length - k = m + 1 := ⟨bs.length - k - 1, (Nat.succ_pred_eq_of_pos (Nat.sub_pos_of_lt hk')).symm⟩
      rw [hm, List.range'_succ] at hr
      injection hr with hi hr
      subst hi hr
      have hb : bs[i]? = some bs[i] := List.getElem?_eq_getElem hk'
      obtain ⟨u, hu⟩ := hv i _ hb
      have hg : vs.toArray.getD i Value.none = .bytes bs[i] u := by
        rw [Array.getD_eq_getD_getElem?, List.getElem?_toArray, hu]; rfl
      have hany : (taken.any fun x => x.1.onHeap) = false := by
        rw [List.any_eq_false]; intro p hp'; rw [(ht p hp').1]; decide
      refine wpAny_bind (wpAny_seqItems hol hdl ?_)
      dsimp only
      rw [hany, if_neg (by decide), hg]
      refine wpAny_bind (wpAny_holding (wpAny_of_eq take_eq ?_))
      dsimp only
      refine wpAny_bind (wpAny_seqItems hol hdl ?_)
      dsimp only
      rw [if_neg (by simp)]
      refine wpAny_pure ?_
      refine ⟨rfl, i + 1, hk', by rw [show bs.length - (i+1) = m from (congrArg Nat.pred hm : _)], ?_, ?_⟩
      · rw [Array.toList_push, hp, List.take_add_one, hb]; rfl
      · intro p hp'
        rcases List.mem_append.1 hp' with q | q
        · exact ht p q
        · rcases List.mem_singleton.1 q with rfl
          exact ⟨rfl, rfl⟩
    · rintro ⟨parts, taken⟩ s' ⟨rfl, k, hk, hr, hp, ht⟩
      have hk' : k = bs.length := by
        have := congrArg List.length hr
        simp at this
        omega
      subst hk'
      rw [List.take_length] at hp
      refine wpAny_bind (wpAny_pure ?_)
      dsimp only
      have hsz : (Bytes.tooLong (parts.foldl (fun n b => n + b.size) ((#[] : Array UInt8).size * (parts.size - 1)))) = false := by
        rw [← Array.foldl_toList, hp]
        have := glue_size bs #[] 0
        unfold Bytes.tooLong
        simp only [Array.size_empty, Nat.zero_mul] at this ⊢
        rw [sizeLine_eq]
        simp only [decide_eq_false_iff_not]
        unfold glue at hgl
        omega
      rw [hsz, if_neg (by decide), hp, joined_nil]
      refine wpAny_bind (m := Bytes.Kind.bytes.new _) (wpAny_mkBytes ?_ (by rw [sizeLine_eq]; exact hgl))
      refine wpAny_bind (wpAny_holding (wpAny_point ?_))
      refine wpAny_bind (joinGo (fun p hp' => (ht p hp').2) ?_)
      exact wpAny_pure ⟨_, rfl, h _ _⟩
    · refine ⟨rfl, 0, Nat.zero_le _, ?_, by simp, by simp⟩
      simp [Std.Legacy.Range.size, hlen]
theorem type_by_join : typeOf (.builtin "bytes.join") = pure (.type "method_descriptor") := by kernel_rfl
theorem join_method {M : Model} {A : Around} {E : Value → Shared → Prop} {s : Shared} {t : Tok} {b : Array UInt8} {pl : Sem Bool} {Q : Value × List Value → Shared → Prop} (h : Q (.builtin "bytes.join", [.bytes b t]) s) : wpAny M A (getMethod (.bytes b t) "join" pl) Q E s :=
  getMethod_builtin (typeIs_bytes s b t) FB.plainAttrs_bytes slot_by_join type_by_join (fun _ e => nomatch e) h
theorem join_bytes {prog : Program} {w : World} {A : Around} {E : Value → Shared → Prop} {s : Shared} {Q : Value → Shared → Prop} {l : Addr} {t : Tok} {vs : List Value} {bs : List (Array UInt8)} (hl : s.heap.IsList l vs.toArray) (hlen : vs.length = bs.length) (hv : ∀ (i : Nat) (b : Array UInt8), bs[i]? = some b → ∃ u, vs[i]? = some (.bytes b u)) (hgl : (glue bs).size ≤ 16777216)
    (h : ∀ t' k, Q (.bytes (glue bs) t') { s with toks := k }) : wpAny (model prog w) A (call (.builtin "bytes.join") [.bytes #[] t, .ref l]) Q E s :=
  call_meets slot_by_join (typeIs_bytes s _ t) entry_by_join (args_by_join _ _) (meets_join hlen hv hgl) ⟨hl, h⟩
end Mine
end
section -- L1T
open PySem PySem.W PyProof.Rows PySem.Calls
set_option maxRecDepth 100000
namespace Mine
set_option maxHeartbeats 4000000
local macro_rules | `(tactic| k_room) => `(tactic| ((try simp only [depth_mark, depth_under_make, depth_under_kw, depth_in1, depth_deeper, depth_caller]); (first | ((show _ + _ < 1000); omega) | ((show _ < 1000); omega))))
local macro_rules | `(tactic| k_all) => `(tactic| assumption)
local macro_rules | `(tactic| walk_at "subscriptTail") => `(tactic| (k_here; (with_reducible show wpAny _ _ (subscriptTail _ _ (Value.ref _) (Value.int _ _)) _ _ _); k_dflt (refine' item_lst ?N ?m ?h0 ?h1 ?hx ?_; (case N => k_asm); (case m => k_mem); (case h0 => with_reducible assumption); (case h1 => with_reducible assumption); (case hx => with_reducible assumption))))
local macro_rules | `(tactic| walk_at "call builtin:bytes.join") => `(tactic| (k_here; refine Stop.out ?_))
local macro_rules | `(tactic| walk_at "getMethod bytes") => `(tactic| (k_here; (with_reducible show wpAny _ _ (getMethod (Value.bytes _ _) _ _) _ _ _); k_dflt (refine join_method ?_)))
theorem glue_pc {c : Array UInt8} {k : Nat} : ∀ n, glue ((List.range n).map (pc c k)) = c.extract 0 (min (n * k) c.size)
  | 0 => by simp [glue]
  | n + 1 => by
    have h := glue_pc (c := c) (k := k) n
    unfold glue at h ⊢
    rw [List.range_succ, List.map_append, List.foldl_append, h]
    simp only [List.map_cons, List.map_nil, List.foldl_cons, List.foldl_nil]
    unfold pc
    rw [Array.extract_append_extract]
    have e1 : (n + 1) * k = n * k + k := Nat.succ_mul n k
    rw [e1]
    rw [Nat.min_eq_left (Nat.zero_le _), Nat.max_eq_right (Nat.le_min.mpr ⟨Nat.le_trans (Nat.min_le_left _ _) (Nat.le_add_right _ _), Nat.min_le_right _ _⟩)]
theorem glue_all {c : Array UInt8} {k : Nat} (hk : 0 < k) : glue ((List.range (np c k)).map (pc c k)) = c := by
  rw [glue_pc, Nat.min_eq_right (np_end hk)]
  simp
theorem pieces_facts {vs : List Value} {c : Array UInt8} {k : Nat} (hlen : vs.length = np c k) (hpc : ∀ (jj : Nat) (v : Value), vs[jj]? = some v → ∃ u, v = .bytes (pc c k jj) u) {jj : Nat} {b : Array UInt8} (hb : ((List.range (np c k)).map (pc c k))[jj]? = some b) : ∃ u, vs[jj]? = some (.bytes b u) := by
  rw [List.getElem?_map] at hb
  cases c1 : (List.range (np c k))[jj]? with
  | none => rw [c1] at hb; cases hb
  | some r =>
    rw [c1] at hb
    obtain ⟨hr, e⟩ := List.getElem?_eq_some_iff.mp c1
    rw [List.length_range] at hr
    rw [List.getElem_range] at e
    subst e
    cases hb
    have e2 : vs[jj]? = some (vs[jj]'(by omega)) := List.getElem?_eq_getElem _
    obtain ⟨u, hu⟩ := hpc jj _ e2
    exact ⟨u, by rw [e2, hu]⟩
theorem clo_facts {w : World} {g : Heap} {L lE lI lR lO lS : Addr} {h : Heap} {m₀ : Str → Option Value} {P : Pop} {o2 : Obj} {nE nI nR nO nS : Nat} {vsI vsR vsO vsS : List Value} (hS : CloSt w g L lE lI lR lO lS h m₀ P o2 nE nI nR nO nS vsI vsR vsO vsS) {i j : Nat} {sa : Stm} (hj : P.ix[i]? = some j) (hsa : P.sts[j]? = some sa) :
    ∃ ta uo, vsI.toArray[((i : Nat) : Int).toNat]? = some (.int (j : Int) ta) ∧ vsO.toArray[((j : Nat) : Int).toNat]? = some (.bytes sa.b uo) ∧ (j : Int) < 16777216 := by
  obtain ⟨ta, hta⟩ := natsI_at hS.vI hj
  have hlO : vsO.length = P.sts.length := by have := hS.vO.1; simpa using this
  obtain ⟨hjl, _⟩ := List.getElem?_eq_some_iff.mp hsa
  have hvO : vsO[j]? = some (vsO[j]'(by omega)) := List.getElem?_eq_getElem _
  obtain ⟨uo, huo⟩ := hS.vO.2 j sa.b _ (by rw [List.getElem?_map, hsa]; rfl) hvO
  rw [huo] at hvO
  have h1 := hS.fewS
  have h2 := hS.few
  exact ⟨ta, uo, by simpa using hta, by simpa using hvO, by omega⟩
theorem clo_told {w : World} {p : Program} {loose : List Str} {mg mb : Str → Option Value} {mean : ExcName → Option Value} {s : Shared} {Q : Flow → Shared → Prop} {E : Value → Shared → Prop} {L lE lI lR lO lS : Addr} {h : Heap} {tk : Nat}
    {i j c : Nat} {ti : Tok} {m₀ : Str → Option Value} {P : Pop} {o2 : Obj} {nE nI nR nO nS : Nat} {vsI vsR vsO vsS vs : List Value} {sa : Stm} {D : Addr} {st : Stmt} (hst : st = cT w 4)
    (X : (hd.heap_39 w.params).In s.heap) (T : Top p loose mean mg mb s.heap)
    (hS : CloSt w s.heap L lE lI lR lO lS h (fun y => if y = "pieces" then some (.ref D) else if y = "stream" then some (.ref sa.x) else m₀ y) P o2 nE nI nR nO nS vsI vsR vsO vsS) (hi2 : o2.data = .cell (some (.int (i : Int) ti)))
    (hi : i < P.es.length) (hj : P.ix[i]? = some j) (hsa : P.sts[j]? = some sa) (hD : h.get? D = some (listO vs.toArray c)) (hlen : vs.length = np sa.b (1 + i))
    (hpc : ∀ (jj : Nat) (v : Value), vs[jj]? = some v → ∃ u, v = .bytes (pc sa.b (1 + i) jj) u)
    (post : ∀ tk', Q .next { s with heap := h, toks := tk' }) :
    wpAny (model PySem.Challenge.rw_kn0093_01.row.prog w) (callerA.deeper (lawE w L)) (exec st (lawE w L)) Q E { s with heap := h, toks := tk } := by
  unfold lawE
  obtain ⟨sc, hsc⟩ : ∃ sc, sc = scopeAt 626 w.params := ⟨_, rfl⟩
  rw [← hsc]
  conv at hsc => rhs; whnf
  subst hsc
  conv at hst => rhs; whnf
  subst hst
  have F := hS.fr
  have N := hS.news
  have hfew := hS.few
  have TR := topRead_of T
  have i0 : (0 : Int) ≤ (i : Int) := by omega
  have i1 : (i : Int) < 16777216 := by omega
  have j0 : (0 : Int) ≤ (j : Int) := by omega
  obtain ⟨ta, uo, hya, hyo, j1⟩ := clo_facts hS hj hsa
  k_steps
  refine Stop.mk ?_
  refine join_bytes (lst_isL hD) (bs := (List.range (np sa.b (1 + i))).map (pc sa.b (1 + i))) (by simp [hlen]) (fun jj b hb => ?_) ?_ fun t' k => ?_
  · exact pieces_facts hlen hpc hb
  · have := hS.szS sa (List.mem_of_getElem? hsa)
    rw [glue_all (by omega)]; omega
  · rw [glue_all (by omega)]
    dsimp only
    clear hpc hlen hj hsa hD
    k_steps
    · rename (_ != _) = true => hb
      simp at hb
    · exact post _
end Mine
end
section -- G29
open PySem PySem.W PyProof.Rows PySem.Calls
set_option maxRecDepth 100000
namespace Mine
section
variable {prog : Program} {w : World} {A : Around} {E : Value → Shared → Prop} {s : Shared} {env : Env}
/-- [elt for x in l if test], where no item passes -/
theorem ListComp_noneT {elt iter test : Expr} {x : Str} {px : Pos} {scope : Scope} {cl : List (Str × Addr)} {pos : Pos} {Q : Value → Shared → Prop} (hh : A.handled = none)
    (hclos : closureFor scope env = pure cl) (hcell : ∀ y ∈ scope.names, y.2 ≠ .cell) (hkind : scope.kind = .function)
    (hnames : ∀ y ∈ scope.names, y.2 = .local → scope.names.lookup y.1 = some .local) (hx : scope.names.lookup x = some .local)
    (h : wpAny (model prog w) A (eval iter env) (fun xv s₁ => Stop (∃ (l : Addr) (vs : List Value), xv = .ref l ∧ s₁.heap.IsList l vs.toArray ∧ vs.length ≤ sizeLine ∧
      (∀ (C : Addr) (v : Value) (s₃ : Shared) (m₃ : Str → Option Value) (E' : Value → Shared → Prop), s₁.heap.objs.size ≤ C → v ∈ vs → s₃.heap.Ns C m₃ → m₃ x = some v → (∀ b o, s₁.heap.get? b = some o → s₃.heap.get? b = some o) →
        wpAny (model prog w) A (isTrue test (compEnvC scope cl C env) (eval test (compEnvC scope cl C env))) (fun ok s₆ => ok = false ∧ Keeps s₃ s₆) E' s₃) ∧
      (∀ (D : Addr) (h' : Heap) (tk : Tok) (n : Nat), s₁.heap.get? D = none → h'.get? D = some (listO #[] n) → (∀ b o, s₁.heap.get? b = some o → h'.get? b = some o) → Q (.ref D) { s₁ with heap := h', toks := tk }))) E s)
    (hs : ∀ x, foldedSetIterable iter env x = pure x := by intro _; rfl) :
    wpAny (model prog w) A (eval (.ListComp elt [⟨.Name x px, iter, [test], 0⟩] scope pos) env) Q E s := by
  refine wpAny_ListComp_free (fun _ => false) (fun _ _ => True) hclos hcell hkind hnames hx (wpAny_mono h (fun xv s₁ h₁ => ?_) fun _ _ e => e) hs
  obtain ⟨l, vs, rfl, hl, hz, hr, hQ⟩ := h₁
  refine wpAny_pyIter_list hl ?_
  have hlI : l ≠ s₁.heap.objs.size := let ⟨o, ho, _⟩ := hl; Nat.ne_of_lt (Heap.lt_size ho)
  refine ⟨_, _, _, _, _, _, rfl, Walks.list hh s₁.heap.objs.size l hlI vs.toArray, by simpa using hz, ⟨⟨_, Heap.get?_push_size _ rfl, rfl, rfl⟩, hl.push _⟩, ?_, ⟨?_, ?_⟩, ?_⟩
  · intro b hb
    simp only [Heap.size_push, List.mem_cons, List.not_mem_nil, or_false] at hb ⊢
    rcases hb with rfl | rfl
    · exact Nat.lt_succ_self _
    · exact Nat.lt_succ_of_lt (let ⟨o, ho, _⟩ := hl; Heap.lt_size ho)
  · intro C i v s₃ m₃ E' hC hP hn hv hk htk
    have hvm : v ∈ vs := by
      obtain ⟨hi, e⟩ := Array.getElem?_eq_some_iff.mp hP
      rw [← e]; simp
    have kk : ∀ b o, s₁.heap.get? b = some o → s₃.heap.get? b = some o := fun b o e => hk b o (by simpa using Nat.ne_of_lt (Heap.lt_size e)) (Heap.get?_push_of_some _ e)
    exact wpAny_tests_one (hr C v s₃ m₃ E' (Nat.le_trans (by rw [Heap.size_push]; exact Nat.le_succ _) hC) hvm hn hv kk)
  · intro C i v s₃ m₃ E' hC hP hpv
    cases hpv
  · intro D h' tk ys vs' hD hl' hpl hlen hP hF hk
    have e : ys = #[] := by
      have e1 : vs'.filter (fun _ => false) = [] := by simp
      rw [e1] at hF
      generalize hy : ys.toList = yl at hF
      cases hF
      exact Array.eq_empty_of_size_eq_zero (by rw [← Array.length_toList, hy]; rfl)
    subst e
    obtain ⟨n, hn⟩ := hpl
    have k₁ : ∀ b o, s₁.heap.get? b = some o → h'.get? b = some o := fun b o e => hk b o (by simpa using Nat.ne_of_lt (Heap.lt_size e)) (Heap.get?_push_of_some _ e)
    refine hQ D h' tk n ?_ hn k₁
    cases q : s₁.heap.get? D with
    | none => rfl
    | some o => have := Heap.get?_push_of_some { cls := .type "list_iterator", data := .fields #[.ref l, .int 0 0] } q; exact absurd (this.symm.trans hD) (by simp)
end
theorem newsAddN {g h h' : Heap} {L D : Addr} {o : Obj} {m : Str → Option Value} {news : List (Addr × Obj)} (F : Fr g L h m) (N : News g L h' news) (hD : h.get? D = none) (e : h'.get? D = some o) : News g L h' ((D, o) :: news) := fun p hp => by
  rcases List.mem_cons.mp hp with rfl | hp
  · refine ⟨e, fun q => ?_, ?_⟩
    · obtain ⟨oL, _, _, hL, _⟩ := F.ns
      rw [← (show D = L from q), hD] at hL; cases hL
    · cases c : g.get? D with
      | none => rfl
      | some o => rw [F.keep _ _ c] at hD; cases hD
  · exact N p hp
/-- what the body of the for lays -/
theorem clip_pred : ∀ m : Nat, max 0 (min (-1 + (m : Int)) m) = ((m - 1 : Nat) : Int)
  | 0 => by decide
  | m + 1 => by
    have e : (-1 : Int) + ((m + 1 : Nat) : Int) = m := by rw [Int.add_comm]; exact Int.add_neg_cancel_right (m : Int) 1
    rw [e]
    exact clip_of (Int.natCast_nonneg m) (Int.min_eq_left (Int.ofNat_le.mpr (Nat.le_succ m)))
theorem pick_butLast {vs : List Value} : slicePick vs.toArray none (some (-1)) none = (vs.take (vs.length - 1)).toArray := by
  rw [kmk_pick_nat vs.toArray (a := 0) (b := vs.length - 1) ?_]
  · simp
  · unfold sliceBounds
    simp only [Option.getD_none, List.size_toArray]
    refine Prod.ext ?_ (Prod.ext ?_ rfl)
    · rfl
    · exact clip_pred vs.length
end Mine
end
section -- L1U
open PySem PySem.W PyProof.Rows PySem.Calls
set_option maxRecDepth 100000
namespace Mine
set_option maxHeartbeats 4000000
local macro_rules | `(tactic| k_room) => `(tactic| ((try simp only [depth_mark, depth_under_make, depth_under_kw, depth_in1, depth_deeper, depth_caller]); (first | ((show _ + _ < 1000); omega) | ((show _ < 1000); omega))))
local macro_rules | `(tactic| k_all) => `(tactic| assumption)
local macro_rules | `(tactic| walk_at "eval ListComp") => `(tactic| (k_here; refine Stop.out ?_))
local macro_rules | `(tactic| walk_at "subscriptTail Name Slice ref ref") => `(tactic| (k_here; refine Stop.out ?_))
theorem pc_size {c : Array UInt8} {k jj : Nat} (hk : 0 < k) (h : jj + 1 < np c k) : (pc c k jj).size = k := by
  have h1 := np_lt hk h
  have h2 := np_lt hk (Nat.lt_of_succ_lt h)
  have e1 : (jj + 1) * k = jj * k + k := Nat.succ_mul jj k
  rw [e1] at h1
  unfold pc
  rw [Array.size_extract, Nat.min_eq_left (Nat.le_of_lt h1), Nat.min_eq_left (Nat.le_of_lt h2), Nat.min_eq_left (Nat.le_of_lt h1), Nat.add_sub_cancel_left]
theorem clo_ones {w : World} {p : Program} {loose : List Str} {mg mb : Str → Option Value} {mean : ExcName → Option Value} {s : Shared} {Q : Flow → Shared → Prop} {E : Value → Shared → Prop} {L lE lI lR lO lS : Addr} {h : Heap} {tk : Nat}
    {i c : Nat} {ti : Tok} {m₀ : Str → Option Value} {P : Pop} {o2 : Obj} {nE nI nR nO nS : Nat} {vsI vsR vsO vsS vs : List Value} {b : Array UInt8} {D : Addr} {st : Stmt} (hst : st = cT w 5)
    (X : (hd.heap_39 w.params).In s.heap) (T : Top p loose mean mg mb s.heap)
    (hS : CloSt w s.heap L lE lI lR lO lS h (fun y => if y = "pieces" then some (.ref D) else m₀ y) P o2 nE nI nR nO nS vsI vsR vsO vsS) (hi2 : o2.data = .cell (some (.int (i : Int) ti)))
    (hi : i < P.es.length) (hD : h.get? D = some (listO vs.toArray c)) (hlen : vs.length = np b (1 + i)) (hb : b.size ≤ 1000)
    (hpc : ∀ (jj : Nat) (v : Value), vs[jj]? = some v → ∃ u, v = .bytes (pc b (1 + i) jj) u)
    (post : ∀ h' tk', CloSt w s.heap L lE lI lR lO lS h' (fun y => if y = "pieces" then some (.ref D) else m₀ y) P o2 nE nI nR nO nS vsI vsR vsO vsS → (∀ b o, b ≠ L → h.get? b = some o → h'.get? b = some o) → Q .next { s with heap := h', toks := tk' }) :
    wpAny (model PySem.Challenge.rw_kn0093_01.row.prog w) (callerA.deeper (lawE w L)) (exec st (lawE w L)) Q E { s with heap := h, toks := tk } := by
  unfold lawE
  obtain ⟨sc, hsc⟩ : ∃ sc, sc = scopeAt 626 w.params := ⟨_, rfl⟩
  rw [← hsc]
  conv at hsc => rhs; whnf
  subst hsc
  conv at hst => rhs; whnf
  subst hst
  have F := hS.fr
  obtain ⟨rest, N, ⟨hr1, hr2, hr3, hr4, hr5, hr6⟩, hall, hK⟩ := hS.open
  have hfew := hS.few
  have TR := topRead_of T
  k_steps
  refine Stop.mk (ListComp_noneT rfl (by with_unfolding_all rfl) (by decide) rfl (by decide) (by rfl) ?_)
  k_steps
  dsimp only
  have hL : h.IsList D vs.toArray := lst_isL hD
  have hz : vs.length ≤ 2000 := by
    rw [hlen]; unfold np
    exact Nat.le_trans (Nat.div_le_self _ _) (by omega)
  refine Stop.mk (subscriptTail_ops (Heap.IsList.typeIs (s := { s with heap := h.push _, toks := _ }) (hL.push _)) list_getitem_lookup
        (wpAny_getItem_list_slice (hL.push _) (Heap.IsSliceOf.new ..) IsPart.none (IsPart.int _ _) IsPart.none (by decide) ?_ ?_) (by with_unfolding_all rfl) (by intro _; with_unfolding_all rfl))
  · rw [pick_butLast]
    refine Stop.mk ⟨_, _, rfl, ⟨_, Heap.get?_push_size _ rfl, rfl, _, rfl⟩, by rw [sizeLine_eq, List.length_take]; omega, ?_, ?_⟩
    · intro C v s₃ m₃ E' hC hv hn hm hk
      dsimp only at hk
      obtain ⟨jj, hjj⟩ := List.mem_iff_getElem?.mp hv
      rw [List.getElem?_take] at hjj
      split at hjj
      · obtain ⟨u, rfl⟩ := hpc jj v hjj
        have hpz : (pc b (1 + i) jj).size = 1 + i := pc_size (by omega) (by omega)
        have kk : ∀ b o, h.get? b = some o → s₃.heap.get? b = some o := fun b o e => hk b o (Heap.get?_push_of_some _ (Heap.get?_push_of_some _ e))
        have F3 := F.keeps kk
        have N3 := N.grown kk
        clear F N
        refine a_test ?_
        k_steps
        · rw [hpz]; simp
        · exact ⟨_, _, rfl, fun _ _ e => e⟩
      · cases hjj
    · intro D2 h2 tk2 n2 hDn hDo hk2
      dsimp only at hDn hk2 ⊢
      have kk : ∀ b o, h.get? b = some o → h2.get? b = some o := fun b o e => hk2 b o (Heap.get?_push_of_some _ (Heap.get?_push_of_some _ e))
      have hn : h.get? D2 = none := by
        cases q : h.get? D2 with
        | none => rfl
        | some o => rw [Heap.get?_push_of_some _ (Heap.get?_push_of_some _ q)] at hDn; cases hDn
      have F2 := F.keeps kk
      have N2 := newsAddN F (N.grown kk) hn hDo
      clear F N
      k_steps
      rename Fr s.heap L _ _ => F5
      rename News s.heap L _ _ => N5
      have k5 := hK _ _ F5 (fun p hp => (N5 p (by repeat (first | exact hp | refine List.mem_cons_of_mem _ ?_))).1)
      have N5' := newsSub N5 (l' := [(lS, listO vsS.toArray nS), (lO, listO vsO.toArray nO), (lR, listO vsR.toArray nR), (lI, listO vsI.toArray nI), (lE, listO (P.es.map Value.ref).toArray nE), (L + 1 + 1, o2)]) (by repeat (first | exact List.forall_mem_nil _ | refine List.forall_mem_cons.mpr ⟨by k_mem, ?_⟩))
      exact post _ _ { hS with fr := F5, news := N5', core := hS.core.to k5.2 k5.1 } (fun b o c1 e => hS.rest F5 N5' (fun p hp => (N5 p (by repeat (first | exact hp | refine List.mem_cons_of_mem _ ?_))).1) hall b o e c1)
  · rw [List.size_toArray, sizeLine_eq]; omega
end Mine
end
section -- L1V
open PySem PySem.W PyProof.Rows PySem.Calls
set_option maxRecDepth 100000
namespace Mine
set_option maxHeartbeats 4000000
local macro_rules | `(tactic| k_room) => `(tactic| ((try simp only [depth_mark, depth_under_make, depth_under_kw, depth_in1, depth_deeper, depth_caller]); (first | ((show _ + _ < 1000); omega) | ((show _ < 1000); omega))))
local macro_rules | `(tactic| k_all) => `(tactic| assumption)
local macro_rules | `(tactic| walk_at "subscriptTail") => `(tactic| (k_here; (with_reducible show wpAny _ _ (subscriptTail _ _ (Value.ref _) (Value.int _ _)) _ _ _); k_dflt (refine' item_lst ?N ?m ?h0 ?h1 ?hx ?_; (case N => k_asm); (case m => k_mem); (case h0 => with_reducible assumption); (case h1 => with_reducible assumption); (case hx => with_reducible assumption))))
local macro_rules | `(tactic| walk_at "getItem ref str") => `(tactic| (k_here; k_dflt (refine kdt_getItem (knd := PySem.strKind _ _) (by k_asm) (by k_mem) (by k_asm) (strKind_is _ _ _ _) (by assumption) ?_)))
local macro_rules | `(tactic| walk_at "call ref") => `(tactic| (k_here; refine Stop.out ?_))
theorem clo_factsS {w : World} {g : Heap} {L lE lI lR lO lS : Addr} {h : Heap} {m₀ : Str → Option Value} {P : Pop} {o2 : Obj} {nE nI nR nO nS : Nat} {vsI vsR vsO vsS : List Value} (hS : CloSt w g L lE lI lR lO lS h m₀ P o2 nE nI nR nO nS vsI vsR vsO vsS) {i j : Nat} {sa : Erm} (hj : P.ex[i]? = some j) (hsa : P.ers[j]? = some sa) :
    ∃ ta uo, vsR.toArray[((i : Nat) : Int).toNat]? = some (.int (j : Int) ta) ∧ vsS.toArray[((j : Nat) : Int).toNat]? = some (.str sa.b uo) ∧ (j : Int) < 16777216 := by
  obtain ⟨ta, hta⟩ := natsI_at hS.vR hj
  have hlO : vsS.length = P.ers.length := by have := hS.vS.1; simpa using this
  obtain ⟨hjl, _⟩ := List.getElem?_eq_some_iff.mp hsa
  have hvO : vsS[j]? = some (vsS[j]'(by omega)) := List.getElem?_eq_getElem _
  obtain ⟨uo, huo⟩ := hS.vS.2 j sa.b _ (by rw [List.getElem?_map, hsa]; rfl) hvO
  rw [huo] at hvO
  have h1 := hS.fewR
  have h2 := hS.few
  exact ⟨ta, uo, by simpa using hta, by simpa using hvO, by omega⟩
theorem clo_signs {w : World} {p : Program} {loose : List Str} {mg mb : Str → Option Value} {mean : ExcName → Option Value} {s : Shared} {A₀ : Around} {Q : Flow → Shared → Prop} {E : Value → Shared → Prop} {L lE lI lR lO lS : Addr} {h : Heap} {tk : Nat}
    {i : Nat} {ti : Tok} {m₀ : Str → Option Value} {P : Pop} {o2 : Obj} {nE nI nR nO nS : Nat} {vsI vsR vsO vsS : List Value} {st : Stmt} (hst : st = cT w 6)
    (X : (hd.heap_39 w.params).In s.heap) (T : Top p loose mean mg mb s.heap) (B : Below A₀ s.heap [] s.heap)
    (hS : CloSt w s.heap L lE lI lR lO lS h m₀ P o2 nE nI nR nO nS vsI vsR vsO vsS) (hi2 : o2.data = .cell (some (.int (i : Int) ti)))
    (hi : i < P.es.length)
    (post : ∀ h' tk', CloSt w s.heap L lE lI lR lO lS h' m₀ P o2 nE nI nR nO nS vsI vsR vsO vsS → (∀ b o, b ≠ L → h.get? b = some o → h'.get? b = some o) → Q .next { s with heap := h', toks := tk' }) :
    wpAny (model PySem.Challenge.rw_kn0093_01.row.prog w) (callerA.deeper (lawE w L)) (exec st (lawE w L)) Q E { s with heap := h, toks := tk } := by
  unfold lawE
  obtain ⟨sc, hsc⟩ : ∃ sc, sc = scopeAt 626 w.params := ⟨_, rfl⟩
  rw [← hsc]
  conv at hsc => rhs; whnf
  subst hsc
  conv at hst => rhs; whnf
  subst hst
  have F := hS.fr
  have hfew := hS.few
  obtain ⟨a, ja, sa, ea, ra, oa, kva, Sa, ha, hja, hsa, hea, hra, hao, hoda, _, _, _, _, _, hvia, hvea⟩ := hS.core.pick (k := (i : Int)) (by omega) (by omega)
  have na := hS.core.newE a (List.mem_of_getElem? ha)
  have hmr := List.mem_of_getElem? hra
  obtain ⟨fx, t₁, t₂, t₃, t₄, t₅, t₆, fdx⟩ := id (hS.core.err ra hmr)
  obtain ⟨nx, ndx⟩ := hS.core.newR ra hmr
  obtain ⟨rest, N0, ⟨hr1, hr2, hr3, hr4, hr5, hr6⟩, hall, hK⟩ := hS.open
  have N := newsMore (newsMore (newsMore N0 fdx ndx) fx nx) hao ⟨na.1, na.2.1⟩
  have hsz := hS.szR ra hmr
  have hfr := hS.core.err ra hmr
  clear N0
  have TR := topRead_of T
  have hxa : (P.es.map Value.ref).toArray[((i : Nat) : Int).toNat]? = some (.ref a) := by simpa using ha
  have i0 : (0 : Int) ≤ (i : Int) := by omega
  have i1 : (i : Int) < 16777216 := by omega
  have la := na.2.2
  have hjI : (P.ex)[i]? = some ea := by simpa using hea
  obtain ⟨ta, uo, hya, hyo, j1⟩ := clo_factsS hS hjI hra
  have j0 : (0 : Int) ≤ (ea : Int) := by omega
  clear hsa hea hra hja hvia
  k_steps
  refine Stop.mk ?_
  show wpAny _ _ (call (.ref 527) [.ref ra.x]) _ _ _
  refine wpAny_call (getvalueS_call (env := envOfC _ _ L 626 (.ref 625)) rfl rfl X T B F (by decide) (by decide) (List.forall_mem_cons.mpr ⟨⟨fx, nx⟩, List.forall_mem_cons.mpr ⟨⟨fdx, ndx⟩, List.forall_mem_nil _⟩⟩) hfr (by omega) fun h4 tk4 u4 hk4 => ?_)
  dsimp only at hk4 ⊢
  have F4 := F.keeps hk4
  have N4 := News.grown N hk4
  clear F N
  k_steps
  · rename (_ != _) = true => hb
    simp at hb
  · rename Fr s.heap L _ _ => F5
    rename News s.heap L _ _ => N5
    have k5 := hK _ _ F5 (fun p hp => (N5 p (by repeat (first | exact hp | refine List.mem_cons_of_mem _ ?_))).1)
    have N5' := newsSub N5 (l' := [(lS, listO vsS.toArray nS), (lO, listO vsO.toArray nO), (lR, listO vsR.toArray nR), (lI, listO vsI.toArray nI), (lE, listO (P.es.map Value.ref).toArray nE), (L + 1 + 1, o2)]) (by repeat (first | exact List.forall_mem_nil _ | refine List.forall_mem_cons.mpr ⟨by k_mem, ?_⟩))
    exact post _ _ { hS with fr := F5, news := N5', core := hS.core.to k5.2 k5.1 } (fun b o c1 e => hS.rest F5 N5' (fun p hp => (N5 p (by repeat (first | exact hp | refine List.mem_cons_of_mem _ ?_))).1) hall b o e c1)
end Mine
end
section -- L1W
open PySem PySem.W PyProof.Rows PySem.Calls
set_option maxRecDepth 100000
namespace Mine
set_option maxHeartbeats 4000000
local macro_rules | `(tactic| k_room) => `(tactic| ((try simp only [depth_mark, depth_under_make, depth_under_kw, depth_in1, depth_deeper, depth_caller]); (first | ((show _ + _ < 1000); omega) | ((show _ < 1000); omega))))
local macro_rules | `(tactic| k_ne) => `(tactic| (refine neN ?_; (try dsimp only); (first | with_reducible assumption | (refine Ne.symm ?_; with_reducible assumption))))
local macro_rules | `(tactic| k_all) => `(tactic| assumption)
local macro_rules | `(tactic| walk_at "call builtin:len") => `(tactic| (k_here; k_dflt (refine' len_lst ?N ?m ?e ?z ?_; (case N => k_asm); (case m => k_mem); (case e => with_reducible assumption); (case z => with_reducible assumption))))
theorem clo_turn {w : World} {p : Program} {loose : List Str} {mg mb : Str → Option Value} {mean : ExcName → Option Value} {s : Shared} {A₀ : Around} {Q : Flow → Shared → Prop} {L lE lI lR lO lS : Addr} {h : Heap} {tk : Nat}
    {i : Nat} {ti : Tok} {m₀ : Str → Option Value} {P : Pop} {o2 : Obj} {nE nI nR nO nS : Nat} {vsI vsR vsO vsS : List Value} {a0 a1 a2 a3 a4 a5 a6 : Stmt} (h0 : a0 = cT w 0) (h1 : a1 = cT w 1) (h2 : a2 = cT w 2) (h3 : a3 = cT w 3) (h4 : a4 = cT w 4) (h5 : a5 = cT w 5) (h6 : a6 = cT w 6)
    (X : (hd.heap_39 w.params).In s.heap) (T : Top p loose mean mg mb s.heap) (B : Below A₀ s.heap [] s.heap)
    (hS : CloSt w s.heap L lE lI lR lO lS h m₀ P o2 nE nI nR nO nS vsI vsR vsO vsS) (hi2 : o2.data = .cell (some (.int (i : Int) ti)))
    (hi : i < P.es.length)
    (post : ∀ h' tk' m', CloSt w s.heap L lE lI lR lO lS h' m' P o2 nE nI nR nO nS vsI vsR vsO vsS → Rest P L h h' → Q .next { s with heap := h', toks := tk' }) :
    wpG (model PySem.Challenge.rw_kn0093_01.row.prog w) (callerA.deeper (lawE w L)) (execs [a0, a1, a2, a3, a4, a5, a6] (lawE w L)) Q (fun _ _ => False) { s with heap := h, toks := tk } := by
  refine g_execs (inner_loop h0 X T hS hi2 hi fun h1' t1 m1 hS1 R1 => ?_)
  refine g_execs (lift (clo_stream h1 X T hS1 hi2 hi fun h2' t2 j sa hj hsa hS2 R2 => ?_))
  refine clo_pieces h2 h3 X T B hS2 hi2 hi hsa fun h3' t3 D vs c hS3 R3 hD hDn hlen hpc => ?_
  refine g_execs (lift (clo_told h4 X T hS3 hi2 hi hj hsa hD hlen hpc fun t4 => ?_))
  refine g_execs (lift (clo_ones h5 X T hS3 hi2 hi hD hlen (hS3.szS sa (List.mem_of_getElem? hsa)) hpc fun h5' t5 hS5 k5 => ?_))
  refine g_execs (lift (clo_signs h6 X T B hS5 hi2 hi fun h6' t6 hS6 k6 => g_nil ?_))
  exact post _ _ _ hS6 (((R1.trans R2).trans R3).trans ((Rest.of k5).trans (Rest.of k6)))
theorem rest_but {w : World} {g : Heap} {L lE lI lR lO lS : Addr} {h h' : Heap} {m₀ m' : Str → Option Value} {P : Pop} {o2 o2' : Obj} {nE nI nR nO nS : Nat} {vsI vsR vsO vsS : List Value} (hS : CloSt w g L lE lI lR lO lS h m₀ P o2 nE nI nR nO nS vsI vsR vsO vsS) {rest : List (Addr × Obj)}
    (F1 : Fr g L h' m') (N1 : News g L h' [(lS, listO vsS.toArray nS), (lO, listO vsO.toArray nO), (lR, listO vsR.toArray nR), (lI, listO vsI.toArray nI), (lE, listO (P.es.map Value.ref).toArray nE), (L + 1 + 1, o2')]) (Nr : ∀ p ∈ rest, h'.get? p.1 = some p.2)
    (hall : ∀ b o, h.get? b = some o → b ≠ L → g.get? b = none → b ∉ [lS, lO, lR, lI, lE, L + 1 + 1] → (b, o) ∈ rest) : Rest P L h h' := fun b o e c1 c2 _ => by
  cases c0 : g.get? b with
  | some o' =>
    have := hS.fr.keep _ _ c0
    rw [e] at this; cases this
    exact F1.keep _ _ c0
  | none =>
    by_cases hm : b ∈ [lS, lO, lR, lI, lE, L + 1 + 1]
    · rcases List.mem_append.mp (show b ∈ [lS, lO, lR, lI, lE] ++ [L + 1 + 1] from hm) with hm | hm
      · exact ledger_same (fun p hp => hS.news p (List.mem_append_left [(L + 1 + 1, o2)] hp)) (fun p hp => N1 p (List.mem_append_left [(L + 1 + 1, o2')] hp)) (l := [(lS, listO vsS.toArray nS), (lO, listO vsO.toArray nO), (lR, listO vsR.toArray nR), (lI, listO vsI.toArray nI), (lE, listO (P.es.map Value.ref).toArray nE)]) hm e
      · exact absurd (List.mem_singleton.mp hm) c2
    · exact Nr (b, o) (hall b o e c1 c0 hm)
theorem i_store {w : World} {s : Shared} {Q : Unit → Shared → Prop} {E : Value → Shared → Prop} {L lE lI lR lO lS : Addr} {h : Heap} {tk i : Nat} {ti : Tok} {px : Pos}
    {m₀ : Str → Option Value} {P : Pop} {o2 : Obj} {nE nI nR nO nS : Nat} {vsI vsR vsO vsS : List Value}
    (hO : @LT.lt Nat _ (L + 1 + 1) lE ∧ @LT.lt Nat _ lE lI ∧ @LT.lt Nat _ lI lR ∧ @LT.lt Nat _ lR lO ∧ @LT.lt Nat _ lO lS)
    (hS : CloSt w s.heap L lE lI lR lO lS h m₀ P o2 nE nI nR nO nS vsI vsR vsO vsS)
    (post : ∀ h' o2', CloSt w s.heap L lE lI lR lO lS h' m₀ P o2' nE nI nR nO nS vsI vsR vsO vsS → o2'.data = .cell (some (.int (i : Int) ti)) → Rest P L h h' → Q () { s with heap := h', toks := tk }) :
    wpAny (model PySem.Challenge.rw_kn0093_01.row.prog w) (callerA.deeper (lawE w L)) (assign (.Name "i" px) (lawE w L) (.int (i : Int) ti)) Q E { s with heap := h, toks := tk } := by
  unfold lawE
  obtain ⟨sc, hsc⟩ : ∃ sc, sc = scopeAt 626 w.params := ⟨_, rfl⟩
  rw [← hsc]
  conv at hsc => rhs; whnf
  subst hsc
  have F := hS.fr
  obtain ⟨rest, N, ⟨hr1, hr2, hr3, hr4, hr5, hr6⟩, hall, hK⟩ := hS.open
  obtain ⟨v2, d2⟩ := hS.c2
  obtain ⟨q1, q2, q3, q4, q5⟩ := hO
  have r2 := Nat.lt_trans q1 q2
  have r3 := Nat.lt_trans r2 q3
  have r4 := Nat.lt_trans r3 q4
  have r5 := Nat.lt_trans r4 q5
  have n1 : lE ≠ L + 1 + 1 := Nat.ne_of_gt q1
  have n2 : lI ≠ L + 1 + 1 := Nat.ne_of_gt r2
  have n3 : lR ≠ L + 1 + 1 := Nat.ne_of_gt r3
  have n4 : lO ≠ L + 1 + 1 := Nat.ne_of_gt r4
  have n5 : lS ≠ L + 1 + 1 := Nat.ne_of_gt r5
  refine wpAny_assign_Name ?_
  refine' storeX_C (cl := cellsFrom (L + 1) _ []) F N (by rfl) ?U d2 fun h3 o2' F3 N3 d3 => ?_
  case U => k_updF
  dsimp only at N3 ⊢
  have k3 := hK _ _ F3 (fun p hp => (N3 p (by repeat (first | exact hp | refine List.mem_cons_of_mem _ ?_))).1)
  have N3' := newsSub N3 (l' := [(lS, listO vsS.toArray nS), (lO, listO vsO.toArray nO), (lR, listO vsR.toArray nR), (lI, listO vsI.toArray nI), (lE, listO (P.es.map Value.ref).toArray nE), (L + 1 + 1, o2')]) (by repeat (first | exact List.forall_mem_nil _ | refine List.forall_mem_cons.mpr ⟨by k_mem, ?_⟩))
  exact post h3 o2' { hS with fr := F3, news := N3', core := hS.core.to k3.2 k3.1, c2 := ⟨_, d3⟩ } d3 (rest_but hS F3 N3' (fun p hp => (N3 p (by repeat (first | exact hp | refine List.mem_cons_of_mem _ ?_))).1) hall)
end Mine
end
section -- L1X
open PySem PySem.W PyProof.Rows PySem.Calls
set_option maxRecDepth 100000
namespace Mine
set_option maxHeartbeats 4000000
local macro_rules | `(tactic| k_room) => `(tactic| ((try simp only [depth_mark, depth_under_make, depth_under_kw, depth_in1, depth_deeper, depth_caller]); (first | ((show _ + _ < 1000); omega) | ((show _ < 1000); omega))))
local macro_rules | `(tactic| k_all) => `(tactic| assumption)
local macro_rules | `(tactic| walk_at "call builtin:len") => `(tactic| (k_here; k_dflt (refine' len_lst ?N ?m ?e ?z ?_; (case N => k_asm); (case m => k_mem); (case e => with_reducible assumption); (case z => with_reducible assumption))))
theorem cl_eq (w : World) : forB (c7S w) = [cT w 0, cT w 1, cT w 2, cT w 3, cT w 4, cT w 5, cT w 6] := by with_unfolding_all rfl
theorem clo_walk {w : World} {p : Program} {loose : List Str} {mg mb : Str → Option Value} {mean : ExcName → Option Value} {s : Shared} {A₀ : Around} {Q : Flow → Shared → Prop} {L lE lI lR lO lS : Addr} {h : Heap} {tk : Nat}
    {m₀ : Str → Option Value} {P : Pop} {o2 : Obj} {nE nI nR nO nS : Nat} {vsI vsR vsO vsS : List Value} {st : Stmt} (hst : st = c7S w)
    (X : (hd.heap_39 w.params).In s.heap) (T : Top p loose mean mg mb s.heap) (B : Below A₀ s.heap [] s.heap)
    (hO : @LT.lt Nat _ (L + 1 + 1) lE ∧ @LT.lt Nat _ lE lI ∧ @LT.lt Nat _ lI lR ∧ @LT.lt Nat _ lR lO ∧ @LT.lt Nat _ lO lS)
    (hS : CloSt w s.heap L lE lI lR lO lS h m₀ P o2 nE nI nR nO nS vsI vsR vsO vsS)
    (post : ∀ h' tk', (∀ b o, s.heap.get? b = some o → h'.get? b = some o) → Q .next { s with heap := h', toks := tk' }) :
    wpG (model PySem.Challenge.rw_kn0093_01.row.prog w) (callerA.deeper (lawE w L)) (exec st (lawE w L)) Q (fun _ _ => False) { s with heap := h, toks := tk } := by
  have hB : ∀ {h₁ tk₁ i ti} {m₁ : Str → Option Value} {o2' : Obj} {QQ : Flow → Shared → Prop}, CloSt w s.heap L lE lI lR lO lS h₁ m₁ P o2' nE nI nR nO nS vsI vsR vsO vsS → o2'.data = .cell (some (.int ((i : Nat) : Int) ti)) → i < P.es.length → (∀ h' tk' m', CloSt w s.heap L lE lI lR lO lS h' m' P o2' nE nI nR nO nS vsI vsR vsO vsS → Rest P L h₁ h' → QQ .next { s with heap := h', toks := tk' }) →
      wpG (model PySem.Challenge.rw_kn0093_01.row.prog w) (callerA.deeper (lawE w L)) (execs (forB (c7S w)) (lawE w L)) QQ (fun _ _ => False) { s with heap := h₁, toks := tk₁ } := by
    intro h₁ tk₁ i ti m₁ o2' QQ hc h2 hi hq
    rw [cl_eq w]
    exact clo_turn rfl rfl rfl rfl rfl rfl rfl X T B hc h2 hi hq
  have hN : ∀ {h₁ tk₁ i ti px} {m₁ : Str → Option Value} {o2' : Obj} {QQ : Unit → Shared → Prop}, CloSt w s.heap L lE lI lR lO lS h₁ m₁ P o2' nE nI nR nO nS vsI vsR vsO vsS → (∀ h' o2'', CloSt w s.heap L lE lI lR lO lS h' m₁ P o2'' nE nI nR nO nS vsI vsR vsO vsS → o2''.data = .cell (some (.int ((i : Nat) : Int) ti)) → Rest P L h₁ h' → QQ () { s with heap := h', toks := tk₁ }) →
      wpAny (model PySem.Challenge.rw_kn0093_01.row.prog w) (callerA.deeper (lawE w L)) (assign (.Name "i" px) (lawE w L) (.int (i : Int) ti)) QQ (fun _ _ => False) { s with heap := h₁, toks := tk₁ } := by
    intro h₁ tk₁ i ti px m₁ o2' QQ hc hq
    exact i_store hO hc hq
  unfold lawE at hB hN ⊢
  obtain ⟨sc, hsc⟩ : ∃ sc, sc = scopeAt 626 w.params := ⟨_, rfl⟩
  rw [← hsc] at hB hN ⊢
  conv at hsc => rhs; whnf
  subst hsc
  obtain ⟨b0, hb0⟩ : ∃ b, b = forB (c7S w) := ⟨_, rfl⟩
  rw [← hb0] at hB
  conv at hb0 => rhs; whnf
  subst hb0
  conv at hst => rhs; whnf
  subst hst
  have F := hS.fr
  have N := hS.news
  have TR := topRead_of T
  have hfew := hS.few
  have hsz : (P.es.map Value.ref).toArray.size = P.es.length := by simp
  have hz2 : P.es.length ≤ 16777216 := by omega
  refine g_forRange rfl ?_
  k_steps
  rename IsRange _ _ _ _ _ _ _ _ => hr
  rename ∀ (b : Addr) (o : Obj), _ = some o → _ = some o => hk6
  rename_i h6 tk6 t6 u6 v6 F6 N6
  dsimp only at hr hk6
  have hS6 := hS.grow hk6
  have hnone : h6.get? h6.objs.size = none := by
    cases c : h6.get? h6.objs.size with
    | none => rfl
    | some o => exact absurd (Heap.lt_size c) (Nat.lt_irrefl _)
  obtain ⟨zL, zg, zl, zP⟩ := hS6.low hnone
  have zC : h6.objs.size ≠ L + 1 + 1 := fun e => zl (by simp [e])
  refine Stop.mk ⟨_, P.es.length, t6, u6, v6, fun _ h' => ∃ m' o2', CloSt w s.heap L lE lI lR lO lS h' m' P o2' nE nI nR nO nS vsI vsR vsO vsS, rfl, hr, by omega, ⟨m₀, o2, hS6⟩, ?_, ?_, ?_⟩
  · rintro k h1 h2 ⟨m', o2', hc⟩ hk hcls
    dsimp only at hk hcls
    exact ⟨m', o2', hc.ext (z := h6.objs.size) hk (fun o e => cls_notGood (hcls o e)) zL zg zl zP⟩
  · rintro i h1 tki ti oi hi ⟨m', o2', hc⟩ hIt
    dsimp only at hIt ⊢
    refine hN hc fun h2 o2'' hc2 d2 R2 => ?_
    refine hB hc2 d2 hi fun h3 tk3 m3 hc3 R3 => ⟨h3, tk3, rfl, ⟨m3, o2'', hc3⟩, R3 _ _ (R2 _ _ hIt zL zC zP) zL zC zP⟩
  · rintro h' tk' ⟨m', o2', hc⟩
    exact post h' tk' fun b o e => hc.fr.keep b o e
end Mine
end
section -- L1C
open PySem PySem.W PyProof.Rows PySem.Calls
set_option maxRecDepth 100000
namespace Mine
set_option maxHeartbeats 4000000
local macro_rules | `(tactic| k_room) => `(tactic| ((try simp only [depth_mark, depth_under_make, depth_under_kw, depth_in1, depth_deeper, depth_caller]); (first | ((show _ + _ < 1000); omega) | ((show _ < 1000); omega))))
local macro_rules | `(tactic| k_all) => `(tactic| assumption)
theorem mul_len3 {x : Str} {n : Int} (hx : x.length = 1) (h1 : 1 ≤ n) (h3 : n ≤ 3) : 0 < (Txt.mul x n).length ∧ (Txt.mul x n).length ≤ 3 := by
  have hs : x.cps.size = 1 := hx
  have e : n = 1 ∨ n = 2 ∨ n = 3 := by
    obtain ⟨k, rfl⟩ := Int.eq_ofNat_of_zero_le (Int.le_trans (by decide) h1)
    rcases Nat.lt_succ_iff_lt_or_eq.mp (Nat.lt_succ_of_le (Int.ofNat_le.mp h3)) with q | rfl
    · rcases Nat.lt_succ_iff_lt_or_eq.mp q with q | rfl
      · exact .inl (congrArg Int.ofNat (Nat.le_antisymm (Nat.le_of_lt_succ q) (Int.ofNat_le.mp h1)))
      · exact .inr (.inl rfl)
    · exact .inr (.inr rfl)
  unfold Txt.mul
  rw [if_neg (Int.not_lt.mpr h1)]
  split
  · rw [hx]; exact ⟨by decide, by decide⟩
  · show 0 < ((List.replicate n.toNat x.cps).foldl (· ++ ·) #[]).size ∧ ((List.replicate n.toNat x.cps).foldl (· ++ ·) #[]).size ≤ 3
    rcases e with rfl | rfl | rfl
    · simp [hs]
    · simp [List.replicate, hs]
    · simp [List.replicate, hs]
theorem k5_piece {w : World} {p : Program} {loose : List Str} {mg mb : Str → Option Value} {mean : ExcName → Option Value} {s : Shared} {Q : Flow → Shared → Prop} {E : Value → Shared → Prop} {L lE lI lR lO lS lJ It : Addr} {vsJ : List Value} {i n : Nat} {h : Heap} {tk : Nat}
    {x kd k q : Int} {tx t1 t2 t3 : Tok} {m₀ : Str → Option Value} {P : Pop} {bo : List (Array UInt8)} {bs : List Str} {oI o2 : Obj} {nE nI nR nO nS : Nat} {vsI vsR vsO vsS : List Value}
    {st : Stmt} (hst : st = nthS (k5B w) 0)
    (X : (hd.heap_39 w.params).In s.heap) (T : Top p loose mean mg mb s.heap)
    (hS : LawSt w s.heap L lE lI lR lO lS lJ It vsJ i n h (turnM x kd k q tx t1 t2 t3 m₀) P bo bs oI o2 nE nI nR nO nS vsI vsR vsO vsS)
    (post : ∀ h' tk' b u, 0 < b.length → b.length ≤ 3 → LawSt w s.heap L lE lI lR lO lS lJ It vsJ i n h' (fun y => if y = "piece" then some (.str b u) else lawM lE lI lR lO lS (turnM x kd k q tx t1 t2 t3 m₀) y) P bo bs oI o2 nE nI nR nO nS vsI vsR vsO vsS → Q .next { s with heap := h', toks := tk' }) :
    wpAny (model PySem.Challenge.rw_kn0093_01.row.prog w) (callerA.deeper (lawE w L)) (exec st (lawE w L)) Q E { s with heap := h, toks := tk } := by
  unfold lawE
  obtain ⟨sc, hsc⟩ : ∃ sc, sc = scopeAt 626 w.params := ⟨_, rfl⟩
  rw [← hsc]
  conv at hsc => rhs; whnf
  subst hsc
  conv at hst => rhs; whnf
  subst hst
  have F := hS.fr
  obtain ⟨rest, N, ⟨hr1, hr2, hr3, hr4, hr5, hr6⟩, hall, hK⟩ := hS.open
  have TR := topRead_of T
  have e3 : (q.fdiv 3).fmod 3 = (q.fdiv 3) % 3 := Int.fmod_eq_emod_of_nonneg _ (by decide)
  have hn1 : 1 ≤ 1 + (q.fdiv 3).fmod 3 := by rw [e3]; have := Int.emod_nonneg (q.fdiv 3) (show (3 : Int) ≠ 0 by decide); omega
  have hn3 : 1 + (q.fdiv 3).fmod 3 ≤ 3 := by rw [e3]; have := Int.emod_lt_of_pos (q.fdiv 3) (show (0 : Int) < 3 by decide); omega
  k_steps
  rename Fr s.heap L _ _ => F1
  rename News s.heap L _ _ => N1
  have hi1 : (Txt.item (Str.ofString "abc") (q.fmod 3)).length = 1 := by with_reducible assumption
  have k1 := hK _ _ F1 (fun p hp => (N1 p (by repeat (first | exact hp | refine List.mem_cons_of_mem _ ?_))).1)
  refine' post _ _ _ _ ?a ?b (hS.same F1 rfl rfl rfl rfl rfl (newsSub N1 (by repeat (first | exact List.forall_mem_nil _ | refine List.forall_mem_cons.mpr ⟨by k_mem, ?_⟩))) k1)
  case a => exact (mul_len3 hi1 hn1 hn3).1
  case b => exact (mul_len3 hi1 hn1 hn3).2
end Mine
end
section -- L1D
open PySem PySem.W PyProof.Rows PySem.Calls
set_option maxRecDepth 100000
namespace Mine
set_option maxHeartbeats 4000000
local macro_rules | `(tactic| k_room) => `(tactic| ((try simp only [depth_mark, depth_under_make, depth_under_kw, depth_in1, depth_deeper, depth_caller]); (first | ((show _ + _ < 1000); omega) | ((show _ < 1000); omega))))
local macro_rules | `(tactic| k_all) => `(tactic| assumption)
local macro_rules | `(tactic| walk_at "subscriptTail") => `(tactic| (k_here; (with_reducible show wpAny _ _ (subscriptTail _ _ (Value.ref _) (Value.int _ _)) _ _ _); k_dflt (refine' item_lst ?N ?m ?h0 ?h1 ?hx ?_; (case N => k_asm); (case m => k_mem); (case h0 => assumption); (case h1 => assumption); (case hx => assumption))))
local macro_rules | `(tactic| walk_at "subscriptTail") => `(tactic| (k_here; (with_reducible show wpAny _ _ (subscriptTail _ _ (Value.ref _) (Value.str _ _)) _ _ _); k_dflt (refine kda_item (knd := PySem.strKind _ _) (by k_asm) (by k_mem) (by k_asm) (strKind_is _ _ _ _) (by assumption) ?_)))
local macro_rules | `(tactic| walk_at "getItem ref str") => `(tactic| (k_here; k_dflt (refine kdt_getItem (knd := PySem.strKind _ _) (by k_asm) (by k_mem) (by k_asm) (strKind_is _ _ _ _) (by assumption) ?_)))
theorem str_app_len (a b : Str) : (a ++ b).length = a.length + b.length := by
  show (a.cps ++ b.cps).size = a.cps.size + b.cps.size
  rw [Array.size_append]
theorem k5_write {w : World} {p : Program} {loose : List Str} {mg mb : Str → Option Value} {mean : ExcName → Option Value} {s : Shared} {A₀ : Around} {base : Heap} {Q : Flow → Shared → Prop} {L lE lI lR lO lS lJ It : Addr} {vsJ : List Value} {i n : Nat} {h : Heap} {tk : Nat}
    {x kd k q : Int} {tx t1 t2 t3 u : Tok} {b : Str} {m₀ : Str → Option Value} {P : Pop} {bo : List (Array UInt8)} {bs : List Str} {oI o2 : Obj} {nE nI nR nO nS : Nat} {vsI vsR vsO vsS : List Value}
    {sm : Stmt} (hsm : sm = nthS (k5B w) 1)
    (X : (hd.heap_39 w.params).In s.heap) (T : Top p loose mean mg mb s.heap) (B : Below A₀ base [] s.heap)
    (hS : LawSt w s.heap L lE lI lR lO lS lJ It vsJ i n h (fun y => if y = "piece" then some (.str b u) else lawM lE lI lR lO lS (turnM x kd k q tx t1 t2 t3 m₀) y) P bo bs oI o2 nE nI nR nO nS vsI vsR vsO vsS)
    (h0 : 0 ≤ k) (h1 : k < (P.es.length : Int)) (hb : 0 < b.length) (hb3 : b.length ≤ 3) (hn : n ≤ 1000)
    (post : ∀ h' tk' j er, P.ex[k.toNat]? = some j → P.ers[j]? = some er → LawSt w s.heap L lE lI lR lO lS lJ It vsJ i (n + 3) h' (fun y => if y = "piece" then some (.str b u) else lawM lE lI lR lO lS (turnM x kd k q tx t1 t2 t3 m₀) y) { P with ers := P.ers.set j { er with b := er.b ++ b } } bo bs oI o2 nE nI nR nO nS vsI vsR vsO vsS → Q .next { s with heap := h', toks := tk' }) :
    wpG (model PySem.Challenge.rw_kn0093_01.row.prog w) (callerA.deeper (lawE w L)) (exec sm (lawE w L)) Q (fun _ _ => False) { s with heap := h, toks := tk } := by
  unfold lawE
  obtain ⟨sc, hsc⟩ : ∃ sc, sc = scopeAt 626 w.params := ⟨_, rfl⟩
  rw [← hsc]
  conv at hsc => rhs; whnf
  subst hsc
  conv at hsm => rhs; whnf
  subst hsm
  have F := hS.fr
  obtain ⟨a, j0, st, j, er, o, kvs, S, ha, hj0, hst, hj, her, hao, hod, hrel, hkeys, hsch, hlin, hler, hvi, hve⟩ := hS.core.pick h0 h1
  have hm := List.mem_of_getElem? her
  obtain ⟨fx, u₁, u₂, u₃, u₄, u₅, u₆, fdx⟩ := id (hS.core.err er hm)
  obtain ⟨nx, ndx⟩ := hS.core.newR er hm
  have na := hS.core.newE a (List.mem_of_getElem? ha)
  have N : News s.heap L h ((a, o) :: (er.x, instObj 612 er.dx) :: (er.dx, _) :: [(It, oI), (lJ, listO vsJ.toArray 0), (lS, listO vsS.toArray nS), (lO, listO vsO.toArray nO), (lR, listO vsR.toArray nR), (lI, listO vsI.toArray nI), (lE, listO (P.es.map Value.ref).toArray nE), (L + 1 + 1, o2)]) :=
    List.forall_mem_cons.mpr ⟨⟨hao, na.1, na.2.1⟩, List.forall_mem_cons.mpr ⟨⟨fx, nx⟩, List.forall_mem_cons.mpr ⟨⟨fdx, ndx⟩, hS.news⟩⟩⟩
  have TR := topRead_of T
  have hx : (P.es.map Value.ref).toArray[k.toNat]? = some (.ref a) := by simp [ha]
  have h2 : k < 16777216 := by have := hS.few; omega
  have lo := na.2.2
  have Z := And.intro F N
  refine g_Expr (g_CallMeth (lift ?_))
  k_steps
  refine lift ?_
  k_steps
  refine g_callWith rfl (g_args (g_spliced (g_eq (if_neg Bool.false_ne_true) (lift ?_))))
  k_steps
  refine g_spliced0 ?_
  obtain ⟨F, N⟩ := Z
  refine ⟨⟨_, .inl rfl, Looks.of_peek (X.keeps F.keep) (by kernel_rfl)⟩, g_call (writeS_call (env := envOfC _ _ L 626 (.ref 625)) rfl rfl X T B F (by decide) (by decide) (List.forall_mem_cons.mpr ⟨⟨fx, nx⟩, List.forall_mem_cons.mpr ⟨⟨fdx, ndx⟩, List.forall_mem_nil _⟩⟩) ⟨fx, u₁, u₂, u₃, u₄, u₅, u₆, fdx⟩ hb (by have := hS.szR er hm; omega) fun v h5 t5 hk5 hB5 => ?_)⟩
  dsimp only at hk5 ⊢
  refine lift (wpAny_dropValue ?_)
  obtain ⟨F5, N5, it5⟩ := hS.but (h' := h5) (ds := [er.dx]) (fun d hd => .inr (.inr ⟨er, hm, .inr (by simpa using hd)⟩)) (fun b o hb e => hk5 b o (fun q => hb (by simp [q])) e)
  refine post h5 t5 j er hj her { hS with fr := F5, news := N5, it := it5, core := hS.core.writeS her hk5 hB5, sep := fun a ha => hS.sep a (has_writeS her ha), fewR := ?_, szR := fun s' hs' => ?_, szS := fun e' he' => Nat.le_trans (hS.szS e' he') (Nat.le_add_right _ _) }
  · show (P.ers.set j _).length ≤ P.es.length
    rw [List.length_set]; exact hS.fewR
  · obtain ⟨j', hj'⟩ := List.mem_iff_getElem?.mp hs'
    rcases set_at her hj' with ⟨_, rfl⟩ | ⟨_, q⟩
    · show (er.b ++ b).length ≤ n + 3
      have := hS.szR er hm
      rw [str_app_len]; omega
    · exact Nat.le_trans (hS.szR s' (List.mem_of_getElem? q)) (Nat.le_add_right _ _)
end Mine
end
section -- L1E
open PySem PySem.W PyProof.Rows PySem.Calls
set_option maxRecDepth 100000
namespace Mine
set_option maxHeartbeats 4000000
local macro_rules | `(tactic| k_room) => `(tactic| ((try simp only [depth_mark, depth_under_make, depth_under_kw, depth_in1, depth_deeper, depth_caller]); (first | ((show _ + _ < 1000); omega) | ((show _ < 1000); omega))))
local macro_rules | `(tactic| k_ne) => `(tactic| (refine neN ?_; (try dsimp only); (first | with_reducible assumption | (refine Ne.symm ?_; with_reducible assumption))))
local macro_rules | `(tactic| k_all) => `(tactic| assumption)
local macro_rules | `(tactic| walk_at "subscriptTail") => `(tactic| (k_here; (with_reducible show wpAny _ _ (subscriptTail _ _ (Value.ref _) (Value.int _ _)) _ _ _); k_dflt (refine' item_lst ?N ?m ?h0 ?h1 ?hx ?_; (case N => k_asm); (case m => k_mem); (case h0 => with_reducible assumption); (case h1 => with_reducible assumption); (case hx => with_reducible assumption))))
local macro_rules | `(tactic| walk_at "getItem ref int") => `(tactic| (k_here; (with_reducible show wpAny _ _ (getItem (Value.ref _) (Value.int _ _)) _ _ _); k_dflt (refine' get_lst ?N ?m ?h0 ?h1 ?hx ?_; (case N => k_asm); (case m => k_mem); (case h0 => with_reducible assumption); (case h1 => with_reducible assumption); (case hx => with_reducible assumption))))
local macro_rules | `(tactic| walk_at "inplaceOp Add bytes bytes") => `(tactic| (k_here; k_dflt (refine' iadd_bytes ?z ?_; (case z => with_reducible assumption)); intro u' k'))
local macro_rules | `(tactic| walk_at "setItem ref int") => `(tactic| (k_here; (with_reducible show wpAny _ _ (setItem (Value.ref _) (Value.int _ _) _) _ _ _); k_dflt (refine' set_lst ?F ?N ?U ?h0 ?h1 ?hz ?_; (case F => k_asm); (case N => k_asm); (case U => k_updF); (case h0 => with_reducible assumption); (case h1 => with_reducible assumption); (case hz => with_reducible assumption)); intro h' n' F' N'; (try dsimp only at N')))
theorem k5_told {w : World} {p : Program} {loose : List Str} {mg mb : Str → Option Value} {mean : ExcName → Option Value} {s : Shared} {Q : Flow → Shared → Prop} {E : Value → Shared → Prop} {L lE lI lR lO lS lJ It : Addr} {vsJ : List Value} {i n : Nat} {h : Heap} {tk : Nat}
    {x kd k q : Int} {tx t1 t2 t3 u : Tok} {b : Str} {m₀ : Str → Option Value} {P : Pop} {bo : List (Array UInt8)} {bs : List Str} {oI o2 : Obj} {nE nI nR nO nS : Nat} {vsI vsR vsO vsS : List Value} {j : Nat} {c : Str}
    {sm : Stmt} (hsm : sm = nthS (k5B w) 2)
    (X : (hd.heap_39 w.params).In s.heap) (T : Top p loose mean mg mb s.heap) (hO : @LT.lt Nat _ (L + 1 + 1) lE ∧ @LT.lt Nat _ lE lI ∧ @LT.lt Nat _ lI lR ∧ @LT.lt Nat _ lR lO ∧ @LT.lt Nat _ lO lS ∧ @LT.lt Nat _ lS lJ ∧ @LT.lt Nat _ lJ It)
    (hS : LawSt w s.heap L lE lI lR lO lS lJ It vsJ i n h (fun y => if y = "piece" then some (.str b u) else lawM lE lI lR lO lS (turnM x kd k q tx t1 t2 t3 m₀) y) P bo bs oI o2 nE nI nR nO nS vsI vsR vsO vsS)
    (h0 : 0 ≤ k) (h1 : k < (P.es.length : Int)) (hj : P.ex[k.toNat]? = some j) (hc : bs[j]? = some c) (hz : c.length + b.length ≤ 1000) (hjs : j < 100)
    (post : ∀ h' tk' m' vsS' nS', LawSt w s.heap L lE lI lR lO lS lJ It vsJ i n h' m' P bo (bs.set j (c ++ b)) oI o2 nE nI nR nO nS' vsI vsR vsO vsS' → Q .next { s with heap := h', toks := tk' }) :
    wpAny (model PySem.Challenge.rw_kn0093_01.row.prog w) (callerA.deeper (lawE w L)) (exec sm (lawE w L)) Q E { s with heap := h, toks := tk } := by
  unfold lawE
  obtain ⟨sc, hsc⟩ : ∃ sc, sc = scopeAt 626 w.params := ⟨_, rfl⟩
  rw [← hsc]
  conv at hsc => rhs; whnf
  subst hsc
  conv at hsm => rhs; whnf
  subst hsm
  have F := hS.fr
  obtain ⟨rest, N, ⟨hr1, hr2, hr3, hr4, hr5, hr6⟩, hall, hK⟩ := hS.open
  have TR := topRead_of T
  obtain ⟨tj, htj⟩ := natsI_at hS.vR hj
  have hx : vsR.toArray[k.toNat]? = some (.int (j : Int) tj) := by simpa using htj
  have hj' : j < vsS.length := by rw [hS.vS.1]; exact (List.getElem?_eq_some_iff.mp hc).1
  obtain ⟨uc, huc⟩ := hS.vS.2 j c _ hc (List.getElem?_eq_getElem hj')
  have h2 : k < 16777216 := by have := hS.few; omega
  have hx2 : vsS.toArray[(j : Int).toNat]? = some (.str c uc) := by simp [hj', huc]
  have hj0 : (0 : Int) ≤ (j : Int) := by omega
  have hj1 : (j : Int) < 16777216 := by omega
  have hj2 : (j : Int) < (vsS.toArray.size : Int) := by rw [List.size_toArray]; omega
  have hz' : c.length + b.length ≤ 16777216 := by omega
  obtain ⟨q1, q2, q3, q4, q5, q6, q7⟩ := hO
  obtain ⟨ne10, ne20, ne21, ne30, ne31, ne32, ne40, ne41, ne42, ne43, ne50, ne51, ne52, ne53, ne54, ne60, ne61, ne62, ne63, ne64, ne65, ne70, ne71, ne72, ne73, ne74, ne75, ne76⟩ := apart8 q1 q2 q3 q4 q5 q6 q7
  k_steps
  rename Fr s.heap L _ _ => F1
  rename News s.heap L _ _ => N1
  have es : ∀ u', vsS.toArray.setIfInBounds (j : Int).toNat (.str (c ++ b) u') = (vsS.set j (.str (c ++ b) u')).toArray := fun u' => by
    apply Array.toList_inj.mp; simp
  rw [es] at N1
  have k1 := hK _ _ F1 (fun p hp => (N1 p (by repeat (first | exact hp | refine List.mem_cons_of_mem _ ?_))).1)
  exact post _ _ _ _ _ (hS.next F1 rfl rfl rfl rfl rfl (newsSub N1 (by repeat (first | exact List.forall_mem_nil _ | refine List.forall_mem_cons.mpr ⟨by k_mem, ?_⟩))) hS.vI hS.vR hS.vO hS.vS.set (hS.core.to k1.2 k1.1) hS.sep hS.c2 hS.pos hS.few hS.fewS hS.fewR hS.szS hS.szR)
end Mine
end
section -- L1F
open PySem PySem.W PyProof.Rows PySem.Calls
set_option maxRecDepth 100000
namespace Mine
set_option maxHeartbeats 4000000
theorem k5_eq (w : World) : k5B w = [nthS (k5B w) 0, nthS (k5B w) 1, nthS (k5B w) 2] := by with_unfolding_all rfl
theorem k5_walk {w : World} {p : Program} {loose : List Str} {mg mb : Str → Option Value} {mean : ExcName → Option Value} {s : Shared} {A₀ : Around} {base : Heap} {Q : Flow → Shared → Prop} {L lE lI lR lO lS lJ It : Addr} {vsJ : List Value} {i n : Nat} {h : Heap} {tk : Nat}
    {x kd k q : Int} {tx t1 t2 t3 : Tok} {m₀ : Str → Option Value} {P : Pop} {oI o2 : Obj} {nE nI nR nO nS : Nat} {vsI vsR vsO vsS : List Value} {sl : List Stmt} (hsl : sl = k5B w)
    (X : (hd.heap_39 w.params).In s.heap) (T : Top p loose mean mg mb s.heap) (B : Below A₀ base [] s.heap) (hO : @LT.lt Nat _ (L + 1 + 1) lE ∧ @LT.lt Nat _ lE lI ∧ @LT.lt Nat _ lI lR ∧ @LT.lt Nat _ lR lO ∧ @LT.lt Nat _ lO lS ∧ @LT.lt Nat _ lS lJ ∧ @LT.lt Nat _ lJ It)
    (hS : LawSt w s.heap L lE lI lR lO lS lJ It vsJ i n h (turnM x kd k q tx t1 t2 t3 m₀) P (P.sts.map (·.b)) (P.ers.map (·.b)) oI o2 nE nI nR nO nS vsI vsR vsO vsS)
    (h0 : 0 ≤ k) (h1 : k < (P.es.length : Int)) (hn : n + 3 ≤ 3 * i) (hi : i ≤ 100)
    (post : ∀ h' tk', LawInv w s.heap L lE lI lR lO lS lJ It vsJ i h' → Q .next { s with heap := h', toks := tk' }) :
    wpG (model PySem.Challenge.rw_kn0093_01.row.prog w) (callerA.deeper (lawE w L)) (execs sl (lawE w L)) Q (fun _ _ => False) { s with heap := h, toks := tk } := by
  rw [hsl, k5_eq w]
  obtain ⟨s0, e0⟩ : ∃ s0, s0 = nthS (k5B w) 0 := ⟨_, rfl⟩
  obtain ⟨s1, e1⟩ : ∃ s1, s1 = nthS (k5B w) 1 := ⟨_, rfl⟩
  obtain ⟨s2, e2⟩ : ∃ s2, s2 = nthS (k5B w) 2 := ⟨_, rfl⟩
  rw [← e0, ← e1, ← e2]
  clear hsl
  refine g_execs (lift (k5_piece e0 X T hS fun h1' tk1 b u hb hb3 hS1 => ?_))
  refine g_execs (k5_write e1 X T B hS1 h0 h1 hb hb3 (by omega) fun h2' tk2 j st hj hst hS2 => ?_)
  have hm := List.mem_of_getElem? hst
  have hjl : j < P.ers.length := (List.getElem?_eq_some_iff.mp hst).1
  have hc : (P.ers.map (·.b))[j]? = some st.b := by rw [List.getElem?_map, hst]; rfl
  refine g_execs (lift (k5_told (j := j) (c := st.b) e2 X T hO hS2 h0 h1 hj hc (by have := hS.szR st hm; omega) (by have := hS.fewR; have := hS.few; omega) fun h3' tk3 m' vsS' nS' hS3 => ?_))
  have e : (P.ers.set j { st with b := st.b ++ b }).map (·.b) = (P.ers.map (·.b)).set j (st.b ++ b) := by rw [List.map_set]
  have hS4 := hS3.more hn
  rw [← e] at hS4
  exact g_nil (post _ _ ⟨m', { P with ers := P.ers.set j { st with b := st.b ++ b } }, oI, o2, nE, nI, nR, nO, nS', vsI, vsR, vsO, vsS', hS4⟩)
end Mine
end
section -- G26
open PySem PySem.W PyProof.Rows PySem.Calls
set_option maxRecDepth 100000
namespace Mine
section
variable {prog : Program} {w : World} {A : Around} {E : Value → Shared → Prop} {s : Shared} {h₀ : Heap} {L l d : Addr} {m : PySem.Str → Option Value} {items : Array Value} {n : Nat} {news : List (Addr × Obj)} {u : Obj → List (Addr × Obj)} {o : Obj} {kvs : List (PySem.Str × Value)}
/-- dict(d) -/
theorem dict_K {Q : Value → Shared → Prop} (F : Fr h₀ L s.heap m) (N : News h₀ L s.heap news) (hbig : h₀.NoLimit) (hm : (d, o) ∈ news) (hd : o.IsDictOf (strKind prog w) kvs) (lo : (d == sysModules) = false) (hz : kvs.length ≤ 100)
    (h : ∀ D h' o', Fr h₀ L h' m → News h₀ L h' ((D, o') :: news) → (∀ p ∈ news, p.1 < D) → (D == sysModules) = false → o'.IsDictOf (strKind prog w) kvs → (∀ b o, s.heap.get? b = some o → h'.get? b = some o) → s.heap.get? D = none → Q (.ref D) { s with heap := h' }) :
    wpAny (model prog w) A (call (.type "dict") [.ref d]) Q E s := by
  refine kt_call_dict (knd := strKind prog w) lo (Heap.dictOf_iff.mpr ⟨o, (N _ hm).1, hd⟩) (by rw [sizeLine_eq]; omega) fun h' hm' hs => ?_
  obtain ⟨o', ho', hd'⟩ := Heap.dictOf_iff.mp hm'
  have N1 := News.push F N { cls := .type "dict", data := .dict #[] }
  refine h _ h' o' ((F.push _).change hs (N1 _ (.head _)).2.1 (N1.fresh (.head _))) (N1.setHead N.apart hs ho') (fun p hp => Heap.lt_size (N p hp).1) (F.notModules (modules_low hbig)) hd' (fun b o' e => hs.extBut b o' (Nat.ne_of_lt (Heap.lt_size e)) (Heap.get?_push_of_some _ e)) ?_
  cases c : s.heap.get? s.heap.objs.size with
  | none => rfl
  | some o => exact absurd (Heap.lt_size c) (Nat.lt_irrefl _)
/-- l.append(v) -/
theorem app_lst {v : Value} {Q : Value → Shared → Prop} (F : Fr h₀ L s.heap m) (N : News h₀ L s.heap news) (U : UpdF l (listO items n) news u) (hz : items.size ≤ 1000)
    (h : ∀ h' n', Fr h₀ L h' m → News h₀ L h' (u (listO (items.push v) n')) → Q .none { s with heap := h' }) : wpAny (model prog w) A (call (.builtin "list.append") [.ref l, v]) Q E s := by
  obtain ⟨pre, post, rfl, hg, a1, a2⟩ := U.split
  have z := N (l, listO items n) (List.mem_append_right _ (.head _))
  refine call_meets PySem.F.slot_list_append (show s.TypeIs (.ref l) "list" from ⟨_, z.1, rfl⟩) PySem.F.entry_list_append (PySem.F.args_list_append_2 _ _) (PySem.AutoListH.list_append_list_val_0 l items n v (by rw [sizeLine_eq]; omega)) ⟨z.1, ?_⟩
  obtain ⟨F', N'⟩ := news_upd (f := Obj.mapSeq fun x => x.push v) (o' := listO (items.push v) (if (items.push v).size == items.size then n else n + 1)) F N a1 a2 rfl rfl
  exact h _ _ F' (by rw [hg]; exact N')
end
end Mine
end
section -- L1G
open PySem PySem.W PyProof.Rows PySem.Calls
set_option maxRecDepth 100000
namespace Mine
set_option maxHeartbeats 4000000
local macro_rules | `(tactic| k_room) => `(tactic| ((try simp only [depth_mark, depth_under_make, depth_under_kw, depth_in1, depth_deeper, depth_caller]); (first | ((show _ + _ < 1000); omega) | ((show _ < 1000); omega))))
local macro_rules | `(tactic| k_ne) => `(tactic| (refine neN ?_; (try dsimp only); (first | with_reducible assumption | (refine Ne.symm ?_; with_reducible assumption))))
local macro_rules | `(tactic| k_all) => `(tactic| assumption)
local macro_rules | `(tactic| walk_at "subscriptTail") => `(tactic| (k_here; (with_reducible show wpAny _ _ (subscriptTail _ _ (Value.ref _) (Value.int _ _)) _ _ _); k_dflt (refine' item_lst ?N ?m ?h0 ?h1 ?hx ?_; (case N => k_asm); (case m => k_mem); (case h0 => with_reducible assumption); (case h1 => with_reducible assumption); (case hx => with_reducible assumption))))
local macro_rules | `(tactic| walk_at "call type:dict") => `(tactic| (k_here; k_dflt (refine' dict_K ?F ?N ?b ?m ?d ?lo ?z ?_; (case F => k_asm); (case N => k_asm); (case b => exact TopRead.nolimit (by k_asm)); (case m => k_mem); (case d => with_reducible assumption); (case lo => with_reducible assumption); (case z => with_reducible assumption)); intro D' h' o' F' N' l1 lo' d' kk' nn'; (try k_lt l1)))
local macro_rules | `(tactic| walk_at "delItem ref str") => `(tactic| (k_here; k_dflt (refine' kob_del (knd := PySem.strKind _ _) ?F ?N ?U ?d ?key ?l ?z ?_; (case F => k_asm); (case N => k_asm); (case U => k_updF); (case d => k_asm); (case key => exact strKind_is _ _ _ _); (case l => with_reducible assumption); (case z => with_reducible assumption)); intro h' o' F' N' d'; (try dsimp only at N')))
def layS0 (kd : Int) (S : List (Str × D)) : List (Str × D) := if kd = 0 then [] else if kd = 2 then del S "wsgi.input" else if kd = 3 then del S "wsgi.errors" else S
def layM (D Bf : Addr) (m : Str → Option Value) : Str → Option Value := fun y => if y = "before" then some (.ref Bf) else if y = "fresh" then some (.ref D) else m y
theorem two_fresh (D Bf A : Addr) (m : Str → Option Value) : ∀ y : Str, (if y = "before" then some (Value.ref Bf) else if y = "fresh" then some (Value.ref D) else if y = "fresh" then some (Value.ref A) else m y) = layM D Bf m y := fun y => by
  unfold layM
  by_cases c1 : y = "before"
  · rw [if_pos c1, if_pos c1]
  · rw [if_neg c1, if_neg c1]
    by_cases c2 : y = "fresh"
    · rw [if_pos c2, if_pos c2]
    · rw [if_neg c2, if_neg c2, if_neg c2]
theorem allLt_mem {d : Nat} {l : List (Addr × Obj)} (h : AllLt d l) : ∀ p ∈ l, @LT.lt Nat _ p.1 d := by
  induction l with
  | nil => intro p hp; cases hp
  | cons q r ih =>
    intro p hp
    rcases List.mem_cons.mp hp with e | hp
    · rw [e]; exact h.1
    · exact ih h.2 p hp
theorem notMem {D It lJ lS lO lR lI lE L2 : Addr} {rest : List (Addr × Obj)} (w : @LT.lt Nat _ It D ∧ @LT.lt Nat _ lJ D ∧ @LT.lt Nat _ lS D ∧ @LT.lt Nat _ lO D ∧ @LT.lt Nat _ lR D ∧ @LT.lt Nat _ lI D ∧ @LT.lt Nat _ lE D ∧ @LT.lt Nat _ L2 D ∧ AllLt D rest) : D ∉ [It, lJ, lS, lO, lR, lI, lE, L2] ∧ AllLt D rest := by
  obtain ⟨w1, w2, w3, w4, w5, w6, w7, w8, w9⟩ := w
  refine ⟨fun hm => ?_, w9⟩
  simp only [List.mem_cons, List.not_mem_nil, or_false] at hm
  rcases hm with e | e | e | e | e | e | e | e
  · exact Nat.ne_of_gt w1 e
  · exact Nat.ne_of_gt w2 e
  · exact Nat.ne_of_gt w3 e
  · exact Nat.ne_of_gt w4 e
  · exact Nat.ne_of_gt w5 e
  · exact Nat.ne_of_gt w6 e
  · exact Nat.ne_of_gt w7 e
  · exact Nat.ne_of_gt w8 e
/-- what has just been laid is not alive before -/
theorem fresh_of {h : Heap} {L : Addr} {g : Heap} {D : Addr} {lits : List Addr} {rest : List (Addr × Obj)} (hall : ∀ b o, h.get? b = some o → b ≠ L → g.get? b = none → b ∉ lits → (b, o) ∈ rest) (hn : D ≠ L ∧ g.get? D = none) (hl : D ∉ lits) (hr : AllLt D rest) : h.get? D = none := by
  cases c : h.get? D with
  | none => rfl
  | some o => exact absurd (allLt_mem hr _ (hall D o c hn.1 hn.2 hl)) (Nat.lt_irrefl _)
theorem pick_ne {w : World} {g h : Heap} {L D : Addr} {P : Pop} (c : Core w g L h P) (hD : h.get? D = none) : ∀ b, P.has b → b ≠ D := fun b hb e => by
  obtain ⟨o, q⟩ := c.has_at hb
  rw [e, hD] at q; cases q
theorem isSome_at {kvs : List (Str × Value)} {k : Str} {v : Value} (e : valueAt kvs k = some v) : (valueAt kvs k).isSome = true := by rw [e]; rfl
theorem lay_open {w : World} {p : Program} {loose : List Str} {mg mb : Str → Option Value} {mean : ExcName → Option Value} {s : Shared} {Q : Flow → Shared → Prop} {L lE lI lR lO lS lJ It : Addr} {vsJ : List Value} {i n : Nat} {h : Heap} {tk : Nat}
    {x kd k q : Int} {tx t1 t2 t3 : Tok} {m₀ : Str → Option Value} {P : Pop} {bo : List (Array UInt8)} {bs : List Str} {oI o2 : Obj} {nE nI nR nO nS : Nat} {vsI vsR vsO vsS : List Value}
    {a : Addr} {o : Obj} {kvs : List (Str × Value)} {S : List (Str × D)} {s0 s1 s2 s3 s4 : Stmt} {rs : List Stmt} (e0 : s0 = nthS (kLB w) 0) (e1 : s1 = nthS (kLB w) 1) (e2 : s2 = nthS (kLB w) 2) (e3 : s3 = nthS (kLB w) 3) (e4 : s4 = nthS (kLB w) 4)
    (X : (hd.heap_39 w.params).In s.heap) (T : Top p loose mean mg mb s.heap) (hO : @LT.lt Nat _ (L + 1 + 1) lE ∧ @LT.lt Nat _ lE lI ∧ @LT.lt Nat _ lI lR ∧ @LT.lt Nat _ lR lO ∧ @LT.lt Nat _ lO lS ∧ @LT.lt Nat _ lS lJ ∧ @LT.lt Nat _ lJ It)
    (hS : LawSt w s.heap L lE lI lR lO lS lJ It vsJ i n h (turnM x kd k q tx t1 t2 t3 m₀) P bo bs oI o2 nE nI nR nO nS vsI vsR vsO vsS) (hkd : kd = 0 ∨ kd = 1 ∨ kd = 2 ∨ kd = 3)
    (h0 : 0 ≤ k) (h1 : k < (P.es.length : Int)) (ha : P.es[k.toNat]? = some a) (hao : h.get? a = some o) (hod : o.IsDictOf (strKind PySem.Challenge.rw_kn0093_01.row.prog w) kvs) (lo : (a == sysModules) = false) (na : a ≠ L ∧ s.heap.get? a = none) (hrel : Rel (At h) kvs S) (hkl : kvs.length ≤ 100)
    (hvi : (valueAt kvs "wsgi.input").isSome = true) (hve : (valueAt kvs "wsgi.errors").isSome = true)
    (post : ∀ h' tk' (D Bf : Addr) (od ob : Obj) (kvs0 : List (Str × Value)), LawSt w s.heap L lE lI lR lO lS lJ It vsJ i n h' (layM D Bf (lawM lE lI lR lO lS (turnM x kd k q tx t1 t2 t3 m₀))) P bo bs oI o2 nE nI nR nO nS vsI vsR vsO vsS →
      News s.heap L h' [(D, od), (Bf, ob), (a, o)] → D ≠ Bf → od.IsDictOf (strKind PySem.Challenge.rw_kn0093_01.row.prog w) kvs0 → kvs0.length ≤ 100 → Rel (At h') kvs0 (layS0 kd S) → ob.IsDictOf (strKind PySem.Challenge.rw_kn0093_01.row.prog w) kvs → Rel (At h') kvs S → (D == sysModules) = false → (Bf == sysModules) = false →
      (∀ b, P.has b → b ≠ D) → D ∉ [It, lJ, lS, lO, lR, lI, lE, L + 1 + 1] →
      wpG (model PySem.Challenge.rw_kn0093_01.row.prog w) (callerA.deeper (lawE w L)) (execs rs (lawE w L)) Q (fun _ _ => False) { s with heap := h', toks := tk' }) :
    wpG (model PySem.Challenge.rw_kn0093_01.row.prog w) (callerA.deeper (lawE w L)) (execs (s0 :: s1 :: s2 :: s3 :: s4 :: rs) (lawE w L)) Q (fun _ _ => False) { s with heap := h, toks := tk } := by
  unfold lawE at post ⊢
  obtain ⟨sc, hsc⟩ : ∃ sc, sc = scopeAt 626 w.params := ⟨_, rfl⟩
  rw [← hsc] at post ⊢
  conv at hsc => rhs; whnf
  subst hsc
  conv at e0 => rhs; whnf
  subst e0
  conv at e1 => rhs; whnf
  subst e1
  conv at e2 => rhs; whnf
  subst e2
  conv at e3 => rhs; whnf
  subst e3
  conv at e4 => rhs; whnf
  subst e4
  have F := hS.fr
  obtain ⟨rest, N, ⟨hr1, hr2, hr3, hr4, hr5, hr6⟩, hall, hK⟩ := hS.open
  replace N := newsMore N hao na
  have TR := topRead_of T
  have hx : (P.es.map Value.ref).toArray[k.toNat]? = some (.ref a) := by simp [ha]
  have h2 : k < 16777216 := by have := hS.few; omega
  have hkz : kvs.length ≤ sizeLine := by rw [sizeLine_eq]; omega
  obtain ⟨q1, q2, q3, q4, q5, q6, q7⟩ := hO
  obtain ⟨ne10, ne20, ne21, ne30, ne31, ne32, ne40, ne41, ne42, ne43, ne50, ne51, ne52, ne53, ne54, ne60, ne61, ne62, ne63, ne64, ne65, ne70, ne71, ne72, ne73, ne74, ne75, ne76⟩ := apart8 q1 q2 q3 q4 q5 q6 q7
  refine g_execs (lift ?_)
  k_steps
  try dsimp only
  rcases hkd with rfl | rfl | rfl | rfl
  · refine g_execs (g_If (lift ?_))
    k_steps
    try dsimp only
    refine g_nil ?_
    refine g_execs (g_If (lift ?_))
    k_steps
    try dsimp only
    refine g_nil ?_
    refine g_execs (g_If (lift ?_))
    k_steps
    try dsimp only
    refine g_nil ?_
    refine g_execs (lift ?_)
    k_steps
    try dsimp only
    rename Fr s.heap L _ _ => F5
    rename News s.heap L _ _ => N5
    rename_i D hA oD loD dD _ _ _ lD _ Bf hC oB loB dB kB nB lB _
    have k5 := hK _ _ F5 (fun p hp => (N5 p (by repeat (first | exact hp | refine List.mem_cons_of_mem _ ?_))).1)
    have F5' := frCongr F5 (m' := layM D Bf (lawM lE lI lR lO lS (turnM x 0 k q tx t1 t2 t3 m₀))) (fun _ => rfl)
    obtain ⟨m1, m2⟩ := notMem lD.2
    have nD := N5 (D, oD) (by k_mem)
    exact post _ _ D Bf oD oB [] (hS.same F5' rfl rfl rfl rfl rfl (newsSub N5 (by repeat (first | exact List.forall_mem_nil _ | refine List.forall_mem_cons.mpr ⟨by k_mem, ?_⟩))) k5) (newsSub N5 (by repeat (first | exact List.forall_mem_nil _ | refine List.forall_mem_cons.mpr ⟨by k_mem, ?_⟩)))
      (Nat.ne_of_lt (show @LT.lt Nat _ D Bf from lB.1)) dD (Nat.zero_le _) trivial dB (hrel.to k5.1) loD loB (pick_ne hS.core (fresh_of hall nD.2 m1 m2)) m1
  · refine g_execs (g_If (lift ?_))
    k_steps
    try dsimp only
    refine g_execs (lift ?_)
    k_steps
    try dsimp only
    refine g_nil ?_
    refine g_execs (g_If (lift ?_))
    k_steps
    try dsimp only
    refine g_nil ?_
    refine g_execs (g_If (lift ?_))
    k_steps
    try dsimp only
    refine g_nil ?_
    refine g_execs (lift ?_)
    k_steps
    try dsimp only
    rename Fr s.heap L _ _ => F5
    rename News s.heap L _ _ => N5
    rename_i _ _ _ _ _ _ _ _ _ _ D hA oD loD dD kD nD lD _ Bf hC oB loB dB kB nB lB _
    have k5 := hK _ _ F5 (fun p hp => (N5 p (by repeat (first | exact hp | refine List.mem_cons_of_mem _ ?_))).1)
    have F5' := frCongr F5 (m' := layM D Bf (lawM lE lI lR lO lS (turnM x 1 k q tx t1 t2 t3 m₀))) (two_fresh _ _ _ _)
    obtain ⟨m1, m2⟩ := notMem lD.2.2
    have nD := N5 (D, oD) (by k_mem)
    exact post _ _ D Bf oD oB kvs (hS.same F5' rfl rfl rfl rfl rfl (newsSub N5 (by repeat (first | exact List.forall_mem_nil _ | refine List.forall_mem_cons.mpr ⟨by k_mem, ?_⟩))) k5) (newsSub N5 (by repeat (first | exact List.forall_mem_nil _ | refine List.forall_mem_cons.mpr ⟨by k_mem, ?_⟩)))
      (Nat.ne_of_lt (show @LT.lt Nat _ D Bf from lB.1)) dD hkl (hrel.to k5.1) dB (hrel.to k5.1) loD loB (pick_ne hS.core (fresh_of hall nD.2 m1 m2)) m1
  · refine g_execs (g_If (lift ?_))
    k_steps
    try dsimp only
    refine g_execs (lift ?_)
    k_steps
    try dsimp only
    refine g_nil ?_
    refine g_execs (g_If (lift ?_))
    k_steps
    try dsimp only
    refine g_execs (lift ?_)
    k_steps
    try dsimp only
    refine g_nil ?_
    refine g_execs (g_If (lift ?_))
    k_steps
    try dsimp only
    refine g_nil ?_
    refine g_execs (lift ?_)
    k_steps
    try dsimp only
    rename Fr s.heap L _ _ => F5
    rename News s.heap L _ _ => N5
    rename_i _ _ _ _ _ _ _ _ _ _ D hA oD0 loD dD0 kD nD lD _ _ oD dD Bf hC oB loB dB kB nB lB _
    have k5 := hK _ _ F5 (fun p hp => (N5 p (by repeat (first | exact hp | refine List.mem_cons_of_mem _ ?_))).1)
    have F5' := frCongr F5 (m' := layM D Bf (lawM lE lI lR lO lS (turnM x 2 k q tx t1 t2 t3 m₀))) (two_fresh _ _ _ _)
    obtain ⟨m1, m2⟩ := notMem lD.2.2
    have nD := N5 (D, oD) (by k_mem)
    exact post _ _ D Bf oD oB (without kvs "wsgi.input") (hS.same F5' rfl rfl rfl rfl rfl (newsSub N5 (by repeat (first | exact List.forall_mem_nil _ | refine List.forall_mem_cons.mpr ⟨by k_mem, ?_⟩))) k5) (newsSub N5 (by repeat (first | exact List.forall_mem_nil _ | refine List.forall_mem_cons.mpr ⟨by k_mem, ?_⟩)))
      (Nat.ne_of_lt (show @LT.lt Nat _ D Bf from lB.1)) dD (Nat.le_trans (List.length_filter_le _ _) hkl) ((hrel.to k5.1).del) dB (hrel.to k5.1) loD loB (pick_ne hS.core (fresh_of hall nD.2 m1 m2)) m1
  · refine g_execs (g_If (lift ?_))
    k_steps
    try dsimp only
    refine g_execs (lift ?_)
    k_steps
    try dsimp only
    refine g_nil ?_
    refine g_execs (g_If (lift ?_))
    k_steps
    try dsimp only
    refine g_nil ?_
    refine g_execs (g_If (lift ?_))
    k_steps
    try dsimp only
    refine g_execs (lift ?_)
    k_steps
    try dsimp only
    refine g_nil ?_
    refine g_execs (lift ?_)
    k_steps
    try dsimp only
    rename Fr s.heap L _ _ => F5
    rename News s.heap L _ _ => N5
    rename_i _ _ _ _ _ _ _ _ _ _ D hA oD0 loD dD0 kD nD lD _ _ oD dD Bf hC oB loB dB kB nB lB _
    have k5 := hK _ _ F5 (fun p hp => (N5 p (by repeat (first | exact hp | refine List.mem_cons_of_mem _ ?_))).1)
    have F5' := frCongr F5 (m' := layM D Bf (lawM lE lI lR lO lS (turnM x 3 k q tx t1 t2 t3 m₀))) (two_fresh _ _ _ _)
    obtain ⟨m1, m2⟩ := notMem lD.2.2
    have nD := N5 (D, oD) (by k_mem)
    exact post _ _ D Bf oD oB (without kvs "wsgi.errors") (hS.same F5' rfl rfl rfl rfl rfl (newsSub N5 (by repeat (first | exact List.forall_mem_nil _ | refine List.forall_mem_cons.mpr ⟨by k_mem, ?_⟩))) k5) (newsSub N5 (by repeat (first | exact List.forall_mem_nil _ | refine List.forall_mem_cons.mpr ⟨by k_mem, ?_⟩)))
      (Nat.ne_of_lt (show @LT.lt Nat _ D Bf from lB.1)) dD (Nat.le_trans (List.length_filter_le _ _) hkl) ((hrel.to k5.1).del) dB (hrel.to k5.1) loD loB (pick_ne hS.core (fresh_of hall nD.2 m1 m2)) m1
end Mine
end
section -- L1H
open PySem PySem.W PyProof.Rows PySem.Calls
set_option maxRecDepth 100000
namespace Mine
set_option maxHeartbeats 4000000
local macro_rules | `(tactic| k_room) => `(tactic| ((try simp only [depth_mark, depth_under_make, depth_under_kw, depth_in1, depth_deeper, depth_caller]); (first | ((show _ + _ < 1000); omega) | ((show _ < 1000); omega))))
local macro_rules | `(tactic| k_all) => `(tactic| assumption)
/-- an address that is new: none of what was there -/
structure NewAt (g h : Heap) (L : Addr) (P : Pop) (D : Addr) (lits : List Addr) (z : Addr) : Prop where
  nL : z ≠ L
  ng : g.get? z = none
  nl : z ∉ lits
  nP : ∀ b, P.has b → b ≠ z
  nD : D ≠ z
theorem lay_setup {w : World} {p : Program} {loose : List Str} {mg mb : Str → Option Value} {mean : ExcName → Option Value} {s : Shared} {A₀ : Around} {base : Heap} {Q : Flow → Shared → Prop} {L lE lI lR lO lS lJ It : Addr} {vsJ : List Value} {i n : Nat} {h : Heap} {tk : Nat}
    {m₁ : Str → Option Value} {P : Pop} {bo : List (Array UInt8)} {bs : List Str} {oI o2 : Obj} {nE nI nR nO nS : Nat} {vsI vsR vsO vsS : List Value}
    {S S0 : List (Str × D)} {a D Bf : Addr} {o od ob : Obj} {kvs kvs0 : List (Str × Value)} {s5 : Stmt} (e5 : s5 = nthS (kLB w) 5)
    (X : (hd.heap_39 w.params).In s.heap) (T : Top p loose mean mg mb s.heap) (B : Below A₀ base [] s.heap)
    (hS : LawSt w s.heap L lE lI lR lO lS lJ It vsJ i n h (layM D Bf m₁) P bo bs oI o2 nE nI nR nO nS vsI vsR vsO vsS)
    (N : News s.heap L h [(D, od), (Bf, ob), (a, o)]) (nDB : D ≠ Bf) (hod : od.IsDictOf (strKind PySem.Challenge.rw_kn0093_01.row.prog w) kvs0) (hl0 : kvs0.length ≤ 100) (hr0 : Rel (At h) kvs0 S0) (hrel : Rel (At h) kvs S) (lo : (D == sysModules) = false)
    (nPD : ∀ b, P.has b → b ≠ D) (nl : D ∉ [It, lJ, lS, lO, lR, lI, lE, L + 1 + 1]) (hPa : P.has a) (hH : look S0 "HTTPS" = none) (hU : ∀ v, look S0 "wsgi.url_scheme" = some v → ∃ y, v = .str y)
    (post : ∀ h' tk' od' kvs' x dx y sx sdx, LawSt w s.heap L lE lI lR lO lS lJ It vsJ i n h' (layM D Bf m₁) P bo bs oI o2 nE nI nR nO nS vsI vsR vsO vsS → News s.heap L h' [(D, od'), (Bf, ob), (a, o)] → od'.IsDictOf (strKind PySem.Challenge.rw_kn0093_01.row.prog w) kvs' → Rel (At h') kvs' (setupS S0 x sx) → Rel (At h') kvs S →
      FreshB w.params h' x dx y #[] 0 → FreshS w.params h' sx sdx "" 0 → (∀ z ∈ [dx, x, y, sdx, sx], NewAt s.heap h L P D [It, lJ, lS, lO, lR, lI, lE, L + 1 + 1] z) → @LT.lt Nat _ dx sdx → Q .next { s with heap := h', toks := tk' }) :
    wpG (model PySem.Challenge.rw_kn0093_01.row.prog w) (callerA.deeper (lawE w L)) (exec s5 (lawE w L)) Q (fun _ _ => False) { s with heap := h, toks := tk } := by
  unfold lawE
  obtain ⟨sc, hsc⟩ : ∃ sc, sc = scopeAt 626 w.params := ⟨_, rfl⟩
  rw [← hsc]
  conv at hsc => rhs; whnf
  subst hsc
  conv at e5 => rhs; whnf
  subst e5
  have F := hS.fr
  have TR := topRead_of T
  have hN := N
  refine g_Expr (g_CallName (lift ?_))
  k_steps
  refine g_callWith rfl (g_args (g_spliced (g_eq (if_neg Bool.false_ne_true) (lift ?_))))
  k_steps
  refine g_spliced0 ?_
  refine ⟨⟨_, .inl rfl, Looks.of_peek (X.keeps hS.fr.keep) (by kernel_rfl)⟩, g_call (setup_call (env := envOfC _ _ L 626 (.ref 625)) rfl rfl X T B hS.fr (newsSub hN (by simp)) (by decide) (by decide) lo hod hr0 hl0 (fun v hv => by rw [hH] at hv; cases hv) hU fun h2 tk2 od2 kvs2 x dx y sx sdx hk2 hd2 hdict2 hrel2 hlen2 hbelow f1 f2 f3 f4 hB hSx => ?_)⟩
  dsimp only at hk2 hbelow ⊢
  have f1 := ltN f1
  have f2 := ltN f2
  have f3 := ltN f3
  have f4 := ltN f4
  refine lift (wpAny_dropValue ?_)
  have hDL : D ≠ L := (hN _ (.head _)).2.1
  have hDg : s.heap.get? D = none := (hN _ (.head _)).2.2
  have F2 := frBut hS.fr hk2 hDL hDg
  have nD0 := (hN _ (.head _)).1
  have k2 : Kept h h2 := fun b o t e => hk2 b o (fun q => by
    rw [q] at e
    rw [nD0] at e; cases e
    exact dict_notGood hod t) e
  have st2 : Still P h h2 := ⟨k2, fun b hb o e => hk2 b o (nPD b hb) e⟩
  have N2 : News s.heap L h2 [(It, oI), (lJ, listO vsJ.toArray 0), (lS, listO vsS.toArray nS), (lO, listO vsO.toArray nO), (lR, listO vsR.toArray nR), (lI, listO vsI.toArray nI), (lE, listO (P.es.map Value.ref).toArray nE), (L + 1 + 1, o2)] := fun q hq => ⟨hk2 _ _ (fun e => nl (e ▸ List.mem_map_of_mem (f := (·.1)) hq)) (hS.news q hq).1, (hS.news q hq).2⟩
  have nBf := (hN _ (.tail _ (.head _)))
  have nA := (hN _ (.tail _ (.tail _ (.head _))))
  have N2' : News s.heap L h2 [(D, od2), (Bf, ob), (a, o)] := List.forall_mem_cons.mpr ⟨⟨hd2, hDL, hDg⟩, List.forall_mem_cons.mpr ⟨⟨hk2 _ _ (Ne.symm nDB) nBf.1, nBf.2⟩, List.forall_mem_cons.mpr ⟨⟨hk2 _ _ (nPD a hPa) nA.1, nA.2⟩, List.forall_mem_nil _⟩⟩⟩
  have hS2 : LawSt w s.heap L lE lI lR lO lS lJ It vsJ i n h2 (layM D Bf m₁) P bo bs oI o2 nE nI nR nO nS vsI vsR vsO vsS :=
    { hS with fr := F2, news := N2, it := hS.it.at (fun o' e => by
        rw [(hS.news _ (.head _)).1] at e; cases e
        exact (N2 _ (.head _)).1), core := hS.core.to st2.2 st2.1 }
  have new : ∀ z : Addr, @LE.le Nat _ dx z → NewAt s.heap h L P D [It, lJ, lS, lO, lR, lI, lE, L + 1 + 1] z := fun z hz => by
    have dead : ∀ b o', h.get? b = some o' → b ≠ z := fun b o' e q => absurd (Nat.lt_of_lt_of_le (hbelow b o' e) hz) (by rw [q]; exact Nat.lt_irrefl _)
    refine ⟨fun e => ?_, ?_, fun hm => ?_, fun b hb => ?_, dead D _ nD0⟩
    · obtain ⟨oL, _, _, hL, _⟩ := hS.fr.ns
      exact dead _ _ hL e.symm
    · cases c : s.heap.get? z with
      | none => rfl
      | some o' => exact absurd rfl (dead z o' (hS.fr.keep _ _ c))
    · obtain ⟨p, hp, e⟩ := List.mem_map.mp (show z ∈ [(It, oI), (lJ, listO vsJ.toArray 0), (lS, listO vsS.toArray nS), (lO, listO vsO.toArray nO), (lR, listO vsR.toArray nR), (lI, listO vsI.toArray nI), (lE, listO (P.es.map Value.ref).toArray nE), (L + 1 + 1, o2)].map (·.1) from hm)
      exact dead p.1 p.2 (hS.news p hp).1 e
    · obtain ⟨o', q⟩ := hS.core.has_at hb
      exact dead b o' q
  refine post h2 tk2 od2 kvs2 x dx y sx sdx hS2 N2' hdict2 hrel2 (hrel.to k2) hB hSx (fun z hz => new z ?_) (by omega)
  simp only [List.mem_cons, List.not_mem_nil, or_false] at hz
  rcases hz with rfl | rfl | rfl | rfl | rfl <;> omega
end Mine
end
section -- L1I
open PySem PySem.W PyProof.Rows PySem.Calls
set_option maxRecDepth 100000
namespace Mine
set_option maxHeartbeats 4000000
local macro_rules | `(tactic| k_room) => `(tactic| ((try simp only [depth_mark, depth_under_make, depth_under_kw, depth_in1, depth_deeper, depth_caller]); (first | ((show _ + _ < 1000); omega) | ((show _ < 1000); omega))))
local macro_rules | `(tactic| k_all) => `(tactic| assumption)
local macro_rules | `(tactic| walk_at "subscriptTail") => `(tactic| (k_here; (with_reducible show wpAny _ _ (subscriptTail _ _ (Value.ref _) (Value.int _ _)) _ _ _); k_dflt (refine' item_lst ?N ?m ?h0 ?h1 ?hx ?_; (case N => k_asm); (case m => k_mem); (case h0 => with_reducible assumption); (case h1 => with_reducible assumption); (case hx => with_reducible assumption))))
local macro_rules | `(tactic| walk_at "compareOp NotEq ref ref") => `(tactic| (k_here; refine Stop.out ?_))
theorem valueAt_mem {kvs : List (Str × Value)} (nd : (kvs.map (·.1)).Nodup) {p : Str × Value} (hp : p ∈ kvs) : valueAt kvs p.1 = some p.2 := by
  obtain ⟨i, hi⟩ := List.mem_iff_getElem?.mp hp
  rw [valueAt_look]
  exact look_some_of (i := i) (d := p.2) (k := p.1) hi fun j q hj hq e => absurd (nodup_at nd hq hi e) (Nat.ne_of_lt hj)
open PySem.SeqAt in
theorem hits_self {A : Around} {s : Shared} {kvs : List (Str × Value)} {S : List (Str × D)} {P : Addr → Obj → Prop} (nd : (kvs.map (·.1)).Nodup) (r : Rel P kvs S) (h : ∀ a o, P a o → s.heap.get? a = some o) (hu : A.units < cLine) : KeqHits A s kvs kvs true := by
  have key : ∀ (l : List (Str × Value)), (∀ p ∈ l, p ∈ kvs) → KeqHits A s kvs l true := by
    intro l
    induction l with
    | nil => intro _; exact .nil
    | cons p l ih =>
      intro hl
      have hp := hl p (.head _)
      obtain ⟨i, hi⟩ := List.mem_iff_getElem?.mp hp
      have hi2 : i < S.length := by rw [← r.length]; exact (List.getElem?_eq_some_iff.mp hi).1
      obtain ⟨_, dv⟩ := r.idx (k := p.1) (x := p.2) (i := i) hi (List.getElem?_eq_getElem hi2)
      exact KeqHits.hit (e := true) (b := true) (valueAt_mem nd hp) (eqAt_dv dv dv h h hu) (ih fun q hq => hl q (.tail _ hq))
  exact key kvs fun _ h => h
theorem lay_cmp {w : World} {p : Program} {loose : List Str} {mg mb : Str → Option Value} {mean : ExcName → Option Value} {s : Shared} {Q : Flow → Shared → Prop} {E : Value → Shared → Prop} {L lE lI lR lO lS lJ It : Addr} {vsJ : List Value} {i n : Nat} {h : Heap} {tk : Nat}
    {x kd k q : Int} {tx t1 t2 t3 : Tok} {m₀ : Str → Option Value} {P : Pop} {bo : List (Array UInt8)} {bs : List Str} {oI o2 : Obj} {nE nI nR nO nS : Nat} {vsI vsR vsO vsS : List Value}
    {S : List (Str × D)} {a D Bf : Addr} {o ob : Obj} {kvs : List (Str × Value)} {s6 : Stmt} (e6 : s6 = nthS (kLB w) 6)
    (X : (hd.heap_39 w.params).In s.heap) (T : Top p loose mean mg mb s.heap)
    (hS : LawSt w s.heap L lE lI lR lO lS lJ It vsJ i n h (layM D Bf (lawM lE lI lR lO lS (turnM x kd k q tx t1 t2 t3 m₀))) P bo bs oI o2 nE nI nR nO nS vsI vsR vsO vsS)
    (h0 : 0 ≤ k) (h1 : k < (P.es.length : Int)) (ha : P.es[k.toNat]? = some a) (N : News s.heap L h [(Bf, ob), (a, o)]) (hod : o.IsDictOf (strKind PySem.Challenge.rw_kn0093_01.row.prog w) kvs) (hob : ob.IsDictOf (strKind PySem.Challenge.rw_kn0093_01.row.prog w) kvs) (hrel : Rel (At h) kvs S) (lo : (a == sysModules) = false) (loB : (Bf == sysModules) = false)
    (post : ∀ tk', Q .next { s with heap := h, toks := tk' }) :
    wpAny (model PySem.Challenge.rw_kn0093_01.row.prog w) (callerA.deeper (lawE w L)) (exec s6 (lawE w L)) Q E { s with heap := h, toks := tk } := by
  unfold lawE
  obtain ⟨sc, hsc⟩ : ∃ sc, sc = scopeAt 626 w.params := ⟨_, rfl⟩
  rw [← hsc]
  conv at hsc => rhs; whnf
  subst hsc
  conv at e6 => rhs; whnf
  subst e6
  have F := hS.fr
  have N2 := And.intro trivial N
  have N1 : News s.heap L h ((Bf, ob) :: (a, o) :: _) := List.forall_mem_cons.mpr ⟨N _ (.head _), List.forall_mem_cons.mpr ⟨N _ (.tail _ (.head _)), hS.news⟩⟩
  clear N
  have TR := topRead_of T
  have hx : (P.es.map Value.ref).toArray[k.toNat]? = some (.ref a) := by simp [ha]
  have h2 : k < 16777216 := by have := hS.few; omega
  k_steps
  have nd : (kvs.map (·.1)).Nodup := by obtain ⟨_, _, _, _, _, _, q⟩ := hod; exact q
  refine Stop.mk (kne_pairs (knd := strKind _ w) (kb := kvs) (r := true) N2.2 (.tail _ (.head _)) (.head _) hod hob lo loB rfl (Nat.le_of_ble_eq_true rfl) (hits_self nd hrel (fun _ _ e => e) (Nat.le_of_ble_eq_true rfl)) ?_)
  k_steps
  all_goals exact post _
end Mine
end
section -- L1J
open PySem PySem.W PyProof.Rows PySem.Calls
set_option maxRecDepth 100000
namespace Mine
set_option maxHeartbeats 4000000
theorem natsI_snoc {vs : List Value} {l : List Nat} {j : Nat} {t : Tok} (h : IntsAre vs (natsI l)) : IntsAre (vs ++ [.int (j : Int) t]) (natsI (l ++ [j])) := by
  have e : natsI (l ++ [j]) = natsI l ++ [(j : Int)] := by unfold natsI; rw [List.map_append]; rfl
  rw [e]
  exact h.append (.cons _ _ .nil)
theorem OctAre.snoc {vs : List Value} {bo : List (Array UInt8)} (h : OctAre vs bo) {b : Array UInt8} {u : Tok} : OctAre (vs ++ [.bytes b u]) (bo ++ [b]) := by
  refine ⟨by simp [h.1], fun i c v hc hv => ?_⟩
  rcases Nat.lt_or_ge i bo.length with q | q
  · rw [List.getElem?_append_left q] at hc
    rw [List.getElem?_append_left (by rw [h.1]; exact q)] at hv
    exact h.2 i c v hc hv
  · rw [List.getElem?_append_right q] at hc
    rw [List.getElem?_append_right (by rw [h.1]; exact q), h.1] at hv
    rcases Nat.eq_zero_or_pos (i - bo.length) with z | z
    · rw [z] at hc hv
      simp at hc hv
      exact ⟨u, by rw [← hv, hc]⟩
    · rw [List.getElem?_eq_none (by simp only [List.length_singleton]; omega)] at hc; cases hc
theorem SgnAre.snoc {vs : List Value} {bs : List Str} (h : SgnAre vs bs) {b : Str} {u : Tok} : SgnAre (vs ++ [.str b u]) (bs ++ [b]) := by
  refine ⟨by simp [h.1], fun i c v hc hv => ?_⟩
  rcases Nat.lt_or_ge i bs.length with q | q
  · rw [List.getElem?_append_left q] at hc
    rw [List.getElem?_append_left (by rw [h.1]; exact q)] at hv
    exact h.2 i c v hc hv
  · rw [List.getElem?_append_right q] at hc
    rw [List.getElem?_append_right (by rw [h.1]; exact q), h.1] at hv
    rcases Nat.eq_zero_or_pos (i - bs.length) with z | z
    · rw [z] at hc hv
      simp at hc hv
      exact ⟨u, by rw [← hv, hc]⟩
    · rw [List.getElem?_eq_none (by simp only [List.length_singleton]; omega)] at hc; cases hc
theorem lay_fin {w : World} {g : Heap} {L lE lI lR lO lS lJ It : Addr} {vsJ : List Value} {i n : Nat} {h h' : Heap} {m₀ m' : Str → Option Value} {P : Pop} {oI o2 od : Obj} {nE nI nR nO nS nE' nI' nR' nO' nS' : Nat} {vsI vsR vsO vsS vsI' vsR' vsO' vsS' : List Value}
    {n1 : List Stm} {n2 : List Erm} {i' e' : Nat} {st : Stm} {er : Erm} {S' : List (Str × D)} {kvs' : List (Str × Value)} {D : Addr}
    (hS : LawSt w g L lE lI lR lO lS lJ It vsJ i n h m₀ P (P.sts.map (·.b)) (P.ers.map (·.b)) oI o2 nE nI nR nO nS vsI vsR vsO vsS) (hn : n ≤ 3 * i)
    (F' : Fr g L h' m') (e1 : m' "signs" = some (.ref lS)) (e2 : m' "octets" = some (.ref lO)) (e3 : m' "errors" = some (.ref lR)) (e4 : m' "inputs" = some (.ref lI)) (e5 : m' "environs" = some (.ref lE))
    (N' : News g L h' [(It, oI), (lJ, listO vsJ.toArray 0), (lS, listO vsS'.toArray nS'), (lO, listO vsO'.toArray nO'), (lR, listO vsR'.toArray nR'), (lI, listO vsI'.toArray nI'), (lE, listO ((P.es ++ [D]).map Value.ref).toArray nE'), (L + 1 + 1, o2)])
    (vI : IntsAre vsI' (natsI (P.ix ++ [i']))) (vR : IntsAre vsR' (natsI (P.ex ++ [e']))) (vO : OctAre vsO' ((P.sts ++ n1).map (·.b))) (vS : SgnAre vsS' ((P.ers ++ n2).map (·.b)))
    (keep : ∀ b o, h.get? b = some o → b ≠ L → g.get? b = none → b ∉ [It, lJ, lS, lO, lR, lI, lE, L + 1 + 1] → h'.get? b = some o) (still : Still P h h')
    (nD : D ≠ L ∧ g.get? D = none) (nl : D ∉ [It, lJ, lS, lO, lR, lI, lE, L + 1 + 1]) (nP : ∀ b, P.has b → b ≠ D) (lo : (D == sysModules) = false) (hDo : h.get? D = some od) (hod : od.IsDictOf (strKind PySem.Challenge.rw_kn0093_01.row.prog w) kvs') (hr : Rel (At h) kvs' S')
    (hkeys : ∀ k ∈ S'.map (·.1), k ∈ keysAll) (hsch : ∀ v, look S' "wsgi.url_scheme" = some v → ∃ y, v = .str y) (hin : look S' "wsgi.input" = some (.obj st.x)) (her : look S' "wsgi.errors" = some (.obj er.x))
    (l1 : n1.length ≤ 1) (h1 : ∀ s ∈ n1, s.b = #[] ∧ FreshB w.params h s.x s.dx s.y #[] 0 ∧ ∀ z ∈ [s.x, s.dx, s.y], NewAt g h L P D [It, lJ, lS, lO, lR, lI, lE, L + 1 + 1] z)
    (l2 : n2.length ≤ 1) (h2 : ∀ e ∈ n2, e.b = "" ∧ FreshS w.params h e.x e.dx "" 0 ∧ ∀ z ∈ [e.x, e.dx], NewAt g h L P D [It, lJ, lS, lO, lR, lI, lE, L + 1 + 1] z) (h12 : ∀ s ∈ n1, ∀ e ∈ n2, s.dx ≠ e.dx)
    (hi : (P.sts ++ n1)[i']? = some st) (he : (P.ers ++ n2)[e']? = some er) (few : P.es.length < 12) :
    LawInv w g L lE lI lR lO lS lJ It vsJ i h' := by
  have hE : EnvAt w h' D st.x er.x := ⟨od, kvs', S', keep D od hDo nD.1 nD.2 nl, hod, hr.to still.1, hkeys, hsch, hin, her⟩
  have mvS : ∀ s ∈ n1, FreshB w.params h' s.x s.dx s.y s.b (s.b.size : Int) := fun s hs => by
    obtain ⟨hb, hf, hz⟩ := h1 s hs
    have hf' := hf.mv (h' := h') fun a ha o e => by
      have z := hz a (by rcases ha with rfl | rfl | rfl <;> simp)
      exact keep a o e z.nL z.ng z.nl
    rw [hb]; exact hf'
  have mvE : ∀ s ∈ n2, FreshS w.params h' s.x s.dx s.b (s.b.length : Int) := fun s hs => by
    obtain ⟨hb, hf, hz⟩ := h2 s hs
    have hf' := hf.mv (h' := h') fun a ha o e => by
      have z := hz a (by rcases ha with rfl | rfl <;> simp)
      exact keep a o e z.nL z.ng z.nl
    rw [hb]; exact hf'
  have core := (hS.core.to still.2 still.1).add (D := D) (i' := i') (e' := e') (n1 := n1) (n2 := n2) (st := st) (er := er) nP ⟨nD.1, nD.2, lo⟩ l1 l2
    (fun s hs => by
      obtain ⟨_, _, hz⟩ := h1 s hs
      have zx := hz s.x (by simp); have zd := hz s.dx (by simp); have zy := hz s.y (by simp)
      exact ⟨zd.nP, zy.nP, mvS s hs, ⟨⟨zx.nL, zx.ng⟩, ⟨zd.nL, zd.ng⟩, ⟨zy.nL, zy.ng⟩⟩, zd.nD⟩)
    (fun e he => by
      obtain ⟨_, _, hz⟩ := h2 e he
      have zx := hz e.x (by simp); have zd := hz e.dx (by simp)
      exact ⟨zd.nP, mvE e he, ⟨⟨zx.nL, zx.ng⟩, ⟨zd.nL, zd.ng⟩⟩, zd.nD⟩) h12 hi he hE
  refine ⟨m', _, oI, o2, nE', nI', nR', nO', nS', vsI', vsR', vsO', vsS', hS.next F' e1 e2 e3 e4 e5 (P' := ⟨P.es ++ [D], P.ix ++ [i'], P.ex ++ [e'], P.sts ++ n1, P.ers ++ n2⟩) N' vI vR vO vS core (fun a ha => ?_) hS.c2 ?_ ?_ ?_ ?_ ?_ ?_⟩
  · rcases ha with ha | ⟨s, hs, ha⟩ | ⟨e, he, ha⟩
    · rcases List.mem_append.mp ha with ha | ha
      · exact hS.sep a (.inl ha)
      · obtain rfl := List.mem_singleton.mp ha
        exact nl
    · rcases List.mem_append.mp hs with hs | hs
      · exact hS.sep a (.inr (.inl ⟨s, hs, ha⟩))
      · exact ((h1 s hs).2.2 a (by rcases ha with rfl | rfl | rfl <;> simp)).nl
    · rcases List.mem_append.mp he with he | he
      · exact hS.sep a (.inr (.inr ⟨e, he, ha⟩))
      · exact ((h2 e he).2.2 a (by rcases ha with rfl | rfl <;> simp)).nl
  · show 0 < (P.es ++ [D]).length
    simp
  · show (P.es ++ [D]).length ≤ 12
    rw [List.length_append, List.length_singleton]; omega
  · show (P.sts ++ n1).length ≤ (P.es ++ [D]).length
    rw [List.length_append, List.length_append, List.length_singleton]
    have := hS.fewS; omega
  · show (P.ers ++ n2).length ≤ (P.es ++ [D]).length
    rw [List.length_append, List.length_append, List.length_singleton]
    have := hS.fewR; omega
  · intro s hs
    rcases List.mem_append.mp hs with hs | hs
    · exact Nat.le_trans (hS.szS s hs) hn
    · rw [(h1 s hs).1]; exact Nat.zero_le _
  · intro s hs
    rcases List.mem_append.mp hs with hs | hs
    · exact Nat.le_trans (hS.szR s hs) hn
    · rw [(h2 s hs).1]; exact Nat.zero_le _
end Mine
end
section -- L1K
open PySem PySem.W PyProof.Rows PySem.Calls
set_option maxRecDepth 100000
namespace Mine
set_option maxHeartbeats 4000000
local macro_rules | `(tactic| k_room) => `(tactic| ((try simp only [depth_mark, depth_under_make, depth_under_kw, depth_in1, depth_deeper, depth_caller]); (first | ((show _ + _ < 1000); omega) | ((show _ < 1000); omega))))
local macro_rules | `(tactic| k_ne) => `(tactic| (refine neN ?_; (try dsimp only); (first | with_reducible assumption | (refine Ne.symm ?_; with_reducible assumption))))
local macro_rules | `(tactic| k_all) => `(tactic| assumption)
local macro_rules | `(tactic| walk_at "subscriptTail") => `(tactic| (k_here; (with_reducible show wpAny _ _ (subscriptTail _ _ (Value.ref _) (Value.int _ _)) _ _ _); k_dflt (refine' item_lst ?N ?m ?h0 ?h1 ?hx ?_; (case N => k_asm); (case m => k_mem); (case h0 => with_reducible assumption); (case h1 => with_reducible assumption); (case hx => with_reducible assumption))))
local macro_rules | `(tactic| walk_at "call builtin:list.append") => `(tactic| (k_here; (with_reducible show wpAny _ _ (call (Value.builtin _) [Value.ref _, _]) _ _ _); k_dflt (refine' app_lst ?F ?N ?U ?z ?_; (case F => k_asm); (case N => k_asm); (case U => k_updF); (case z => (simp only [Array.size_push, List.size_toArray, List.length_map]; omega))); intro h' n' F' N'; (try dsimp only at N')))
local macro_rules | `(tactic| walk_at "call builtin:len") => `(tactic| (k_here; k_dflt (refine' len_lst ?N ?m (Eq.refl _) ?z ?_; (case N => k_asm); (case m => k_mem); (case z => (simp only [Array.size_push, List.size_toArray, List.length_map]; omega)))))
theorem layS0_0 (S : List (Str × D)) : layS0 0 S = [] := by unfold layS0; rw [if_pos rfl]
theorem layS0_1 (S : List (Str × D)) : layS0 1 S = S := by unfold layS0; rw [if_neg (by decide), if_neg (by decide), if_neg (by decide)]
theorem layS0_2 (S : List (Str × D)) : layS0 2 S = del S "wsgi.input" := by unfold layS0; rw [if_neg (by decide), if_pos rfl]
theorem layS0_3 (S : List (Str × D)) : layS0 3 S = del S "wsgi.errors" := by unfold layS0; rw [if_neg (by decide), if_neg (by decide), if_pos rfl]
theorem layS0_keys {S : List (Str × D)} {kd : Int} (h : ∀ k ∈ S.map (·.1), k ∈ keysAll) : ∀ k ∈ (layS0 kd S).map (·.1), k ∈ keysAll := by
  unfold layS0
  split
  · intro k hk; cases hk
  · split
    · exact fun k hk => h k (keys_del _ _ k hk)
    · split
      · exact fun k hk => h k (keys_del _ _ k hk)
      · exact h
theorem layS0_sch {S : List (Str × D)} {kd : Int} (h : ∀ v, look S "wsgi.url_scheme" = some v → ∃ y, v = .str y) : ∀ v, look (layS0 kd S) "wsgi.url_scheme" = some v → ∃ y, v = .str y := by
  have hd : ∀ k, ∀ v, look (del S k) "wsgi.url_scheme" = some v → ∃ y, v = .str y := fun k v hv => by
    rw [look_del] at hv
    split at hv
    · cases hv
    · exact h v hv
  unfold layS0
  split
  · intro v hv; cases hv
  · split
    · exact hd _
    · split
      · exact hd _
      · exact h
theorem mem3of5 {dx x y sdx sx z : Addr} (h : z ∈ [x, dx, y]) : z ∈ [dx, x, y, sdx, sx] := by
  simp only [List.mem_cons, List.not_mem_nil, or_false] at h ⊢
  rcases h with e | e | e <;> simp [e]
theorem mem2of5 {dx x y sdx sx z : Addr} (h : z ∈ [sx, sdx]) : z ∈ [dx, x, y, sdx, sx] := by
  simp only [List.mem_cons, List.not_mem_nil, or_false] at h ⊢
  rcases h with e | e <;> simp [e]
theorem in_of {S : List (Str × D)} {x sx : Addr} {o : Option D} (h : look S "wsgi.input" = o) : look (setupS S x sx) "wsgi.input" = some (o.getD (.obj x)) := h ▸ (setup_in S x sx).1
theorem er_of {S : List (Str × D)} {x sx : Addr} {o : Option D} (h : look S "wsgi.errors" = o) : look (setupS S x sx) "wsgi.errors" = some (o.getD (.obj sx)) := h ▸ (setup_in S x sx).2
theorem lay_tail {w : World} {p : Program} {loose : List Str} {mg mb : Str → Option Value} {mean : ExcName → Option Value} {s : Shared} {Q : Flow → Shared → Prop} {L lE lI lR lO lS lJ It : Addr} {vsJ : List Value} {i n : Nat} {h : Heap} {tk : Nat}
    {x kd k q : Int} {tx t1 t2 t3 : Tok} {m₀ : Str → Option Value} {P : Pop} {oI o2 : Obj} {nE nI nR nO nS : Nat} {vsI vsR vsO vsS : List Value}
    {S : List (Str × D)} {D Bf : Addr} {od : Obj} {kvs' : List (Str × Value)} {j0 e0 : Nat} {st : Stm} {er : Erm} {xx dx y sx sdx : Addr} {s7 s8 s9 : Stmt} (e7 : s7 = nthS (kLB w) 7) (e8 : s8 = nthS (kLB w) 8) (e9 : s9 = nthS (kLB w) 9)
    (X : (hd.heap_39 w.params).In s.heap) (T : Top p loose mean mg mb s.heap) (hO : @LT.lt Nat _ (L + 1 + 1) lE ∧ @LT.lt Nat _ lE lI ∧ @LT.lt Nat _ lI lR ∧ @LT.lt Nat _ lR lO ∧ @LT.lt Nat _ lO lS ∧ @LT.lt Nat _ lS lJ ∧ @LT.lt Nat _ lJ It)
    (hS : LawSt w s.heap L lE lI lR lO lS lJ It vsJ i n h (layM D Bf (lawM lE lI lR lO lS (turnM x kd k q tx t1 t2 t3 m₀))) P (P.sts.map (·.b)) (P.ers.map (·.b)) oI o2 nE nI nR nO nS vsI vsR vsO vsS) (hkd : kd = 0 ∨ kd = 1 ∨ kd = 2 ∨ kd = 3) (hn : n ≤ 3 * i)
    (h0 : 0 ≤ k) (h1 : k < (P.es.length : Int)) (hj : P.ix[k.toNat]? = some j0) (hst : P.sts[j0]? = some st) (he : P.ex[k.toNat]? = some e0) (her : P.ers[e0]? = some er)
    (hlin : look S "wsgi.input" = some (.obj st.x)) (hler : look S "wsgi.errors" = some (.obj er.x)) (hkeys : ∀ k ∈ S.map (·.1), k ∈ keysAll) (hsch : ∀ v, look S "wsgi.url_scheme" = some v → ∃ y, v = .str y)
    (nD : D ≠ L ∧ s.heap.get? D = none) (nl : D ∉ [It, lJ, lS, lO, lR, lI, lE, L + 1 + 1]) (nP : ∀ b, P.has b → b ≠ D) (lo : (D == sysModules) = false) (hDo : h.get? D = some od) (hod : od.IsDictOf (strKind PySem.Challenge.rw_kn0093_01.row.prog w) kvs') (hr : Rel (At h) kvs' (setupS (layS0 kd S) xx sx))
    (hB : FreshB w.params h xx dx y #[] 0) (hX : FreshS w.params h sx sdx "" 0) (hz : ∀ z ∈ [dx, xx, y, sdx, sx], NewAt s.heap h L P D [It, lJ, lS, lO, lR, lI, lE, L + 1 + 1] z) (hdd : @LT.lt Nat _ dx sdx) (few : P.es.length < 12)
    (post : ∀ h' tk', LawInv w s.heap L lE lI lR lO lS lJ It vsJ i h' → Q .next { s with heap := h', toks := tk' }) :
    wpG (model PySem.Challenge.rw_kn0093_01.row.prog w) (callerA.deeper (lawE w L)) (execs [s7, s8, s9] (lawE w L)) Q (fun _ _ => False) { s with heap := h, toks := tk } := by
  unfold lawE
  obtain ⟨sc, hsc⟩ : ∃ sc, sc = scopeAt 626 w.params := ⟨_, rfl⟩
  rw [← hsc]
  conv at hsc => rhs; whnf
  subst hsc
  conv at e7 => rhs; whnf
  subst e7
  conv at e8 => rhs; whnf
  subst e8
  conv at e9 => rhs; whnf
  subst e9
  have F := hS.fr
  obtain ⟨rest, N, ⟨hr1, hr2, hr3, hr4, hr5, hr6⟩, hall, hK⟩ := hS.open
  have TR := topRead_of T
  obtain ⟨q1, q2, q3, q4, q5, q6, q7⟩ := hO
  obtain ⟨ne10, ne20, ne21, ne30, ne31, ne32, ne40, ne41, ne42, ne43, ne50, ne51, ne52, ne53, ne54, ne60, ne61, ne62, ne63, ne64, ne65, ne70, ne71, ne72, ne73, ne74, ne75, ne76⟩ := apart8 q1 q2 q3 q4 q5 q6 q7
  have h2 : k < 16777216 := by omega
  obtain ⟨tj, htj⟩ := natsI_at hS.vI hj
  obtain ⟨te, hte⟩ := natsI_at hS.vR he
  have hxI : vsI.toArray[k.toNat]? = some (.int (j0 : Int) tj) := by simpa using htj
  have hxR : vsR.toArray[k.toNat]? = some (.int (e0 : Int) te) := by simpa using hte
  have zO : vsO.length = P.sts.length := by rw [hS.vO.1, List.length_map]
  have zS : vsS.length = P.ers.length := by rw [hS.vS.1, List.length_map]
  have zI : vsI.length = P.es.length := by rw [hS.vI.length]; simp [natsI, hS.core.lI]
  have zR : vsR.length = P.es.length := by rw [hS.vR.length]; simp [natsI, hS.core.lR]
  have zf1 := hS.fewS
  have zf2 := hS.fewR
  have eE : (P.es.map Value.ref).toArray.push (.ref D) = ((P.es ++ [D]).map Value.ref).toArray := by simp
  have eI : ∀ v, ((vsO.toArray.push v).size : Int) - 1 = (P.sts.length : Int) := fun v => by rw [Array.size_push, List.size_toArray]; omega
  have eR : ∀ v, ((vsS.toArray.push v).size : Int) - 1 = (P.ers.length : Int) := fun v => by rw [Array.size_push, List.size_toArray]; omega
  refine g_execs (lift ?_)
  k_steps
  try dsimp only
  rcases hkd with rfl | rfl | rfl | rfl
  · refine g_execs (g_If (lift ?_))
    k_steps
    try dsimp only
    refine g_execs (lift ?_)
    k_steps
    try dsimp only
    refine g_execs (lift ?_)
    k_steps
    try dsimp only
    refine g_nil ?_
    refine g_execs (g_If (lift ?_))
    k_steps
    try dsimp only
    refine g_execs (lift ?_)
    k_steps
    try dsimp only
    refine g_execs (lift ?_)
    k_steps
    try dsimp only
    refine g_nil ?_
    dsimp only
    refine g_nil ?_
    rename Fr s.heap L _ _ => F5
    rename News s.heap L _ _ => N5
    rw [eE] at N5
    try simp only [eI, eR] at N5
    try simp only [List.push_toArray] at N5
    have keep : ∀ b o', h.get? b = some o' → b ≠ L → s.heap.get? b = none → b ∉ [It, lJ, lS, lO, lR, lI, lE, L + 1 + 1] → Heap.get? _ b = some o' := fun b o' c1 c2 c3 c4 => (N5 (b, o') (by have hm := hall b o' c1 c2 c3 c4; repeat (first | exact hm | refine List.mem_cons_of_mem _ ?_))).1
    have still := hK _ _ F5 (fun p hp => (N5 p (by repeat (first | exact hp | refine List.mem_cons_of_mem _ ?_))).1)
    have hin0 : look (setupS (layS0 0 S) xx sx) "wsgi.input" = some (.obj xx) := in_of (S := layS0 0 S) (o := none) (by rw [layS0_0]; rfl)
    have her0 : look (setupS (layS0 0 S) xx sx) "wsgi.errors" = some (.obj sx) := er_of (S := layS0 0 S) (o := none) (by rw [layS0_0]; rfl)
    exact post _ _ (lay_fin (n1 := [⟨xx, dx, y, #[]⟩]) (n2 := [⟨sx, sdx, ""⟩]) (i' := P.sts.length) (e' := P.ers.length) (st := ⟨xx, dx, y, #[]⟩) (er := ⟨sx, sdx, ""⟩) (S' := setupS (layS0 0 S) xx sx) hS hn F5 rfl rfl rfl rfl rfl
      (newsSub N5 (by repeat (first | exact List.forall_mem_nil _ | refine List.forall_mem_cons.mpr ⟨by k_mem, ?_⟩))) (natsI_snoc hS.vI) (natsI_snoc hS.vR) (by rw [List.map_append]; exact hS.vO.snoc) (by rw [List.map_append]; exact hS.vS.snoc) keep still nD nl nP lo hDo hod hr
      (fun c hc => (setup_keys _ xx sx c hc).elim (layS0_keys hkeys c) id) (setup_scheme _ xx sx (layS0_sch hsch)) hin0 her0
      (by simp) (List.forall_mem_cons.mpr ⟨⟨rfl, hB, fun z hzz => hz z (mem3of5 hzz)⟩, List.forall_mem_nil _⟩) (by simp) (List.forall_mem_cons.mpr ⟨⟨rfl, hX, fun z hzz => hz z (mem2of5 hzz)⟩, List.forall_mem_nil _⟩) (fun a ha b hb => by obtain rfl := List.mem_singleton.mp ha; obtain rfl := List.mem_singleton.mp hb; exact Nat.ne_of_lt hdd) (by simp) (by simp) few)
  · refine g_execs (g_If (lift ?_))
    k_steps
    try dsimp only
    refine g_execs (lift ?_)
    k_steps
    try dsimp only
    refine g_nil ?_
    refine g_execs (g_If (lift ?_))
    k_steps
    try dsimp only
    refine g_execs (lift ?_)
    k_steps
    try dsimp only
    refine g_nil ?_
    dsimp only
    refine g_nil ?_
    rename Fr s.heap L _ _ => F5
    rename News s.heap L _ _ => N5
    rw [eE] at N5
    try simp only [eI, eR] at N5
    try simp only [List.push_toArray] at N5
    have keep : ∀ b o', h.get? b = some o' → b ≠ L → s.heap.get? b = none → b ∉ [It, lJ, lS, lO, lR, lI, lE, L + 1 + 1] → Heap.get? _ b = some o' := fun b o' c1 c2 c3 c4 => (N5 (b, o') (by have hm := hall b o' c1 c2 c3 c4; repeat (first | exact hm | refine List.mem_cons_of_mem _ ?_))).1
    have still := hK _ _ F5 (fun p hp => (N5 p (by repeat (first | exact hp | refine List.mem_cons_of_mem _ ?_))).1)
    have hin1 : look (setupS (layS0 1 S) xx sx) "wsgi.input" = some (.obj st.x) := in_of (S := layS0 1 S) (o := some (.obj st.x)) (by rw [layS0_1]; exact hlin)
    have her1 : look (setupS (layS0 1 S) xx sx) "wsgi.errors" = some (.obj er.x) := er_of (S := layS0 1 S) (o := some (.obj er.x)) (by rw [layS0_1]; exact hler)
    exact post _ _ (lay_fin (n1 := []) (n2 := []) (i' := j0) (e' := e0) (st := st) (er := er) (S' := setupS (layS0 1 S) xx sx) hS hn F5 rfl rfl rfl rfl rfl
      (newsSub N5 (by repeat (first | exact List.forall_mem_nil _ | refine List.forall_mem_cons.mpr ⟨by k_mem, ?_⟩))) (natsI_snoc hS.vI) (natsI_snoc hS.vR) (by rw [List.append_nil]; exact hS.vO) (by rw [List.append_nil]; exact hS.vS) keep still nD nl nP lo hDo hod hr
      (fun c hc => (setup_keys _ xx sx c hc).elim (layS0_keys hkeys c) id) (setup_scheme _ xx sx (layS0_sch hsch)) hin1 her1
      (by simp) (List.forall_mem_nil _) (by simp) (List.forall_mem_nil _) (fun a ha b hb => by cases hb) (by rw [List.append_nil]; exact hst) (by rw [List.append_nil]; exact her) few)
  · refine g_execs (g_If (lift ?_))
    k_steps
    try dsimp only
    refine g_execs (lift ?_)
    k_steps
    try dsimp only
    refine g_execs (lift ?_)
    k_steps
    try dsimp only
    refine g_nil ?_
    refine g_execs (g_If (lift ?_))
    k_steps
    try dsimp only
    refine g_execs (lift ?_)
    k_steps
    try dsimp only
    refine g_nil ?_
    dsimp only
    refine g_nil ?_
    rename Fr s.heap L _ _ => F5
    rename News s.heap L _ _ => N5
    rw [eE] at N5
    try simp only [eI, eR] at N5
    try simp only [List.push_toArray] at N5
    have keep : ∀ b o', h.get? b = some o' → b ≠ L → s.heap.get? b = none → b ∉ [It, lJ, lS, lO, lR, lI, lE, L + 1 + 1] → Heap.get? _ b = some o' := fun b o' c1 c2 c3 c4 => (N5 (b, o') (by have hm := hall b o' c1 c2 c3 c4; repeat (first | exact hm | refine List.mem_cons_of_mem _ ?_))).1
    have still := hK _ _ F5 (fun p hp => (N5 p (by repeat (first | exact hp | refine List.mem_cons_of_mem _ ?_))).1)
    have hin2 : look (setupS (layS0 2 S) xx sx) "wsgi.input" = some (.obj xx) := in_of (S := layS0 2 S) (o := none) (by rw [layS0_2, look_del, if_pos rfl])
    have her2 : look (setupS (layS0 2 S) xx sx) "wsgi.errors" = some (.obj er.x) := er_of (S := layS0 2 S) (o := some (.obj er.x)) (by rw [layS0_2, look_del, if_neg (by decide)]; exact hler)
    exact post _ _ (lay_fin (n1 := [⟨xx, dx, y, #[]⟩]) (n2 := []) (i' := P.sts.length) (e' := e0) (st := ⟨xx, dx, y, #[]⟩) (er := er) (S' := setupS (layS0 2 S) xx sx) hS hn F5 rfl rfl rfl rfl rfl
      (newsSub N5 (by repeat (first | exact List.forall_mem_nil _ | refine List.forall_mem_cons.mpr ⟨by k_mem, ?_⟩))) (natsI_snoc hS.vI) (natsI_snoc hS.vR) (by rw [List.map_append]; exact hS.vO.snoc) (by rw [List.append_nil]; exact hS.vS) keep still nD nl nP lo hDo hod hr
      (fun c hc => (setup_keys _ xx sx c hc).elim (layS0_keys hkeys c) id) (setup_scheme _ xx sx (layS0_sch hsch)) hin2 her2
      (by simp) (List.forall_mem_cons.mpr ⟨⟨rfl, hB, fun z hzz => hz z (mem3of5 hzz)⟩, List.forall_mem_nil _⟩) (by simp) (List.forall_mem_nil _) (fun a ha b hb => by cases hb) (by simp) (by rw [List.append_nil]; exact her) few)
  · refine g_execs (g_If (lift ?_))
    k_steps
    try dsimp only
    refine g_execs (lift ?_)
    k_steps
    try dsimp only
    refine g_nil ?_
    refine g_execs (g_If (lift ?_))
    k_steps
    try dsimp only
    refine g_execs (lift ?_)
    k_steps
    try dsimp only
    refine g_execs (lift ?_)
    k_steps
    try dsimp only
    refine g_nil ?_
    dsimp only
    refine g_nil ?_
    rename Fr s.heap L _ _ => F5
    rename News s.heap L _ _ => N5
    rw [eE] at N5
    try simp only [eI, eR] at N5
    try simp only [List.push_toArray] at N5
    have keep : ∀ b o', h.get? b = some o' → b ≠ L → s.heap.get? b = none → b ∉ [It, lJ, lS, lO, lR, lI, lE, L + 1 + 1] → Heap.get? _ b = some o' := fun b o' c1 c2 c3 c4 => (N5 (b, o') (by have hm := hall b o' c1 c2 c3 c4; repeat (first | exact hm | refine List.mem_cons_of_mem _ ?_))).1
    have still := hK _ _ F5 (fun p hp => (N5 p (by repeat (first | exact hp | refine List.mem_cons_of_mem _ ?_))).1)
    have hin3 : look (setupS (layS0 3 S) xx sx) "wsgi.input" = some (.obj st.x) := in_of (S := layS0 3 S) (o := some (.obj st.x)) (by rw [layS0_3, look_del, if_neg (by decide)]; exact hlin)
    have her3 : look (setupS (layS0 3 S) xx sx) "wsgi.errors" = some (.obj sx) := er_of (S := layS0 3 S) (o := none) (by rw [layS0_3, look_del, if_pos rfl])
    exact post _ _ (lay_fin (n1 := []) (n2 := [⟨sx, sdx, ""⟩]) (i' := j0) (e' := P.ers.length) (st := st) (er := ⟨sx, sdx, ""⟩) (S' := setupS (layS0 3 S) xx sx) hS hn F5 rfl rfl rfl rfl rfl
      (newsSub N5 (by repeat (first | exact List.forall_mem_nil _ | refine List.forall_mem_cons.mpr ⟨by k_mem, ?_⟩))) (natsI_snoc hS.vI) (natsI_snoc hS.vR) (by rw [List.append_nil]; exact hS.vO) (by rw [List.map_append]; exact hS.vS.snoc) keep still nD nl nP lo hDo hod hr
      (fun c hc => (setup_keys _ xx sx c hc).elim (layS0_keys hkeys c) id) (setup_scheme _ xx sx (layS0_sch hsch)) hin3 her3
      (by simp) (List.forall_mem_nil _) (by simp) (List.forall_mem_cons.mpr ⟨⟨rfl, hX, fun z hzz => hz z (mem2of5 hzz)⟩, List.forall_mem_nil _⟩) (fun a ha b hb => by cases ha) (by rw [List.append_nil]; exact hst) (by simp) few)
end Mine
end
section -- L1L
open PySem PySem.W PyProof.Rows PySem.Calls
set_option maxRecDepth 100000
namespace Mine
set_option maxHeartbeats 4000000
theorem kL_eq (w : World) : kLB w = [nthS (kLB w) 0, nthS (kLB w) 1, nthS (kLB w) 2, nthS (kLB w) 3, nthS (kLB w) 4, nthS (kLB w) 5, nthS (kLB w) 6, nthS (kLB w) 7, nthS (kLB w) 8, nthS (kLB w) 9] := by with_unfolding_all rfl
theorem no_https {S : List (Str × D)} (h : ∀ k ∈ S.map (·.1), k ∈ keysAll) : look S "HTTPS" = none := look_none_of fun i p hp e => by
  have := h p.1 (List.mem_map_of_mem (List.mem_of_getElem? hp))
  rw [e] at this
  exact absurd this (by decide)
theorem lay_walk {w : World} {p : Program} {loose : List Str} {mg mb : Str → Option Value} {mean : ExcName → Option Value} {s : Shared} {A₀ : Around} {base : Heap} {Q : Flow → Shared → Prop} {L lE lI lR lO lS lJ It : Addr} {vsJ : List Value} {i n : Nat} {h : Heap} {tk : Nat}
    {x kd k q : Int} {tx t1 t2 t3 : Tok} {m₀ : Str → Option Value} {P : Pop} {oI o2 : Obj} {nE nI nR nO nS : Nat} {vsI vsR vsO vsS : List Value} {sl : List Stmt} (hsl : sl = kLB w)
    (X : (hd.heap_39 w.params).In s.heap) (T : Top p loose mean mg mb s.heap) (B : Below A₀ base [] s.heap) (hO : @LT.lt Nat _ (L + 1 + 1) lE ∧ @LT.lt Nat _ lE lI ∧ @LT.lt Nat _ lI lR ∧ @LT.lt Nat _ lR lO ∧ @LT.lt Nat _ lO lS ∧ @LT.lt Nat _ lS lJ ∧ @LT.lt Nat _ lJ It)
    (hS : LawSt w s.heap L lE lI lR lO lS lJ It vsJ i n h (turnM x kd k q tx t1 t2 t3 m₀) P (P.sts.map (·.b)) (P.ers.map (·.b)) oI o2 nE nI nR nO nS vsI vsR vsO vsS) (hkd : kd = 0 ∨ kd = 1 ∨ kd = 2 ∨ kd = 3)
    (h0 : 0 ≤ k) (h1 : k < (P.es.length : Int)) (hn : n ≤ 3 * i) (few : P.es.length < 12)
    (post : ∀ h' tk', LawInv w s.heap L lE lI lR lO lS lJ It vsJ i h' → Q .next { s with heap := h', toks := tk' }) :
    wpG (model PySem.Challenge.rw_kn0093_01.row.prog w) (callerA.deeper (lawE w L)) (execs sl (lawE w L)) Q (fun _ _ => False) { s with heap := h, toks := tk } := by
  rw [hsl, kL_eq w]
  obtain ⟨s0, e0⟩ : ∃ z, z = nthS (kLB w) 0 := ⟨_, rfl⟩
  obtain ⟨s1, e1⟩ : ∃ z, z = nthS (kLB w) 1 := ⟨_, rfl⟩
  obtain ⟨s2, e2⟩ : ∃ z, z = nthS (kLB w) 2 := ⟨_, rfl⟩
  obtain ⟨s3, e3⟩ : ∃ z, z = nthS (kLB w) 3 := ⟨_, rfl⟩
  obtain ⟨s4, e4⟩ : ∃ z, z = nthS (kLB w) 4 := ⟨_, rfl⟩
  obtain ⟨s5, e5⟩ : ∃ z, z = nthS (kLB w) 5 := ⟨_, rfl⟩
  obtain ⟨s6, e6⟩ : ∃ z, z = nthS (kLB w) 6 := ⟨_, rfl⟩
  obtain ⟨s7, e7⟩ : ∃ z, z = nthS (kLB w) 7 := ⟨_, rfl⟩
  obtain ⟨s8, e8⟩ : ∃ z, z = nthS (kLB w) 8 := ⟨_, rfl⟩
  obtain ⟨s9, e9⟩ : ∃ z, z = nthS (kLB w) 9 := ⟨_, rfl⟩
  rw [← e0, ← e1, ← e2, ← e3, ← e4, ← e5, ← e6, ← e7, ← e8, ← e9]
  clear hsl
  obtain ⟨a, j, st, e, er, o, kvs, S, ha, hj, hst, he, her, hao, hod, hrel, hkeys, hsch, hlin, hler, hvi, hve⟩ := hS.core.pick h0 h1
  have na := hS.core.newE a (List.mem_of_getElem? ha)
  have hPa : P.has a := .inl (List.mem_of_getElem? ha)
  refine lay_open e0 e1 e2 e3 e4 X T hO hS hkd h0 h1 ha hao hod na.2.2 ⟨na.1, na.2.1⟩ hrel (Nat.le_trans (dict_len hod hrel hkeys) (by decide)) (isSome_at hvi) (isSome_at hve)
    fun ha' tka Dd Bf od ob kvs0 hSa Na nDB hod0 hl0 hr0 hob hrela loD loB nPD nl => ?_
  refine g_execs (lay_setup e5 X T B hSa Na nDB hod0 hl0 hr0 hrela loD nPD nl hPa (no_https (layS0_keys hkeys)) (layS0_sch hsch)
    fun hb' tkb od' kvs' xx dx y sx sdx hSb Nb hod' hr' hrelb hB hX hz hdd => ?_)
  refine g_execs (lift (lay_cmp e6 X T hSb h0 h1 ha (newsSub Nb (by intro q hq; exact .tail _ hq)) hod hob hrelb na.2.2 loB fun tkc => ?_))
  have nD := Nb _ (.head _)
  have hz' : ∀ z ∈ [dx, xx, y, sdx, sx], NewAt s.heap hb' L P Dd [It, lJ, lS, lO, lR, lI, lE, L + 1 + 1] z := fun z hm => ⟨(hz z hm).nL, (hz z hm).ng, (hz z hm).nl, (hz z hm).nP, (hz z hm).nD⟩
  exact lay_tail e7 e8 e9 X T hO hSb hkd hn h0 h1 hj hst he her hlin hler hkeys hsch nD.2 nl nPD loD nD.1 hod' hr' hB hX hz' hdd few post
end Mine
end
section -- L1B
open PySem PySem.W PyProof.Rows PySem.Calls
set_option maxRecDepth 100000
namespace Mine
set_option maxHeartbeats 4000000
theorem k4_eq (w : World) : k4B w = [nthS (k4B w) 0, nthS (k4B w) 1, nthS (k4B w) 2] := by with_unfolding_all rfl
theorem k4_walk {w : World} {p : Program} {loose : List Str} {mg mb : Str → Option Value} {mean : ExcName → Option Value} {s : Shared} {A₀ : Around} {base : Heap} {Q : Flow → Shared → Prop} {L lE lI lR lO lS lJ It : Addr} {vsJ : List Value} {i n : Nat} {h : Heap} {tk : Nat}
    {x kd k q : Int} {tx t1 t2 t3 : Tok} {m₀ : Str → Option Value} {P : Pop} {oI o2 : Obj} {nE nI nR nO nS : Nat} {vsI vsR vsO vsS : List Value} {sl : List Stmt} (hsl : sl = k4B w)
    (X : (hd.heap_39 w.params).In s.heap) (T : Top p loose mean mg mb s.heap) (B : Below A₀ base [] s.heap) (hO : @LT.lt Nat _ (L + 1 + 1) lE ∧ @LT.lt Nat _ lE lI ∧ @LT.lt Nat _ lI lR ∧ @LT.lt Nat _ lR lO ∧ @LT.lt Nat _ lO lS ∧ @LT.lt Nat _ lS lJ ∧ @LT.lt Nat _ lJ It)
    (hS : LawSt w s.heap L lE lI lR lO lS lJ It vsJ i n h (turnM x kd k q tx t1 t2 t3 m₀) P (P.sts.map (·.b)) (P.ers.map (·.b)) oI o2 nE nI nR nO nS vsI vsR vsO vsS)
    (h0 : 0 ≤ k) (h1 : k < (P.es.length : Int)) (hn : n + 3 ≤ 3 * i) (hi : i ≤ 100)
    (post : ∀ h' tk', LawInv w s.heap L lE lI lR lO lS lJ It vsJ i h' → Q .next { s with heap := h', toks := tk' }) :
    wpG (model PySem.Challenge.rw_kn0093_01.row.prog w) (callerA.deeper (lawE w L)) (execs sl (lawE w L)) Q (fun _ _ => False) { s with heap := h, toks := tk } := by
  rw [hsl, k4_eq w]
  obtain ⟨s0, e0⟩ : ∃ s0, s0 = nthS (k4B w) 0 := ⟨_, rfl⟩
  obtain ⟨s1, e1⟩ : ∃ s1, s1 = nthS (k4B w) 1 := ⟨_, rfl⟩
  obtain ⟨s2, e2⟩ : ∃ s2, s2 = nthS (k4B w) 2 := ⟨_, rfl⟩
  rw [← e0, ← e1, ← e2]
  clear hsl
  refine g_execs (lift (k4_piece e0 X T hS fun h1' tk1 b u hb hb3 hS1 => ?_))
  refine g_execs (k4_write e1 X T B hS1 h0 h1 hb hb3 (by omega) fun h2' tk2 j st hj hst hS2 => ?_)
  have hm := List.mem_of_getElem? hst
  have hjl : j < P.sts.length := (List.getElem?_eq_some_iff.mp hst).1
  have hc : (P.sts.map (·.b))[j]? = some st.b := by rw [List.getElem?_map, hst]; rfl
  refine g_execs (lift (k4_told (j := j) (c := st.b) e2 X T hO hS2 h0 h1 hj hc (by have := hS.szS st hm; omega) (by have := hS.fewS; have := hS.few; omega) fun h3' tk3 m' vsO' nO' hS3 => ?_))
  have e : (P.sts.set j { st with b := st.b ++ b }).map (·.b) = (P.sts.map (·.b)).set j (st.b ++ b) := by rw [List.map_set]
  have hS4 := hS3.more hn
  rw [← e] at hS4
  exact g_nil (post _ _ ⟨m', { P with sts := P.sts.set j { st with b := st.b ++ b } }, oI, o2, nE, nI, nR, nO', nS, vsI, vsR, vsO', vsS, hS4⟩)
end Mine
end
section -- L1M
open PySem PySem.W PyProof.Rows PySem.Calls
set_option maxRecDepth 100000
namespace Mine
set_option maxHeartbeats 4000000
local macro_rules | `(tactic| k_room) => `(tactic| ((try simp only [depth_mark, depth_under_make, depth_under_kw, depth_in1, depth_deeper, depth_caller]); (first | ((show _ + _ < 1000); omega) | ((show _ < 1000); omega))))
local macro_rules | `(tactic| k_all) => `(tactic| assumption)
local macro_rules | `(tactic| walk_at "call builtin:len") => `(tactic| (k_here; k_dflt (refine' len_lst ?N ?m ?e ?z ?_; (case N => k_asm); (case m => k_mem); (case e => with_reducible assumption); (case z => with_reducible assumption))))
theorem kd_laid {kd : Int} (h0 : 0 ≤ kd) (h6 : kd < 6) (h4 : ¬ kd = 4) (h5 : ¬ kd = 5) : kd = 0 ∨ kd = 1 ∨ kd = 2 ∨ kd = 3 := by
  obtain ⟨k, rfl⟩ := Int.eq_ofNat_of_zero_le h0
  rcases Nat.lt_succ_iff_lt_or_eq.mp (Int.ofNat_lt.mp h6) with q | rfl
  · rcases Nat.lt_succ_iff_lt_or_eq.mp q with q | rfl
    · rcases Nat.lt_succ_iff_lt_or_eq.mp q with q | rfl
      · rcases Nat.lt_succ_iff_lt_or_eq.mp q with q | rfl
        · rcases Nat.lt_succ_iff_lt_or_eq.mp q with q | rfl
          · exact .inl (congrArg Int.ofNat (Nat.le_zero.mp (Nat.le_of_lt_succ q)))
          · exact .inr (.inl rfl)
        · exact .inr (.inr (.inl rfl))
      · exact .inr (.inr (.inr rfl))
    · exact absurd rfl h4
  · exact absurd rfl h5
theorem turn_stmt {w : World} {p : Program} {loose : List Str} {mg mb : Str → Option Value} {mean : ExcName → Option Value} {s : Shared} {A₀ : Around} {base : Heap} {Q : Flow → Shared → Prop} {L lE lI lR lO lS lJ It : Addr} {vsJ : List Value} {i n : Nat} {h : Heap} {tk : Nat}
    {x kd k q : Int} {tx t1 t2 t3 : Tok} {m₀ : Str → Option Value} {P : Pop} {oI o2 : Obj} {nE nI nR nO nS : Nat} {vsI vsR vsO vsS : List Value} {st : Stmt} (hst : st = turnS w.params 3)
    (X : (hd.heap_39 w.params).In s.heap) (T : Top p loose mean mg mb s.heap) (B : Below A₀ base [] s.heap) (hO : @LT.lt Nat _ (L + 1 + 1) lE ∧ @LT.lt Nat _ lE lI ∧ @LT.lt Nat _ lI lR ∧ @LT.lt Nat _ lR lO ∧ @LT.lt Nat _ lO lS ∧ @LT.lt Nat _ lS lJ ∧ @LT.lt Nat _ lJ It)
    (hS : LawSt w s.heap L lE lI lR lO lS lJ It vsJ i n h (turnM x kd k q tx t1 t2 t3 m₀) P (P.sts.map (·.b)) (P.ers.map (·.b)) oI o2 nE nI nR nO nS vsI vsR vsO vsS) (k0 : 0 ≤ kd) (k6 : kd < 6)
    (h0 : 0 ≤ k) (h1 : k < (P.es.length : Int)) (hn : n + 3 ≤ 3 * i) (hi : i ≤ 100)
    (post : ∀ h' tk', LawInv w s.heap L lE lI lR lO lS lJ It vsJ i h' → Q .next { s with heap := h', toks := tk' }) :
    wpG (model PySem.Challenge.rw_kn0093_01.row.prog w) (callerA.deeper (lawE w L)) (exec st (lawE w L)) Q (fun _ _ => False) { s with heap := h, toks := tk } := by
  have h4 : ∀ {h tk}, LawSt w s.heap L lE lI lR lO lS lJ It vsJ i n h (turnM x kd k q tx t1 t2 t3 m₀) P (P.sts.map (·.b)) (P.ers.map (·.b)) oI o2 nE nI nR nO nS vsI vsR vsO vsS → wpG (model PySem.Challenge.rw_kn0093_01.row.prog w) (callerA.deeper (lawE w L)) (execs (k4B w) (lawE w L)) Q (fun _ _ => False) { s with heap := h, toks := tk } :=
    fun hS => k4_walk rfl X T B hO hS h0 h1 hn hi post
  have h5 : ∀ {h tk} {QQ : Flow → Shared → Prop}, LawSt w s.heap L lE lI lR lO lS lJ It vsJ i n h (turnM x kd k q tx t1 t2 t3 m₀) P (P.sts.map (·.b)) (P.ers.map (·.b)) oI o2 nE nI nR nO nS vsI vsR vsO vsS → (∀ h' tk', LawInv w s.heap L lE lI lR lO lS lJ It vsJ i h' → QQ .next { s with heap := h', toks := tk' }) → wpG (model PySem.Challenge.rw_kn0093_01.row.prog w) (callerA.deeper (lawE w L)) (execs (k5B w) (lawE w L)) QQ (fun _ _ => False) { s with heap := h, toks := tk } :=
    fun hS hq => k5_walk rfl X T B hO hS h0 h1 hn hi hq
  have hL : ∀ {h tk} {QQ : Flow → Shared → Prop}, LawSt w s.heap L lE lI lR lO lS lJ It vsJ i n h (turnM x kd k q tx t1 t2 t3 m₀) P (P.sts.map (·.b)) (P.ers.map (·.b)) oI o2 nE nI nR nO nS vsI vsR vsO vsS → (kd = 0 ∨ kd = 1 ∨ kd = 2 ∨ kd = 3) → P.es.length < 12 → (∀ h' tk', LawInv w s.heap L lE lI lR lO lS lJ It vsJ i h' → QQ .next { s with heap := h', toks := tk' }) → wpG (model PySem.Challenge.rw_kn0093_01.row.prog w) (callerA.deeper (lawE w L)) (execs (kLB w) (lawE w L)) QQ (fun _ _ => False) { s with heap := h, toks := tk } :=
    fun hS hkd few hq => lay_walk rfl X T B hO hS hkd h0 h1 (by omega) few hq
  unfold lawE at h4 h5 hL ⊢
  obtain ⟨sc, hsc⟩ : ∃ sc, sc = scopeAt 626 w.params := ⟨_, rfl⟩
  rw [← hsc] at h4 h5 hL ⊢
  conv at hsc => rhs; whnf
  subst hsc
  obtain ⟨b4, hb4⟩ : ∃ b, b = k4B w := ⟨_, rfl⟩
  rw [← hb4] at h4
  conv at hb4 => rhs; whnf
  subst hb4
  obtain ⟨b5, hb5⟩ : ∃ b, b = k5B w := ⟨_, rfl⟩
  rw [← hb5] at h5
  conv at hb5 => rhs; whnf
  subst hb5
  obtain ⟨bL, hbL⟩ : ∃ b, b = kLB w := ⟨_, rfl⟩
  rw [← hbL] at hL
  conv at hbL => rhs; whnf
  subst hbL
  conv at hst => rhs; whnf
  subst hst
  have F := hS.fr
  obtain ⟨rest, N, ⟨hr1, hr2, hr3, hr4, hr5, hr6⟩, hall, hK⟩ := hS.open
  have TR := topRead_of T
  have hfew := hS.few
  have hsz : (P.es.map Value.ref).toArray.size = P.es.length := by simp
  have hz2 : P.es.length ≤ 16777216 := by omega
  refine g_If ?_
  refine lift ?_
  k_steps
  · exact h4 hS
  · refine g_execs ?_
    refine g_If ?_
    refine lift ?_
    k_steps
    · exact h5 hS fun h' tk' hi => g_nil (post h' tk' hi)
    · refine g_execs ?_
      refine g_If ?_
      refine lift ?_
      k_steps
      · exact hL hS (kd_laid k0 k6 (by assumption) (by assumption)) (by omega) fun h' tk' hi => g_nil (g_nil (post h' tk' hi))
      · exact g_nil (g_nil (g_nil (post _ _ ⟨_, P, oI, o2, nE, nI, nR, nO, nS, vsI, vsR, vsO, vsS, hS.more (by omega)⟩)))
end Mine
end
section -- L1Y
open PySem PySem.W PyProof.Rows PySem.Calls
set_option maxRecDepth 100000
namespace Mine
set_option maxHeartbeats 4000000
local macro_rules | `(tactic| k_room) => `(tactic| ((try simp only [depth_mark, depth_under_make, depth_under_kw, depth_in1, depth_deeper, depth_caller]); (first | ((show _ + _ < 1000); omega) | ((show _ < 1000); omega))))
local macro_rules | `(tactic| k_all) => `(tactic| assumption)
theorem core_one {w : World} {g h : Heap} {L d x dx y sx sdx : Addr} {od : Obj} {kvs : List (Str × Value)} (hd : h.get? d = some od) (hod : od.IsDictOf (strKind PySem.Challenge.rw_kn0093_01.row.prog w) kvs) (hr : Rel (At h) kvs (setupS [] x sx))
    (hB : FreshB w.params h x dx y #[] 0) (hS : FreshS w.params h sx sdx "" 0) (nd : d ≠ L ∧ g.get? d = none ∧ (d == sysModules) = false) (n : ∀ z ∈ [dx, x, y, sdx, sx], z ≠ L ∧ g.get? z = none) (e1 : d ≠ dx) (e2 : d ≠ sdx) (e3 : dx ≠ sdx) :
    Core w g L h ⟨[d], [0], [0], [⟨x, dx, y, #[]⟩], [⟨sx, sdx, ""⟩]⟩ where
  lI := rfl
  lR := rfl
  env := fun j a hj => by
    cases j with
    | zero =>
      simp only [List.getElem?_cons_zero, Option.some.injEq] at hj
      subst hj
      exact ⟨0, _, 0, _, rfl, rfl, rfl, rfl, od, kvs, _, hd, hod, hr, fun k hk => (setup_keys _ _ _ k hk).elim (fun q => nomatch q) id, setup_scheme _ _ _ (fun v hv => nomatch hv), (setup_in [] x sx).1, (setup_in [] x sx).2⟩
    | succ j => simp at hj
  str := fun s hs => by obtain rfl := List.mem_singleton.mp hs; exact hB
  err := fun s hs => by obtain rfl := List.mem_singleton.mp hs; exact hS
  newE := fun a ha => by obtain rfl := List.mem_singleton.mp ha; exact nd
  newS := fun s hs => by obtain rfl := List.mem_singleton.mp hs; exact ⟨n _ (by simp), n _ (by simp), n _ (by simp)⟩
  newR := fun s hs => by obtain rfl := List.mem_singleton.mp hs; exact ⟨n _ (by simp), n _ (by simp)⟩
  ndD := by simp
  ndY := by simp
  ndX := by simp
  dED := fun a ha s hs => by obtain rfl := List.mem_singleton.mp ha; obtain rfl := List.mem_singleton.mp hs; exact e1
  dEX := fun a ha s hs => by obtain rfl := List.mem_singleton.mp ha; obtain rfl := List.mem_singleton.mp hs; exact e2
  dDX := fun a ha s hs => by obtain rfl := List.mem_singleton.mp ha; obtain rfl := List.mem_singleton.mp hs; exact e3
theorem has_one {d x dx y sx sdx a : Addr} (h : Pop.has ⟨[d], [0], [0], [⟨x, dx, y, #[]⟩], [⟨sx, sdx, ""⟩]⟩ a) : a ∈ [d, x, dx, y, sx, sdx] := by
  rcases h with h | ⟨s, hs, h⟩ | ⟨s, hs, h⟩
  · obtain rfl := List.mem_singleton.mp h
    simp
  · obtain rfl := List.mem_singleton.mp hs
    rcases h with rfl | rfl | rfl <;> simp
  · obtain rfl := List.mem_singleton.mp hs
    rcases h with rfl | rfl <;> simp
theorem open_sep {z lE lI d x dx y sx sdx a : Addr} (h1 : @LT.lt Nat _ z d) (h2 : @LT.lt Nat _ d lE) (h3 : @LT.lt Nat _ lE dx) (h4 : @LT.lt Nat _ dx x) (h5 : @LT.lt Nat _ x y) (h6 : @LT.lt Nat _ y sdx) (h7 : @LT.lt Nat _ sdx sx) (h8 : @LT.lt Nat _ sx lI) (ha : a = d ∨ a = x ∨ a = dx ∨ a = y ∨ a = sx ∨ a = sdx) :
    @LT.lt Nat _ z a ∧ @LT.lt Nat _ a lI ∧ a ≠ lE := by
  have u1 := Nat.lt_trans (Nat.lt_trans h1 h2) h3
  have u2 := Nat.lt_trans u1 h4
  have u3 := Nat.lt_trans u2 h5
  have u4 := Nat.lt_trans u3 h6
  have u5 := Nat.lt_trans u4 h7
  have v7 := Nat.lt_trans h7 h8
  have v6 := Nat.lt_trans h6 v7
  have v5 := Nat.lt_trans h5 v6
  have v4 := Nat.lt_trans h4 v5
  have v3 := Nat.lt_trans h3 v4
  have w4 := Nat.lt_trans h3 h4
  have w5 := Nat.lt_trans w4 h5
  have w6 := Nat.lt_trans w5 h6
  have w7 := Nat.lt_trans w6 h7
  rcases ha with e | e | e | e | e | e <;> rw [e]
  · exact ⟨h1, Nat.lt_trans h2 v3, Nat.ne_of_lt h2⟩
  · exact ⟨u2, v5, Nat.ne_of_gt w4⟩
  · exact ⟨u1, v4, Nat.ne_of_gt h3⟩
  · exact ⟨u3, v6, Nat.ne_of_gt w5⟩
  · exact ⟨u5, h8, Nat.ne_of_gt w7⟩
  · exact ⟨u4, v7, Nat.ne_of_gt w6⟩
theorem newsApp {g h : Heap} {L : Addr} {l l' : List (Addr × Obj)} (N : News g L h l) (N' : News g L h l') : News g L h (l ++ l') := fun p hp => (List.mem_append.mp hp).elim (N p) (N' p)
theorem law_open {w : World} {p : Program} {loose : List Str} {mg mb : Str → Option Value} {mean : ExcName → Option Value} {s : Shared} {A₀ : Around} {Q : Flow → Shared → Prop} {L : Addr} {h : Heap} {tk : Nat} {o1 o2 : Obj}
    {s0 s1 s2 s3 s4 s5 : Stmt} {rs : List Stmt} (e0 : s0 = nthS (stmtsAt 626 w.params) 0) (e1 : s1 = nthS (stmtsAt 626 w.params) 1) (e2 : s2 = nthS (stmtsAt 626 w.params) 2) (e3 : s3 = nthS (stmtsAt 626 w.params) 3) (e4 : s4 = nthS (stmtsAt 626 w.params) 4) (e5 : s5 = nthS (stmtsAt 626 w.params) 5)
    (X : (hd.heap_39 w.params).In s.heap) (T : Top p loose mean mg mb s.heap) (B : Below A₀ s.heap [] s.heap)
    (F : Fr s.heap L h (fun _ => none)) (N : News s.heap L h [(L + 1 + 1, o2), (L + 1, o1)]) (c2 : cellO o2)
    (post : ∀ h' tk' (m₀ : Str → Option Value) (lE lI lR lO lS d x dx y sx sdx : Addr) (nE nI nR nO nS : Nat) (vsI vsR vsO vsS : List Value), CloSt w s.heap L lE lI lR lO lS h' m₀ ⟨[d], [0], [0], [⟨x, dx, y, #[]⟩], [⟨sx, sdx, ""⟩]⟩ o2 nE nI nR nO nS vsI vsR vsO vsS →
      (@LT.lt Nat _ (L + 1 + 1) lE ∧ @LT.lt Nat _ lE lI ∧ @LT.lt Nat _ lI lR ∧ @LT.lt Nat _ lR lO ∧ @LT.lt Nat _ lO lS) → News s.heap L h' [(L + 1, o1)] →
      wpG (model PySem.Challenge.rw_kn0093_01.row.prog w) (callerA.deeper (lawE w L)) (execs rs (lawE w L)) Q (fun _ _ => False) { s with heap := h', toks := tk' }) :
    wpG (model PySem.Challenge.rw_kn0093_01.row.prog w) (callerA.deeper (lawE w L)) (execs (s0 :: s1 :: s2 :: s3 :: s4 :: s5 :: rs) (lawE w L)) Q (fun _ _ => False) { s with heap := h, toks := tk } := by
  unfold lawE at post ⊢
  obtain ⟨sc, hsc⟩ : ∃ sc, sc = scopeAt 626 w.params := ⟨_, rfl⟩
  rw [← hsc] at post ⊢
  conv at hsc => rhs; whnf
  subst hsc
  conv at e0 => rhs; whnf
  subst e0
  conv at e1 => rhs; whnf
  subst e1
  conv at e2 => rhs; whnf
  subst e2
  conv at e3 => rhs; whnf
  subst e3
  conv at e4 => rhs; whnf
  subst e4
  conv at e5 => rhs; whnf
  subst e5
  have TR := topRead_of T
  refine g_execs (lift ?_)
  k_steps
  try dsimp only
  rename (_ == sysModules) = false => lo
  rename Obj.IsDictOf (PySem.strKind _ _) _ _ => hod
  rename Fr s.heap L _ _ => F1
  rename News s.heap L _ _ => N1
  refine g_execs (g_Expr (g_CallName (lift ?_)))
  k_steps
  refine g_callWith rfl (g_args (g_spliced (g_eq (if_neg Bool.false_ne_true) (lift ?_))))
  k_steps
  refine g_spliced0 ?_
  rename_i d _ od _ _ _ b1 lE _ b2 hE
  refine ⟨⟨_, .inl rfl, Looks.of_peek (X.keeps F1.keep) (by kernel_rfl)⟩, g_call (setup_call (S := []) (env := envOfC _ _ L 626 (.ref 625)) rfl rfl X T B F1 (newsSub N1 (by simp)) (by decide) (by decide) lo hod trivial (by simp) (fun v hv => nomatch hv) (fun v hv => nomatch hv) fun h2 tk2 od2 kvs2 x dx y sx sdx hk2 hd2 hdict2 hrel2 hlen2 hbelow f1 f2 f3 f4 hB hSx => ?_)⟩
  dsimp only at hk2 hbelow ⊢
  have f1 := ltN f1
  have f2 := ltN f2
  have f3 := ltN f3
  have f4 := ltN f4
  refine lift (wpAny_dropValue ?_)
  have hd0 := N1.get (show (d, od) ∈ _ by k_mem)
  have hdn : d ≠ L ∧ s.heap.get? d = none := (N1 (d, od) (by k_mem)).2
  have F2 := frBut F1 hk2 hdn.1 hdn.2
  have new : ∀ z : Addr, @LE.le Nat _ dx z → z ≠ L ∧ s.heap.get? z = none := fun z hz => by
    have dead : ∀ b o', hE.get? b = some o' → b ≠ z := fun b o' e q => absurd (Nat.lt_of_lt_of_le (hbelow b o' e) hz) (by rw [q]; exact Nat.lt_irrefl _)
    refine ⟨fun e => ?_, ?_⟩
    · obtain ⟨oL, _, _, hL, _⟩ := F1.ns
      exact dead _ _ hL e.symm
    · cases c : s.heap.get? z with
      | none => rfl
      | some o' => exact absurd rfl (dead z o' (F1.keep _ _ c))
  have hdl := hbelow _ _ hd0
  have hEl := hbelow _ _ (N1.get (show (lE, _) ∈ _ by k_mem))
  have nE := N1 (lE, _) (.head _)
  have n2 := N1 (L + 1 + 1, o2) (by k_mem)
  have n1 := N1 (L + 1, o1) (by k_mem)
  obtain ⟨w1, w2⟩ := b1
  obtain ⟨w3, w4, w5⟩ := b2
  obtain ⟨z1, ⟨t₁, t₂, t₃, z2⟩, z3⟩ := id hB
  obtain ⟨y1, u₁, u₂, u₃, u₄, u₅, u₆, y2⟩ := id hSx
  have N2 : News s.heap L h2 [(sx, instObj 612 sdx), (sdx, _), (y, baObj #[]), (x, instObj 365 dx), (dx, _), (lE, W.listOf #[Value.ref d] 0), (d, od2), (L + 1 + 1, o2), (L + 1, o1)] :=
    List.forall_mem_cons.mpr ⟨⟨y1, new _ (by omega)⟩, List.forall_mem_cons.mpr ⟨⟨y2, new _ (by omega)⟩, List.forall_mem_cons.mpr ⟨⟨z3, new _ (by omega)⟩, List.forall_mem_cons.mpr ⟨⟨z1, new _ (by omega)⟩, List.forall_mem_cons.mpr ⟨⟨z2, new _ (by omega)⟩,
      List.forall_mem_cons.mpr ⟨⟨hk2 _ _ (Nat.ne_of_gt w3) nE.1, nE.2⟩, List.forall_mem_cons.mpr ⟨⟨hd2, hdn⟩, List.forall_mem_cons.mpr ⟨⟨hk2 _ _ (Nat.ne_of_lt w1) n2.1, n2.2⟩, List.forall_mem_cons.mpr ⟨⟨hk2 _ _ (Nat.ne_of_lt w2) n1.1, n1.2⟩, List.forall_mem_nil _⟩⟩⟩⟩⟩⟩⟩⟩⟩
  obtain ⟨rest, NR, _, hall⟩ := ledger_all s.heap h2 L []
  replace N2 := newsApp N2 NR
  simp only [List.cons_append, List.nil_append] at N2
  clear NR
  have nall := new
  have F2s := And.intro F2 F2
  clear F1 N1 nE n2 n1 new hk2
  try dsimp only
  refine g_execs (lift ?_)
  k_steps
  try dsimp only
  refine g_execs (lift ?_)
  k_steps
  try dsimp only
  refine g_execs (lift ?_)
  k_steps
  try dsimp only
  refine g_execs (lift ?_)
  k_steps
  try dsimp only
  rename Fr s.heap L _ _ => F5
  rename News s.heap L _ _ => N5
  rename_i lI _ b3 _ lR _ b4 _ lO _ b5 _ lS _ b6 h5
  obtain ⟨F2, _⟩ := F2s
  have K5 : Kept h2 h5 := keep_rest F2 F5 (fun p hp => (N5 p (by repeat (first | exact hp | refine List.mem_cons_of_mem _ ?_))).1) hall fun b o hb => nomatch hb
  obtain ⟨g1, g2, g3, g4, g5, g6, g7, g8, _⟩ := b3
  obtain ⟨i0, i1, i2, i3, i4, i5, i6, i7, i8, _⟩ := b4
  obtain ⟨j0, jj, j1, j2, j3, j4, j5, j6, j7, j8, _⟩ := b5
  obtain ⟨k0, ka, kb, k1, k2, k3, k4, k5, k6, k7, k8, _⟩ := b6
  have a1 := ltN w3
  have a2 := ltN w1
  have a3 := ltN hdl
  have a4 := ltN hEl
  have a5 := ltN g1
  have a6 := ltN i0
  have a7 := ltN j0
  have a8 := ltN k0
  have a9 := ltN g6
  have hB5 : FreshB w.params h5 x dx y #[] 0 := ⟨(N5 (x, _) (by k_mem)).1, ⟨t₁, t₂, t₃, (N5 (dx, _) (by k_mem)).1⟩, (N5 (y, _) (by k_mem)).1⟩
  have hS5 : FreshS w.params h5 sx sdx "" 0 := ⟨(N5 (sx, _) (by k_mem)).1, u₁, u₂, u₃, u₄, u₅, u₆, (N5 (sdx, _) (by k_mem)).1⟩
  have hd5 := (N5 (d, od2) (by k_mem)).1
  have F5' := frCongr F5 (lawM_congr (lE := lE) (lI := lI) (lR := lR) (lO := lO) (lS := lS) (by rfl) (by rfl) (by rfl) (by rfl) (by rfl))
  have N6 := newsSub N5 (l' := [(lS, W.listOf #[Value.str (Str.ofString "") _] 0), (lO, W.listOf #[Value.bytes #[] _] 0), (lR, W.listOf #[Value.int 0 _] 0), (lI, W.listOf #[Value.int 0 tk2] 0), (lE, W.listOf #[Value.ref d] 0), (L + 1 + 1, o2)]) (by repeat (first | exact List.forall_mem_nil _ | refine List.forall_mem_cons.mpr ⟨by k_mem, ?_⟩))
  have N7 := newsSub N5 (l' := [(L + 1, o1)]) (by repeat (first | exact List.forall_mem_nil _ | refine List.forall_mem_cons.mpr ⟨by k_mem, ?_⟩))
  have core := core_one (L := L) hd5 hdict2 (hrel2.to K5) hB5 hS5 ⟨hdn.1, hdn.2, lo⟩ (fun z hz => nall z (by
    simp only [List.mem_cons, List.not_mem_nil, or_false] at hz
    rcases hz with rfl | rfl | rfl | rfl | rfl <;> omega)) (neN (by omega)) (neN (by omega)) (neN (by omega))
  have i1 : ∀ t, IntsAre [.int 0 t] (natsI [0]) := fun t => IntsAre.cons _ _ IntsAre.nil
  refine post h5 _ _ lE lI lR lO lS d x dx y sx sdx 0 0 0 0 0 _ _ _ _
    { fr := F5', news := N6, vI := i1 _, vR := i1 _, vO := OctAre.snoc (vs := []) (bo := []) ⟨rfl, fun _ _ _ h => nomatch h⟩, vS := SgnAre.snoc (vs := []) (bs := []) ⟨rfl, fun _ _ _ h => nomatch h⟩,
      core := core, sep := fun a ha hm => ?_, c2 := c2, few := (by show 1 ≤ 12; decide), fewS := Nat.le_refl _, fewR := Nat.le_refl _, szS := fun z hz => ?_, szR := fun z hz => ?_ } ⟨by omega, a9, a6, a7, a8⟩ N7
  · have ha := has_one ha
    simp only [List.mem_cons, List.not_mem_nil, or_false] at ha hm
    obtain ⟨u1, u2, u3⟩ := open_sep a2 a1 a4 (ltN f1) (ltN f2) (ltN f3) (ltN f4) a5 ha
    rcases hm with e | e | e | e | e | e
    · exact Nat.ne_of_lt (Nat.lt_trans u2 (Nat.lt_trans a6 (Nat.lt_trans a7 a8))) e
    · exact Nat.ne_of_lt (Nat.lt_trans u2 (Nat.lt_trans a6 a7)) e
    · exact Nat.ne_of_lt (Nat.lt_trans u2 a6) e
    · exact Nat.ne_of_lt u2 e
    · exact u3 e
    · exact Nat.ne_of_gt u1 e
  · obtain rfl := List.mem_singleton.mp hz
    exact Nat.zero_le _
  · obtain rfl := List.mem_singleton.mp hz
    show (Str.ofString "").length ≤ 1000
    decide
end Mine
end
section -- L1Z
open PySem PySem.W PyProof.Rows PySem.Calls
set_option maxRecDepth 100000
namespace Mine
set_option maxHeartbeats 4000000
local macro_rules | `(tactic| k_room) => `(tactic| ((try simp only [depth_mark, depth_under_make, depth_under_kw, depth_in1, depth_deeper, depth_caller]); (first | ((show _ + _ < 1000); omega) | ((show _ < 1000); omega))))
local macro_rules | `(tactic| walk_at "eval ListComp") => `(tactic| (k_here; refine Stop.out ?_))
local macro_rules | `(tactic| walk_at "subscriptTail Name Slice ref ref") => `(tactic| (k_here; refine Stop.out ?_))
theorem nameNews {P : Prop} {h₀ h : Heap} {L : Addr} {news : List (Addr × Obj)} (N : News h₀ L h news) (k : ∀ led, led = news → P) : P := k _ rfl
theorem nameFr {P : Prop} {h₀ h : Heap} {L : Addr} {m : Str → Option Value} (F : Fr h₀ L h m) (k : ∀ m', m' = m → P) : P := k _ rfl
theorem news_without {h₀ h : Heap} {L : Addr} {p q : Addr × Obj} {r : List (Addr × Obj)} (N : News h₀ L h (p :: q :: r)) : News h₀ L h (p :: r) := fun x hx => by
  rcases List.mem_cons.mp hx with rfl | hx
  · exact N _ (.head _)
  · exact N _ (.tail _ (.tail _ hx))
theorem iter_fin {s : Shared} {h₀ h' : Heap} {L l1 : Addr} {m : Str → Option Value} {vsL ys : List Value} {ms nsD : List Int} {n1 tk : Nat} {led : List (Addr × Obj)} (F : Fr h₀ L h' m) (N : News h₀ L h' ((l1, listO vsL.toArray n1) :: led)) (hi : IntsAre vsL ms) (hj : IntsAre ys nsD) (hz : vsL.length + ys.length ≤ 30) :
    Stop (∃ (l : Addr) (h'' : Heap) (tk' : Nat) (vsI : List Value) (nsI : List Int), Value.ref h'.objs.size = .ref l ∧ ({ s with heap := h'.push { cls := .type "list", data := .seq (vsL.toArray ++ ys.toArray) }, toks := tk } : Shared) = { s with heap := h'', toks := tk' } ∧ Fr h₀ L h'' m ∧ News h₀ L h'' ((l, listO vsI.toArray 0) :: led) ∧ IntsAre vsI nsI ∧ vsI.length ≤ 30 ∧ (∀ p ∈ led, @LT.lt Nat _ p.1 l)) := by
  refine Stop.mk ⟨_, _, _, vsL ++ ys, ms ++ nsD, rfl, rfl, F.push _, ?_, hi.append hj, by simpa using hz, fun p hp => Heap.lt_size (N p (.tail _ hp)).1⟩
  have e : (vsL ++ ys).toArray = vsL.toArray ++ ys.toArray := by simp
  rw [e]
  exact news_without (News.push F N _)
def forI : Stmt → PySem.Expr
  | .For _ it _ _ _ => it
  | _ => .Constant .none 0 default
noncomputable def s6S (w : World) : Stmt := nthS (stmtsAt 626 w.params) 6
theorem law_iter {w : World} {p : Program} {loose : List Str} {mg mb : Str → Option Value} {mean : ExcName → Option Value} {s : Shared} {L lE lI lR lO lS sc : Addr} {h : Heap} {tk : Nat} {E : Value → Shared → Prop} {vs : List Value} {ns : List Int}
    {m₀ : Str → Option Value} {P : Pop} {o1 o2 : Obj} {nE nI nR nO nS : Nat} {vsI vsR vsO vsS : List Value} {Q : Value → Shared → Prop}
    (X : (hd.heap_39 w.params).In s.heap) (T : Top p loose mean mg mb s.heap) (hL : s.heap.IsList sc vs.toArray) (hI : IntsAre vs ns) (hlen : ns.length ≤ 63)
    (hS : CloSt w s.heap L lE lI lR lO lS h m₀ P o2 nE nI nR nO nS vsI vsR vsO vsS) (N1 : News s.heap L h [(L + 1, o1)]) (hd1 : o1.data = .cell (some (.ref sc)))
    (post : ∀ (lJ : Addr) h' tk' (vsJ : List Value) (nsJ : List Int), CloSt w s.heap L lE lI lR lO lS h' m₀ P o2 nE nI nR nO nS vsI vsR vsO vsS → h'.get? lJ = some (listO vsJ.toArray 0) → (lJ ≠ L ∧ s.heap.get? lJ = none ∧ lJ ∉ [lS, lO, lR, lI, lE, L + 1 + 1] ∧ ¬ P.has lJ ∧ @LT.lt Nat _ lS lJ) → IntsAre vsJ nsJ → vsJ.length ≤ 30 → Q (.ref lJ) { s with heap := h', toks := tk' }) :
    wpAny (model PySem.Challenge.rw_kn0093_01.row.prog w) (callerA.deeper (lawE w L)) (eval (forI (s6S w)) (lawE w L)) Q E { s with heap := h, toks := tk } := by
  unfold lawE
  obtain ⟨scp, hsc⟩ : ∃ scp, scp = scopeAt 626 w.params := ⟨_, rfl⟩
  rw [← hsc]
  conv at hsc => rhs; whnf
  subst hsc
  obtain ⟨ex, hex⟩ : ∃ ex, ex = forI (s6S w) := ⟨_, rfl⟩
  rw [← hex]
  conv at hex => rhs; whnf
  subst hex
  have F := hS.fr
  obtain ⟨rest, N0, ⟨hr1, hr2, hr3, hr4, hr5, hr6⟩, hall, hK⟩ := hS.open
  have N4 : News s.heap L h ((L + 1, o1) :: _) := newsMore N0 (N1 _ (.head _)).1 (N1 _ (.head _)).2
  have hin : ∀ a, P.has a → ∃ o, (a, o) ∈ rest := fun a ha => by
    obtain ⟨o, e⟩ := hS.core.has_at ha
    obtain ⟨n1, n2⟩ := hS.core.has_new ha
    exact ⟨o, hall a o e n1 n2 (hS.sep a ha)⟩
  have TR := topRead_of T
  refine nameNews N4 fun led4 hled4 => ?_
  refine nameFr F fun m4 hm4 => ?_
  refine wpAny_mono (Q := fun v s' => Stop (∃ (l : Addr) (h' : Heap) (tk : Nat) (vsI : List Value) (nsI : List Int), v = .ref l ∧ s' = { s with heap := h', toks := tk } ∧ Fr s.heap L h' m4 ∧ News s.heap L h' ((l, listO vsI.toArray 0) :: led4) ∧ IntsAre vsI nsI ∧ vsI.length ≤ 30 ∧ (∀ p ∈ led4, @LT.lt Nat _ p.1 l))) ?_ (fun v s' hq => ?_) fun _ _ e => e
  · clear N0
    k_steps
    refine Stop.mk (ListComp_overRange rfl (by with_unfolding_all rfl) (by decide) rfl (by decide) (by rfl) ?_)
    rename Fr s.heap L _ _ => F5
    rename News s.heap L _ _ => N5
    k_steps
    rename IsRange _ _ _ _ _ _ _ _ => hr
    rename Fr s.heap L _ _ => F6
    rename News s.heap L _ _ => N6
    rename ∀ (b : Addr) (o : Obj), _ = some o → _ = some o => hk6
    dsimp only at hr F6 N6 hk6
    have hmn : (if (24 : Int) < (ns.length : Int) then (24 : Int) else (ns.length : Int)) = ((min ns.length 24 : Nat) : Int) := by split <;> omega
    rw [hmn] at hr
    refine Stop.mk ⟨_, _, _, _, _, _, _, min ns.length 24, rfl, hr, ?_, ?_, ?_, ?_, ?_⟩
    case refine_4 =>
      intro C a t s₂ m₂ E' hC hn hm hk
      dsimp only at hk
      have F7 := F6.keeps hk
      have N7 := N6.grown hk
      have hL₂ : s₂.heap.IsList sc vs.toArray := hL.at fun _ e => F7.keep _ _ e
      obtain ⟨xs, hx⟩ := (ints_pick hI (some a) none (some 24)).items
      k_steps
      refine Stop.mk (subscriptTail_ops (Heap.IsList.typeIs (s := { s₂ with heap := s₂.heap.push _, toks := _ }) (hL₂.push _)) list_getitem_lookup
        (wpAny_getItem_list_slice (hL₂.push _) (Heap.IsSliceOf.new ..) (IsPart.int _ _) IsPart.none (IsPart.int _ _) (by decide) ?_ ?_) (by with_unfolding_all rfl) (by intro _; with_unfolding_all rfl))
      · k_steps
        refine sum_intListG (xs := xs) rfl ⟨_, Heap.get?_push_size _ rfl, rfl, 0, by rw [← hx]⟩ ?_
        intro h8 tk8 t8 hk8
        exact ⟨⟨_, _, rfl⟩, h8, tk8, rfl, fun b o e => hk8 _ _ (Heap.get?_push_of_some _ (Heap.get?_push_of_some _ e))⟩
      · rw [List.size_toArray, hI.length, sizeLine_eq]; omega
    case refine_1 => exact small_one (by decide) (by decide) (by omega) (by omega)
    case refine_2 => rw [rangeSize_nat]; omega
    case refine_3 => exact Nat.le_trans (Nat.min_le_right _ _) (by decide)
    case refine_5 =>
      intro D ys nsD h' tk k hD hDo hiD hlD hk
      dsimp only at hDo hk ⊢
      have F8 := F6.keeps hk
      have N8 := N6.grown hk
      k_steps
      refine PySem.P.add_list (N8 _ (.head _)).1 hDo ?_ ?_
      · subst hled4 hm4
        exact iter_fin F8 N8 (by repeat (first | exact IntsAre.nil | apply IntsAre.cons)) hiD (by rw [hlD]; simp only [List.length_cons, List.length_nil]; omega)
      · simp only [List.size_toArray, List.length_cons, List.length_nil, sizeLine_eq]; omega
  · obtain ⟨lJ, h9, tk9, vsJ, nsJ, rfl, rfl, F10, N10, hiJ, hzJ, hlt⟩ := hq
    subst hled4 hm4
    have k9 := hK _ _ F10 (fun p hp => (N10 p (by repeat (first | exact hp | refine List.mem_cons_of_mem _ ?_))).1)
    have hNJ := N10 _ (.head _)
    have N11 := newsSub N10 (l' := [(lS, listO vsS.toArray nS), (lO, listO vsO.toArray nO), (lR, listO vsR.toArray nR), (lI, listO vsI.toArray nI), (lE, listO (P.es.map Value.ref).toArray nE), (L + 1 + 1, o2)]) (by repeat (first | exact List.forall_mem_nil _ | refine List.forall_mem_cons.mpr ⟨by k_mem, ?_⟩))
    refine post lJ h9 tk9 vsJ nsJ { hS with fr := F10, news := N11, core := hS.core.to k9.2 k9.1 } hNJ.1 ⟨hNJ.2.1, hNJ.2.2, fun hm => ?_, fun hp => ?_, hlt (lS, listO vsS.toArray nS) (by simp)⟩ hiJ hzJ
    · have get : ∀ q, q ∈ [(lS, listO vsS.toArray nS), (lO, listO vsO.toArray nO), (lR, listO vsR.toArray nR), (lI, listO vsI.toArray nI), (lE, listO (P.es.map Value.ref).toArray nE), (L + 1 + 1, o2)] → q.1 ≠ lJ := fun q hq => Nat.ne_of_lt (hlt q (by simp only [List.mem_cons, List.not_mem_nil, or_false] at hq ⊢; rcases hq with rfl | rfl | rfl | rfl | rfl | rfl <;> simp))
      simp only [List.mem_cons, List.not_mem_nil, or_false, forall_eq_or_imp, forall_eq] at get hm
      obtain ⟨g1, g2, g3, g4, g5, g6⟩ := get
      rcases hm with e | e | e | e | e | e
      · exact g1 e.symm
      · exact g2 e.symm
      · exact g3 e.symm
      · exact g4 e.symm
      · exact g5 e.symm
      · exact g6 e.symm
    · obtain ⟨o, ho⟩ := hin lJ hp
      exact absurd (hlt (lJ, o) (by simp [ho])) (Nat.lt_irrefl _)
end Mine
end
section -- M1a
open PySem PySem.W PyProof.Rows PySem.Calls
set_option maxRecDepth 100000
namespace Mine
set_option maxHeartbeats 4000000
local macro_rules | `(tactic| k_room) => `(tactic| ((try simp only [depth_mark, depth_under_make, depth_under_kw, depth_in1, depth_deeper, depth_caller]); (first | ((show _ + _ < 1000); omega) | ((show _ < 1000); omega))))
theorem chain_ne {a b c d e f g z : Addr} {oJ oS oO oR oI oE o2 : Obj} (h1 : @LT.lt Nat _ a b) (h2 : @LT.lt Nat _ b c) (h3 : @LT.lt Nat _ c d) (h4 : @LT.lt Nat _ d e) (h5 : @LT.lt Nat _ e f) (h6 : @LT.lt Nat _ f g) (h7 : @LT.lt Nat _ g z) : ∀ p ∈ [(g, oJ), (f, oS), (e, oO), (d, oR), (c, oI), (b, oE), (a, o2)], p.1 ≠ z := by
  have k6 := Nat.lt_trans h6 h7
  have k5 := Nat.lt_trans h5 k6
  have k4 := Nat.lt_trans h4 k5
  have k3 := Nat.lt_trans h3 k4
  have k2 := Nat.lt_trans h2 k3
  have k1 := Nat.lt_trans h1 k2
  exact List.forall_mem_cons.mpr ⟨Nat.ne_of_lt h7, List.forall_mem_cons.mpr ⟨Nat.ne_of_lt k6, List.forall_mem_cons.mpr ⟨Nat.ne_of_lt k5, List.forall_mem_cons.mpr ⟨Nat.ne_of_lt k4, List.forall_mem_cons.mpr ⟨Nat.ne_of_lt k3, List.forall_mem_cons.mpr ⟨Nat.ne_of_lt k2, List.forall_mem_cons.mpr ⟨Nat.ne_of_lt k1, List.forall_mem_nil _⟩⟩⟩⟩⟩⟩⟩
theorem LawSt.step {w : World} {g : Heap} {L lE lI lR lO lS lJ It : Addr} {vsJ : List Value} {i n : Nat} {h h' : Heap} {m₀ : Str → Option Value} {P : Pop} {bo : List (Array UInt8)} {bs : List Str} {oI o2 : Obj} {nE nI nR nO nS : Nat} {vsI vsR vsO vsS : List Value}
    (x : LawSt w g L lE lI lR lO lS lJ It vsJ i n h m₀ P bo bs oI o2 nE nI nR nO nS vsI vsR vsO vsS) (hs : Heap.SameBut It h h') (hit : h'.IsListIter It lJ (i + 1)) (hi : i < vsJ.length) (hO : @LT.lt Nat _ (L + 1 + 1) lE ∧ @LT.lt Nat _ lE lI ∧ @LT.lt Nat _ lI lR ∧ @LT.lt Nat _ lR lO ∧ @LT.lt Nat _ lO lS ∧ @LT.lt Nat _ lS lJ ∧ @LT.lt Nat _ lJ It) :
    ∃ oI', LawSt w g L lE lI lR lO lS lJ It vsJ (i + 1) n h' m₀ P bo bs oI' o2 nE nI nR nO nS vsI vsR vsO vsS := by
  have hk : ∀ b o, b ≠ It → h.get? b = some o → h'.get? b = some o := fun b o hb e => hs.extBut b o hb e
  have hI := x.news _ (.head _)
  have hP : ∀ a, P.has a → a ≠ It := fun a ha e => x.sep a ha (by simp [e])
  have K : Kept h h' := fun b o t e => hk b o (fun q => iter_notGood x.it o (q ▸ e) t) e
  obtain ⟨oI', hI', _⟩ := id hit
  obtain ⟨q1, q2, q3, q4, q5, q6, q7⟩ := hO
  have F' : Fr g L h' (lawM lE lI lR lO lS m₀) := ⟨x.fr.ns.at' fun o e => hk _ _ (Ne.symm hI.2.1) e, fun b o e => hk b o (fun q => by rw [q, hI.2.2] at e; cases e) (x.fr.keep b o e), x.fr.above⟩
  refine ⟨oI', { x with fr := F', news := ?_, it := hit, ile := hi, core := x.core.to (fun a ha o e => hk a o (hP a ha) e) K }⟩
  exact List.forall_mem_cons.mpr ⟨⟨hI', hI.2⟩, news_but (fun p hp => x.news p (.tail _ hp)) hk (chain_ne q1 q2 q3 q4 q5 q6 q7)⟩
/-- behind the last turn -/
theorem LawSt.toClo {w : World} {g : Heap} {L lE lI lR lO lS lJ It : Addr} {vsJ : List Value} {i n : Nat} {h h' : Heap} {m₀ : Str → Option Value} {P : Pop} {oI o2 : Obj} {nE nI nR nO nS : Nat} {vsI vsR vsO vsS : List Value}
    (x : LawSt w g L lE lI lR lO lS lJ It vsJ i n h m₀ P (P.sts.map (·.b)) (P.ers.map (·.b)) oI o2 nE nI nR nO nS vsI vsR vsO vsS) (hn : n ≤ 1000) (hk : ∀ b o, b ≠ It → h.get? b = some o → h'.get? b = some o) (hO : @LT.lt Nat _ (L + 1 + 1) lE ∧ @LT.lt Nat _ lE lI ∧ @LT.lt Nat _ lI lR ∧ @LT.lt Nat _ lR lO ∧ @LT.lt Nat _ lO lS ∧ @LT.lt Nat _ lS lJ ∧ @LT.lt Nat _ lJ It) :
    CloSt w g L lE lI lR lO lS h' m₀ P o2 nE nI nR nO nS vsI vsR vsO vsS := by
  have hI := x.news _ (.head _)
  have hP : ∀ a, P.has a → a ≠ It := fun a ha e => x.sep a ha (by simp [e])
  have K : Kept h h' := fun b o t e => hk b o (fun q => iter_notGood x.it o (q ▸ e) t) e
  obtain ⟨q1, q2, q3, q4, q5, q6, q7⟩ := hO
  have F' : Fr g L h' (lawM lE lI lR lO lS m₀) := ⟨x.fr.ns.at' fun o e => hk _ _ (Ne.symm hI.2.1) e, fun b o e => hk b o (fun q => by rw [q, hI.2.2] at e; cases e) (x.fr.keep b o e), x.fr.above⟩
  refine { fr := F', news := ?_, vI := x.vI, vR := x.vR, vO := x.vO, vS := x.vS, core := x.core.to (fun a ha o e => hk a o (hP a ha) e) K, sep := fun a ha hm => x.sep a ha (.tail _ (.tail _ hm)), c2 := x.c2, few := x.few, fewS := x.fewS, fewR := x.fewR, szS := fun s hs => Nat.le_trans (x.szS s hs) hn, szR := fun s hs => Nat.le_trans (x.szR s hs) hn }
  exact news_but (fun p hp => x.news p (.tail _ (.tail _ hp))) hk (fun p hp => chain_ne (oJ := listO vsJ.toArray 0) q1 q2 q3 q4 q5 q6 q7 p (.tail _ hp))
/-- ahead of the first turn -/
theorem CloSt.toLaw {w : World} {g : Heap} {L lE lI lR lO lS lJ d x dx y sx sdx : Addr} {vsJ : List Value} {h : Heap} {m₀ : Str → Option Value} {o2 : Obj} {nE nI nR nO nS : Nat} {vsI vsR vsO vsS : List Value}
    (c : CloSt w g L lE lI lR lO lS h m₀ ⟨[d], [0], [0], [⟨x, dx, y, #[]⟩], [⟨sx, sdx, ""⟩]⟩ o2 nE nI nR nO nS vsI vsR vsO vsS) (hJ : h.get? lJ = some (listO vsJ.toArray 0))
    (hn : lJ ≠ L ∧ g.get? lJ = none ∧ lJ ∉ [lS, lO, lR, lI, lE, L + 1 + 1] ∧ ¬ Pop.has ⟨[d], [0], [0], [⟨x, dx, y, #[]⟩], [⟨sx, sdx, ""⟩]⟩ lJ ∧ @LT.lt Nat _ lS lJ) :
    LawInv w g L lE lI lR lO lS lJ h.objs.size vsJ 0 (h.push { cls := .type "list_iterator", data := .fields #[.ref lJ, .int 0 0] }) := by
  have k : ∀ b o, h.get? b = some o → (h.push { cls := .type "list_iterator", data := .fields #[.ref lJ, .int 0 0] }).get? b = some o := fun b o e => Heap.get?_push_of_some _ e
  have hnone : h.get? h.objs.size = none := by
    cases c : h.get? h.objs.size with
    | none => rfl
    | some o => exact absurd (Heap.lt_size c) (Nat.lt_irrefl _)
  obtain ⟨zL, zg, zl, zP⟩ := c.low hnone
  have c' := c.grow k
  refine ⟨m₀, _, { cls := .type "list_iterator", data := .fields #[.ref lJ, .int 0 0] }, o2, nE, nI, nR, nO, nS, vsI, vsR, vsO, vsS,
    { fr := c'.fr, news := List.forall_mem_cons.mpr ⟨⟨Heap.get?_push_size _ rfl, zL, zg⟩, List.forall_mem_cons.mpr ⟨⟨k _ _ hJ, hn.1, hn.2.1⟩, c'.news⟩⟩, it := ⟨_, Heap.get?_push_size _ rfl, rfl, rfl⟩, ile := Nat.zero_le _, vI := c.vI, vR := c.vR, vO := c.vO, vS := c.vS, core := c'.core, sep := fun a ha hm => ?_, c2 := c.c2, pos := Nat.zero_lt_one, few := c.few, fewS := c.fewS, fewR := c.fewR, szS := fun s hs => ?_, szR := fun s hs => ?_ }⟩
  · rcases List.mem_cons.mp hm with e | hm
    · exact zP (e ▸ ha)
    rcases List.mem_cons.mp hm with e | hm
    · exact hn.2.2.2.1 (e ▸ ha)
    · exact c.sep a ha hm
  · obtain rfl := List.mem_singleton.mp hs
    exact Nat.zero_le _
  · obtain rfl := List.mem_singleton.mp hs
    show (Str.ofString "").length ≤ 0
    decide
end Mine
end
section -- M1b
open PySem PySem.W PyProof.Rows PySem.Calls
set_option maxRecDepth 100000
namespace Mine
set_option maxHeartbeats 4000000
local macro_rules | `(tactic| k_room) => `(tactic| ((try simp only [depth_mark, depth_under_make, depth_under_kw, depth_in1, depth_deeper, depth_caller]); (first | ((show _ + _ < 1000); omega) | ((show _ < 1000); omega))))
theorem for_eq (w : World) : ∃ px pos, s6S w = .For (.Name "x" px) (forI (s6S w)) (forBody (stmtsAt 626 w.params)) [] pos := ⟨_, _, by with_unfolding_all rfl⟩
theorem law_for {w : World} {p : Program} {loose : List Str} {mg mb : Str → Option Value} {mean : ExcName → Option Value} {s : Shared} {A₀ : Around} {Q : Flow → Shared → Prop} {L lE lI lR lO lS sc d x dx y sx sdx : Addr} {h : Heap} {tk : Nat} {vs : List Value} {ns : List Int}
    {m₀ : Str → Option Value} {o1 o2 : Obj} {nE nI nR nO nS : Nat} {vsI vsR vsO vsS : List Value} {st : Stmt} (hst : st = s6S w)
    (X : (hd.heap_39 w.params).In s.heap) (T : Top p loose mean mg mb s.heap) (B : Below A₀ s.heap [] s.heap) (hL : s.heap.IsList sc vs.toArray) (hI : IntsAre vs ns) (hlen : ns.length ≤ 63)
    (hO : @LT.lt Nat _ (L + 1 + 1) lE ∧ @LT.lt Nat _ lE lI ∧ @LT.lt Nat _ lI lR ∧ @LT.lt Nat _ lR lO ∧ @LT.lt Nat _ lO lS)
    (hS : CloSt w s.heap L lE lI lR lO lS h m₀ ⟨[d], [0], [0], [⟨x, dx, y, #[]⟩], [⟨sx, sdx, ""⟩]⟩ o2 nE nI nR nO nS vsI vsR vsO vsS) (N1 : News s.heap L h [(L + 1, o1)]) (hd1 : o1.data = .cell (some (.ref sc)))
    (post : ∀ h' tk' (m' : Str → Option Value) (P : Pop) (o2' : Obj) (nE' nI' nR' nO' nS' : Nat) (vsI' vsR' vsO' vsS' : List Value), CloSt w s.heap L lE lI lR lO lS h' m' P o2' nE' nI' nR' nO' nS' vsI' vsR' vsO' vsS' → Q .next { s with heap := h', toks := tk' }) :
    wpG (model PySem.Challenge.rw_kn0093_01.row.prog w) (callerA.deeper (lawE w L)) (exec st (lawE w L)) Q (fun _ _ => False) { s with heap := h, toks := tk } := by
  obtain ⟨px, pos, e⟩ := for_eq w
  rw [hst, e]
  refine g_For ?_
  refine law_iter X T hL hI hlen hS N1 hd1 fun lJ h1 tk1 vsJ nsJ hS1 hJ hn hiJ hzJ => ?_
  refine wpAny_pyIter_list (l := lJ) (items := vsJ.toArray) (lst_isL hJ) ?_
  dsimp only
  have hInv := hS1.toLaw hJ hn
  have q6 : @LT.lt Nat _ lJ h1.objs.size := Heap.lt_size hJ
  have hO7 : @LT.lt Nat _ (L + 1 + 1) lE ∧ @LT.lt Nat _ lE lI ∧ @LT.lt Nat _ lI lR ∧ @LT.lt Nat _ lR lO ∧ @LT.lt Nat _ lO lS ∧ @LT.lt Nat _ lS lJ ∧ @LT.lt Nat _ lJ h1.objs.size := ⟨hO.1, hO.2.1, hO.2.2.1, hO.2.2.2.1, hO.2.2.2.2, hn.2.2.2.2, q6⟩
  generalize hIt : h1.objs.size = It at hInv hO7
  refine g_forLoop (fun n s' => ∃ h tk i, s' = { s with heap := h, toks := tk } ∧ LawInv w s.heap L lE lI lR lO lS lJ It vsJ i h ∧ n = vsJ.length - i) ?turn vsJ.length ⟨_, _, 0, rfl, hInv, rfl⟩
  rintro n _ ⟨h, tk, i, rfl, ⟨m₁, P, oI, o2', nE', nI', nR', nO', nS', vsI', vsR', vsO', vsS', hS2⟩, rfl⟩
  have FI := hS2.fr
  have NI := hS2.news
  have hit := hS2.it
  have hlJ : h.IsList lJ vsJ.toArray := ⟨_, (NI _ (.tail _ (.head _))).1, rfl, _, rfl⟩
  by_cases hend : i < vsJ.length
  · obtain ⟨nx, tx, ex⟩ : ∃ n t, vsJ[i] = .int n t := hiJ.allInts vsJ[i] (by simp)
    refine wpAny_pyNext_list_item (x := .int nx tx) hit hlJ (by rw [← ex]; simp [hend]) fun h₁ hit₁ hs₁ => ?_
    dsimp only
    obtain ⟨oI', hS3⟩ := hS2.step hs₁ hit₁ hend hO7
    refine turn_head (rest := []) X T hS3 fun h4 tk4 kd k q t1 t2 t3 b0 b1 b2 b3 hS4 => ?_
    refine turn_stmt rfl X T B hO7 hS4 b0 b1 b2 b3 (by omega) (by omega) fun h5 tk5 hi5 => ?_
    exact ⟨vsJ.length - (i + 1), Nat.sub_succ_lt_self _ _ hend, h5, tk5, i + 1, rfl, hi5, rfl⟩
  · refine wpAny_pyNext_list_end rfl hit hlJ (by simp; omega) fun h₁ he => ?_
    dsimp only
    have := hS2.ile
    exact post _ _ _ _ _ _ _ _ _ _ _ _ _ _ (hS2.toClo (by omega) (fun b o hb e => he b o hb e) hO7)
theorem law_walk {w : World} {p : Program} {loose : List Str} {mg mb : Str → Option Value} {mean : ExcName → Option Value} {s : Shared} {A₀ : Around} {R : Result → Shared → Prop} {sc : Addr} {vs : List Value} {ns : List Int}
    (X : (hd.heap_39 w.params).In s.heap) (T : Top p loose mean mg mb s.heap) (B : Below A₀ s.heap [] s.heap) (hL : s.heap.IsList sc vs.toArray) (hI : IntsAre vs ns) (hlen : ns.length ≤ 63)
    (post : ∀ h' t', (∀ b o, s.heap.get? b = some o → h'.get? b = some o) → R (.ok (.ret (.bool true))) { s with heap := h', toks := t' }) :
    codeG (model PySem.Challenge.rw_kn0093_01.row.prog w) callerA (.call (.ref 626) ⟨[.ref sc], []⟩) R s := by
  refine' g_topCell (binds := [("script", .ref sc)]) T.nolimit X ?ho ?hcd ?hb ?hloc ?hnd (fun L h₁ tk₁ cells F₁ N₁ Y₁ => ?_) ?c1 ?c2 ?c3
  case ho => k_is
  case hcd => k_is
  case hb => exact BindsTo.of_eq rfl
  case hloc => exact rfl
  case hnd => decide
  case c1 => rfl
  case c2 => rfl
  case c3 => rfl
  k_cells Y₁
  have F₂ : Fr s.heap L h₁ (fun _ => none) := frCongr F₁ fun y => by
    unfold bindL
    split
    · rename_i e
      exact nomatch (show some NameKind.cell = some NameKind.local from e)
    · rfl
  clear F₁
  refine law_open (by with_unfolding_all rfl) (by with_unfolding_all rfl) (by with_unfolding_all rfl) (by with_unfolding_all rfl) (by with_unfolding_all rfl) (by with_unfolding_all rfl) X T B F₂ N₁ ⟨_, by assumption⟩ fun h2 tk2 m2 lE lI lR lO lS d x dx y sx sdx nE nI nR nO nS vsI vsR vsO vsS hS2 hO2 N2 => ?_
  rename _ = Data.cell (bindC _ _ _ (Str.ofString "script")) => d1
  refine g_execs (law_for (by with_unfolding_all rfl) X T B hL hI hlen hO2 hS2 N2 (d1.trans (by rfl)) fun h3 tk3 m3 P o3 nE3 nI3 nR3 nO3 nS3 vI3 vR3 vO3 vS3 hS3 => ?_)
  refine g_execs (clo_walk (by with_unfolding_all rfl) X T B hO2 hS3 fun h4 tk4 k4 => ?_)
  refine g_execs ?_
  refine lift ?_
  k_steps
  all_goals exact post _ _ k4
end Mine
end
/- The names under which the head would lay twins of its own constants are taken, so that it lays none: the twins' equations would make
the compiled file four times too large, and the head does not need them. -/
namespace Mine
theorem law_holds.tw10007947361888340627 : True := trivial
theorem law_holds.tw10024239376800412576 : True := trivial
theorem law_holds.tw10024915671413155879 : True := trivial
theorem law_holds.tw10028117763298573888 : True := trivial
theorem law_holds.tw10079444305495103266 : True := trivial
theorem law_holds.tw10102834934717047885 : True := trivial
theorem law_holds.tw10108825076125807744 : True := trivial
theorem law_holds.tw10183868598434131010 : True := trivial
theorem law_holds.tw10189704592693192966 : True := trivial
theorem law_holds.tw10222300733896627045 : True := trivial
theorem law_holds.tw10242277825702978295 : True := trivial
theorem law_holds.tw10283916278828761575 : True := trivial
theorem law_holds.tw10296202853966499060 : True := trivial
theorem law_holds.tw10301956948240465243 : True := trivial
theorem law_holds.tw1031057903888850656 : True := trivial
theorem law_holds.tw10346744231138586394 : True := trivial
theorem law_holds.tw10350734228115807855 : True := trivial
theorem law_holds.tw10360522573172651426 : True := trivial
theorem law_holds.tw10362271348294423435 : True := trivial
theorem law_holds.tw10368410895845634921 : True := trivial
theorem law_holds.tw10371022188087798493 : True := trivial
theorem law_holds.tw10441050188594101415 : True := trivial
theorem law_holds.tw10442559174759676424 : True := trivial
theorem law_holds.tw10458381655096516384 : True := trivial
theorem law_holds.tw10465528174321978529 : True := trivial
theorem law_holds.tw10516828495840041881 : True := trivial
theorem law_holds.tw10517181812226103804 : True := trivial
theorem law_holds.tw1053317679998426468 : True := trivial
theorem law_holds.tw10566571302883470556 : True := trivial
theorem law_holds.tw10609929442622069884 : True := trivial
theorem law_holds.tw10666784280354678857 : True := trivial
theorem law_holds.tw10667895100797718341 : True := trivial
theorem law_holds.tw10679931392274172632 : True := trivial
theorem law_holds.tw10709909458450059161 : True := trivial
theorem law_holds.tw10726639523019406850 : True := trivial
theorem law_holds.tw10764541510735364805 : True := trivial
theorem law_holds.tw10767655046202684341 : True := trivial
theorem law_holds.tw10812634152524527747 : True := trivial
theorem law_holds.tw10817052189556005596 : True := trivial
theorem law_holds.tw10870653069706475693 : True := trivial
theorem law_holds.tw10876394233666535175 : True := trivial
theorem law_holds.tw10897144627088453450 : True := trivial
theorem law_holds.tw1090656622020835045 : True := trivial
theorem law_holds.tw10929289806422889615 : True := trivial
theorem law_holds.tw10954758410522031216 : True := trivial
theorem law_holds.tw1096898596823417342 : True := trivial
theorem law_holds.tw10977758072711909379 : True := trivial
theorem law_holds.tw10983241140555628109 : True := trivial
theorem law_holds.tw1099259369241382048 : True := trivial
theorem law_holds.tw11017292853192552079 : True := trivial
theorem law_holds.tw11027446948787134436 : True := trivial
theorem law_holds.tw11037684851510583519 : True := trivial
theorem law_holds.tw11046636381182338224 : True := trivial
theorem law_holds.tw11067727234611919522 : True := trivial
theorem law_holds.tw11097158420108258118 : True := trivial
theorem law_holds.tw11097350217990362986 : True := trivial
theorem law_holds.tw11100686419730198450 : True := trivial
theorem law_holds.tw11129157725520112330 : True := trivial
theorem law_holds.tw11133525997344109421 : True := trivial
theorem law_holds.tw11167238688639235718 : True := trivial
theorem law_holds.tw11169275537108399364 : True := trivial
theorem law_holds.tw1117575151148589468 : True := trivial
theorem law_holds.tw11182679623053108816 : True := trivial
theorem law_holds.tw11206171021150027133 : True := trivial
theorem law_holds.tw11223184984439025696 : True := trivial
theorem law_holds.tw11240126127631740588 : True := trivial
theorem law_holds.tw11253982270263490198 : True := trivial
theorem law_holds.tw11283290899035178999 : True := trivial
theorem law_holds.tw11289095316329951393 : True := trivial
theorem law_holds.tw11297062200503488469 : True := trivial
theorem law_holds.tw11303081109005220762 : True := trivial
theorem law_holds.tw11315637435222106236 : True := trivial
theorem law_holds.tw11330957891505755796 : True := trivial
theorem law_holds.tw11347954631545130290 : True := trivial
theorem law_holds.tw11378576750377235499 : True := trivial
theorem law_holds.tw11404014056486942332 : True := trivial
theorem law_holds.tw11417216600806533712 : True := trivial
theorem law_holds.tw11426015686315989412 : True := trivial
theorem law_holds.tw11432565183293565587 : True := trivial
theorem law_holds.tw11470271118054631628 : True := trivial
theorem law_holds.tw11484002064277903863 : True := trivial
theorem law_holds.tw11532970265236058100 : True := trivial
theorem law_holds.tw11544315989524547432 : True := trivial
theorem law_holds.tw11551702434730598163 : True := trivial
theorem law_holds.tw11556845855556705167 : True := trivial
theorem law_holds.tw11576900812866516365 : True := trivial
theorem law_holds.tw11583271856484122956 : True := trivial
theorem law_holds.tw11586273756423631628 : True := trivial
theorem law_holds.tw11599213532126039444 : True := trivial
theorem law_holds.tw11609493526922420660 : True := trivial
theorem law_holds.tw11633083819707477107 : True := trivial
theorem law_holds.tw11666318101497114028 : True := trivial
theorem law_holds.tw11677100312832694166 : True := trivial
theorem law_holds.tw11690447701083486646 : True := trivial
theorem law_holds.tw11707968087915704346 : True := trivial
theorem law_holds.tw11712238047454039950 : True := trivial
theorem law_holds.tw11721147071786614939 : True := trivial
theorem law_holds.tw11764581739189218997 : True := trivial
theorem law_holds.tw11781800970755023335 : True := trivial
theorem law_holds.tw11795792742502079742 : True := trivial
theorem law_holds.tw11803358882649189518 : True := trivial
theorem law_holds.tw11803560295506267724 : True := trivial
theorem law_holds.tw11823568539219059922 : True := trivial
theorem law_holds.tw11881114122080957857 : True := trivial
theorem law_holds.tw1191432763711471526 : True := trivial
theorem law_holds.tw11918526154901971515 : True := trivial
theorem law_holds.tw11924911360389889469 : True := trivial
theorem law_holds.tw1193751542720294520 : True := trivial
theorem law_holds.tw11946022803392826334 : True := trivial
theorem law_holds.tw11956458263131016624 : True := trivial
theorem law_holds.tw11977050620070087417 : True := trivial
theorem law_holds.tw12026032028955528042 : True := trivial
theorem law_holds.tw12029126673135917974 : True := trivial
theorem law_holds.tw12115171985352901274 : True := trivial
theorem law_holds.tw12116493165278983582 : True := trivial
theorem law_holds.tw12134408205421670959 : True := trivial
theorem law_holds.tw12134956360726941196 : True := trivial
theorem law_holds.tw12149405283708829123 : True := trivial
theorem law_holds.tw12153922251378674784 : True := trivial
theorem law_holds.tw12210932052861102225 : True := trivial
theorem law_holds.tw12218498018843733332 : True := trivial
theorem law_holds.tw12223724995276690173 : True := trivial
theorem law_holds.tw12239674561854826761 : True := trivial
theorem law_holds.tw12253411696296436870 : True := trivial
theorem law_holds.tw12256559969785099955 : True := trivial
theorem law_holds.tw12275847060699157868 : True := trivial
theorem law_holds.tw12294157821550436875 : True := trivial
theorem law_holds.tw12296726922439171297 : True := trivial
theorem law_holds.tw12303009252429188658 : True := trivial
theorem law_holds.tw12320438053989627958 : True := trivial
theorem law_holds.tw1232645469590886286 : True := trivial
theorem law_holds.tw123295346585929383 : True := trivial
theorem law_holds.tw12394330538082041428 : True := trivial
theorem law_holds.tw12395405093167943222 : True := trivial
theorem law_holds.tw12419048959643632839 : True := trivial
theorem law_holds.tw12423290165067640415 : True := trivial
theorem law_holds.tw1242418559920758562 : True := trivial
theorem law_holds.tw12442163767917924457 : True := trivial
theorem law_holds.tw12456547296908542839 : True := trivial
theorem law_holds.tw12459966957829302596 : True := trivial
theorem law_holds.tw1247253217256132012 : True := trivial
theorem law_holds.tw12476058986133298565 : True := trivial
theorem law_holds.tw12481875629721207810 : True := trivial
theorem law_holds.tw12503156628232749375 : True := trivial
theorem law_holds.tw12547139144490466682 : True := trivial
theorem law_holds.tw12581687458485752766 : True := trivial
theorem law_holds.tw1258919526383655059 : True := trivial
theorem law_holds.tw12610764987094191714 : True := trivial
theorem law_holds.tw12622292602297523153 : True := trivial
theorem law_holds.tw12624917743002284683 : True := trivial
theorem law_holds.tw12645607732203181651 : True := trivial
theorem law_holds.tw12663309570017281627 : True := trivial
theorem law_holds.tw12684681026606017882 : True := trivial
theorem law_holds.tw12687621791434340054 : True := trivial
theorem law_holds.tw12731736397290755891 : True := trivial
theorem law_holds.tw12732824653754844360 : True := trivial
theorem law_holds.tw12780804625047726367 : True := trivial
theorem law_holds.tw12795448055554024986 : True := trivial
theorem law_holds.tw12800644894191811977 : True := trivial
theorem law_holds.tw12831907817818079685 : True := trivial
theorem law_holds.tw12835091436910803158 : True := trivial
theorem law_holds.tw12847567107135931479 : True := trivial
theorem law_holds.tw12850535167719870617 : True := trivial
theorem law_holds.tw1285599515219305098 : True := trivial
theorem law_holds.tw12874571214893485439 : True := trivial
theorem law_holds.tw12889673554181485818 : True := trivial
theorem law_holds.tw12977093529070104392 : True := trivial
theorem law_holds.tw13012089966726956846 : True := trivial
theorem law_holds.tw13014204117121516432 : True := trivial
theorem law_holds.tw13028658284911697911 : True := trivial
theorem law_holds.tw13068417504975948891 : True := trivial
theorem law_holds.tw13092103797297032270 : True := trivial
theorem law_holds.tw13097044212144736960 : True := trivial
theorem law_holds.tw13116430531795314387 : True := trivial
theorem law_holds.tw13182730311906835528 : True := trivial
theorem law_holds.tw13190408463805328480 : True := trivial
theorem law_holds.tw13190703287169160282 : True := trivial
theorem law_holds.tw13220211186989608806 : True := trivial
theorem law_holds.tw13250372474279835810 : True := trivial
theorem law_holds.tw13257055565626018733 : True := trivial
theorem law_holds.tw13280740594461564331 : True := trivial
theorem law_holds.tw13294052699122959228 : True := trivial
theorem law_holds.tw13301187468288870568 : True := trivial
theorem law_holds.tw13336368349410954346 : True := trivial
theorem law_holds.tw13342518741750886279 : True := trivial
theorem law_holds.tw1335265377702380343 : True := trivial
theorem law_holds.tw13388431603621797793 : True := trivial
theorem law_holds.tw13397297893571687751 : True := trivial
theorem law_holds.tw13402424001964919149 : True := trivial
theorem law_holds.tw1341266762083198811 : True := trivial
theorem law_holds.tw13425932534011304816 : True := trivial
theorem law_holds.tw13429453918920967058 : True := trivial
theorem law_holds.tw13431030151845061361 : True := trivial
theorem law_holds.tw13454136545276886934 : True := trivial
theorem law_holds.tw13476665736869980405 : True := trivial
theorem law_holds.tw13478230802861573701 : True := trivial
theorem law_holds.tw13482675847692870326 : True := trivial
theorem law_holds.tw13528896222378765290 : True := trivial
theorem law_holds.tw13536078969547264968 : True := trivial
theorem law_holds.tw13590972695719381181 : True := trivial
theorem law_holds.tw13650905803964671038 : True := trivial
theorem law_holds.tw13656764964264320472 : True := trivial
theorem law_holds.tw13667737974841707781 : True := trivial
theorem law_holds.tw13709617746848070560 : True := trivial
theorem law_holds.tw13766487248619392586 : True := trivial
theorem law_holds.tw1376783240425437725 : True := trivial
theorem law_holds.tw1377309892636839040 : True := trivial
theorem law_holds.tw13780023080261437657 : True := trivial
theorem law_holds.tw13800329570527188203 : True := trivial
theorem law_holds.tw13800757232730249582 : True := trivial
theorem law_holds.tw1382677567924326555 : True := trivial
theorem law_holds.tw13840902789983287329 : True := trivial
theorem law_holds.tw13848119269249539950 : True := trivial
theorem law_holds.tw1385162719727133579 : True := trivial
theorem law_holds.tw13882729330811710610 : True := trivial
theorem law_holds.tw13902218012105463410 : True := trivial
theorem law_holds.tw13921793114692110018 : True := trivial
theorem law_holds.tw1393039868726904873 : True := trivial
theorem law_holds.tw13956741780833797525 : True := trivial
theorem law_holds.tw13959763950245974101 : True := trivial
theorem law_holds.tw13983371404066579822 : True := trivial
theorem law_holds.tw1414043511812021011 : True := trivial
theorem law_holds.tw1419239623039772522 : True := trivial
theorem law_holds.tw14252543395802736299 : True := trivial
theorem law_holds.tw14281342344845405768 : True := trivial
theorem law_holds.tw14289194402921355359 : True := trivial
theorem law_holds.tw14326059299131336239 : True := trivial
theorem law_holds.tw14335913921861858828 : True := trivial
theorem law_holds.tw14350573489546498162 : True := trivial
theorem law_holds.tw14351635765420936899 : True := trivial
theorem law_holds.tw14354538779393863138 : True := trivial
theorem law_holds.tw14358080080312658767 : True := trivial
theorem law_holds.tw14375881129149169379 : True := trivial
theorem law_holds.tw14385925486924208373 : True := trivial
theorem law_holds.tw14390095281932903014 : True := trivial
theorem law_holds.tw14390602165704524457 : True := trivial
theorem law_holds.tw14489315793263303861 : True := trivial
theorem law_holds.tw14497384708736915567 : True := trivial
theorem law_holds.tw14498155544194170393 : True := trivial
theorem law_holds.tw14499810825090155391 : True := trivial
theorem law_holds.tw14506525250483169144 : True := trivial
theorem law_holds.tw14521376392698553312 : True := trivial
theorem law_holds.tw14531881819706719225 : True := trivial
theorem law_holds.tw145366339536180231 : True := trivial
theorem law_holds.tw14545874151571354728 : True := trivial
theorem law_holds.tw14571795756577361901 : True := trivial
theorem law_holds.tw14596297492920191028 : True := trivial
theorem law_holds.tw14637292938222569738 : True := trivial
theorem law_holds.tw14646867148444618371 : True := trivial
theorem law_holds.tw14677013365202126530 : True := trivial
theorem law_holds.tw14746732674962391887 : True := trivial
theorem law_holds.tw14774650325386425613 : True := trivial
theorem law_holds.tw14789792462180790578 : True := trivial
theorem law_holds.tw14828999820898988419 : True := trivial
theorem law_holds.tw14844349234554566270 : True := trivial
theorem law_holds.tw14875730727996063832 : True := trivial
theorem law_holds.tw14883556706271630602 : True := trivial
theorem law_holds.tw14892801356780361778 : True := trivial
theorem law_holds.tw14904137174637212347 : True := trivial
theorem law_holds.tw14908662282237933112 : True := trivial
theorem law_holds.tw14918994710005357087 : True := trivial
theorem law_holds.tw14925382992726071281 : True := trivial
theorem law_holds.tw14957179600199517237 : True := trivial
theorem law_holds.tw1496123403401453975 : True := trivial
theorem law_holds.tw14983226153234331074 : True := trivial
theorem law_holds.tw14988988175077273356 : True := trivial
theorem law_holds.tw14991590004735058009 : True := trivial
theorem law_holds.tw14997073306097389879 : True := trivial
theorem law_holds.tw15014403891855920072 : True := trivial
theorem law_holds.tw15039968919637362723 : True := trivial
theorem law_holds.tw15049334964525308263 : True := trivial
theorem law_holds.tw15088961453551581880 : True := trivial
theorem law_holds.tw15123554796541802991 : True := trivial
theorem law_holds.tw15140378357190847165 : True := trivial
theorem law_holds.tw15150646450996357022 : True := trivial
theorem law_holds.tw15154110283740273250 : True := trivial
theorem law_holds.tw15162217921772873613 : True := trivial
theorem law_holds.tw15202863084288179589 : True := trivial
theorem law_holds.tw15242022910975006910 : True := trivial
theorem law_holds.tw15245060079416988905 : True := trivial
theorem law_holds.tw15272395603832836080 : True := trivial
theorem law_holds.tw15274831704391544125 : True := trivial
theorem law_holds.tw15293083901398250104 : True := trivial
theorem law_holds.tw15320506598460614908 : True := trivial
theorem law_holds.tw15333956030411951890 : True := trivial
theorem law_holds.tw15341342317828512493 : True := trivial
theorem law_holds.tw15352218221683021774 : True := trivial
theorem law_holds.tw15359609613788013507 : True := trivial
theorem law_holds.tw15452448965706171373 : True := trivial
theorem law_holds.tw15483129889696659574 : True := trivial
theorem law_holds.tw1550374771381668074 : True := trivial
theorem law_holds.tw15514866124879379921 : True := trivial
theorem law_holds.tw15526298677375409021 : True := trivial
theorem law_holds.tw15527639110640922598 : True := trivial
theorem law_holds.tw1556451293825771818 : True := trivial
theorem law_holds.tw15567558954438479688 : True := trivial
theorem law_holds.tw15582480489069833490 : True := trivial
theorem law_holds.tw15607887362523206001 : True := trivial
theorem law_holds.tw15609566024721092083 : True := trivial
theorem law_holds.tw15617896438947887921 : True := trivial
theorem law_holds.tw15623931887893595886 : True := trivial
theorem law_holds.tw15644819842384902770 : True := trivial
theorem law_holds.tw15646520184464998804 : True := trivial
theorem law_holds.tw15661869461025623997 : True := trivial
theorem law_holds.tw1567021292681222707 : True := trivial
theorem law_holds.tw15694993059591697976 : True := trivial
theorem law_holds.tw15695062497276918967 : True := trivial
theorem law_holds.tw15726739188670627701 : True := trivial
theorem law_holds.tw15732109348078318572 : True := trivial
theorem law_holds.tw15741379261994504178 : True := trivial
theorem law_holds.tw15796309260620551687 : True := trivial
theorem law_holds.tw15802469936163623734 : True := trivial
theorem law_holds.tw15806970514647361693 : True := trivial
theorem law_holds.tw15829985883664642994 : True := trivial
theorem law_holds.tw15837452725152343555 : True := trivial
theorem law_holds.tw15848713872586308078 : True := trivial
theorem law_holds.tw15873654808861938513 : True := trivial
theorem law_holds.tw15883345262158282383 : True := trivial
theorem law_holds.tw15884304794012968992 : True := trivial
theorem law_holds.tw1588742098881680585 : True := trivial
theorem law_holds.tw15917412866852771543 : True := trivial
theorem law_holds.tw16009327648451700120 : True := trivial
theorem law_holds.tw16066104587097768911 : True := trivial
theorem law_holds.tw160851071654074740 : True := trivial
theorem law_holds.tw16098570224071239113 : True := trivial
theorem law_holds.tw16099233806120587224 : True := trivial
theorem law_holds.tw16106779387088534511 : True := trivial
theorem law_holds.tw16122234104351945819 : True := trivial
theorem law_holds.tw16165715940066559518 : True := trivial
theorem law_holds.tw16170062445108390699 : True := trivial
theorem law_holds.tw16184459414616452189 : True := trivial
theorem law_holds.tw16190568399584723965 : True := trivial
theorem law_holds.tw16192464803593610453 : True := trivial
theorem law_holds.tw16202244259718314570 : True := trivial
theorem law_holds.tw1622690429015379626 : True := trivial
theorem law_holds.tw16245577235439221107 : True := trivial
theorem law_holds.tw16273140198857503625 : True := trivial
theorem law_holds.tw16307713440670912930 : True := trivial
theorem law_holds.tw16332274672890094952 : True := trivial
theorem law_holds.tw16335311869981183947 : True := trivial
theorem law_holds.tw16381176275627223697 : True := trivial
theorem law_holds.tw16406091861079842607 : True := trivial
theorem law_holds.tw16462895619179043833 : True := trivial
theorem law_holds.tw16470317323979864763 : True := trivial
theorem law_holds.tw16482278838752557086 : True := trivial
theorem law_holds.tw16563099163409725306 : True := trivial
theorem law_holds.tw16606368319796509530 : True := trivial
theorem law_holds.tw16612359704951912572 : True := trivial
theorem law_holds.tw16625653849559256525 : True := trivial
theorem law_holds.tw16641252976520058099 : True := trivial
theorem law_holds.tw16652518915623901521 : True := trivial
theorem law_holds.tw1670043908289496885 : True := trivial
theorem law_holds.tw16701994192336326122 : True := trivial
theorem law_holds.tw16708887144172644987 : True := trivial
theorem law_holds.tw16720094985154256693 : True := trivial
theorem law_holds.tw16765433158599729185 : True := trivial
theorem law_holds.tw16805829885119392726 : True := trivial
theorem law_holds.tw1681173693875575501 : True := trivial
theorem law_holds.tw16827775902095551856 : True := trivial
theorem law_holds.tw1685627985566243432 : True := trivial
theorem law_holds.tw16871385213344756426 : True := trivial
theorem law_holds.tw16873695467490121585 : True := trivial
theorem law_holds.tw16873799427995575018 : True := trivial
theorem law_holds.tw16883458599210261866 : True := trivial
theorem law_holds.tw16893121556090616931 : True := trivial
theorem law_holds.tw1689763614830377041 : True := trivial
theorem law_holds.tw16898189318038581234 : True := trivial
theorem law_holds.tw16914220770136414715 : True := trivial
theorem law_holds.tw16935243356766158856 : True := trivial
theorem law_holds.tw16947615914383616782 : True := trivial
theorem law_holds.tw16963379459963715452 : True := trivial
theorem law_holds.tw16978406815995349258 : True := trivial
theorem law_holds.tw17027635718292003107 : True := trivial
theorem law_holds.tw17028624522117568015 : True := trivial
theorem law_holds.tw17044581251229063488 : True := trivial
theorem law_holds.tw17046799393618780204 : True := trivial
theorem law_holds.tw17122233677790987533 : True := trivial
theorem law_holds.tw1713144814433471595 : True := trivial
theorem law_holds.tw17156363617357476176 : True := trivial
theorem law_holds.tw17169043682955552997 : True := trivial
theorem law_holds.tw17180001009569633970 : True := trivial
theorem law_holds.tw17183477848116922584 : True := trivial
theorem law_holds.tw1722738952054099684 : True := trivial
theorem law_holds.tw17237755526102222789 : True := trivial
theorem law_holds.tw17248354013995264833 : True := trivial
theorem law_holds.tw1724926542741425601 : True := trivial
theorem law_holds.tw17249539165995611551 : True := trivial
theorem law_holds.tw17253691774821329096 : True := trivial
theorem law_holds.tw17274716441693411508 : True := trivial
theorem law_holds.tw17294823503141414406 : True := trivial
theorem law_holds.tw17305254018735503138 : True := trivial
theorem law_holds.tw17309000430359075326 : True := trivial
theorem law_holds.tw17311987242748728955 : True := trivial
theorem law_holds.tw17333074002647195236 : True := trivial
theorem law_holds.tw17345407343664743607 : True := trivial
theorem law_holds.tw17364227736987735495 : True := trivial
theorem law_holds.tw1737005901722704485 : True := trivial
theorem law_holds.tw17371252989657294990 : True := trivial
theorem law_holds.tw17389434848343332794 : True := trivial
theorem law_holds.tw17419225075052043924 : True := trivial
theorem law_holds.tw17458534234597298029 : True := trivial
theorem law_holds.tw17523808032732122987 : True := trivial
theorem law_holds.tw17529362906406652863 : True := trivial
theorem law_holds.tw17545576798567701639 : True := trivial
theorem law_holds.tw17553930602362091883 : True := trivial
theorem law_holds.tw17562025525947693838 : True := trivial
theorem law_holds.tw17580165497215679439 : True := trivial
theorem law_holds.tw17598101756349436640 : True := trivial
theorem law_holds.tw17607630403765710837 : True := trivial
theorem law_holds.tw1762888911704233025 : True := trivial
theorem law_holds.tw1767730674963353768 : True := trivial
theorem law_holds.tw17713402740875732926 : True := trivial
theorem law_holds.tw17758146289354676595 : True := trivial
theorem law_holds.tw17775403365899300489 : True := trivial
theorem law_holds.tw17792525830624384078 : True := trivial
theorem law_holds.tw17830944117370523080 : True := trivial
theorem law_holds.tw1784627337472249616 : True := trivial
theorem law_holds.tw17848598403364733487 : True := trivial
theorem law_holds.tw17865009358878524859 : True := trivial
theorem law_holds.tw17884844454425935293 : True := trivial
theorem law_holds.tw17899081815984039989 : True := trivial
theorem law_holds.tw1791086108937442324 : True := trivial
theorem law_holds.tw17911580528928914924 : True := trivial
theorem law_holds.tw17923851452625207687 : True := trivial
theorem law_holds.tw17942499455142895165 : True := trivial
theorem law_holds.tw17942709131360195518 : True := trivial
theorem law_holds.tw179590077315354965 : True := trivial
theorem law_holds.tw17974257514489008736 : True := trivial
theorem law_holds.tw17993387198741990920 : True := trivial
theorem law_holds.tw18026530572120702767 : True := trivial
theorem law_holds.tw18051328159682125866 : True := trivial
theorem law_holds.tw18088736630749135056 : True := trivial
theorem law_holds.tw180908045013255413 : True := trivial
theorem law_holds.tw18116031599527039140 : True := trivial
theorem law_holds.tw18153520721480276881 : True := trivial
theorem law_holds.tw18155623678392573649 : True := trivial
theorem law_holds.tw18155977372800253590 : True := trivial
theorem law_holds.tw18165013545707147870 : True := trivial
theorem law_holds.tw1819244514083003361 : True := trivial
theorem law_holds.tw18197852217732850983 : True := trivial
theorem law_holds.tw1819975233463548508 : True := trivial
theorem law_holds.tw18203989763732354715 : True := trivial
theorem law_holds.tw18221428039690301666 : True := trivial
theorem law_holds.tw18221580467831097590 : True := trivial
theorem law_holds.tw18234560199702728603 : True := trivial
theorem law_holds.tw18254337876149969668 : True := trivial
theorem law_holds.tw18261290160731607033 : True := trivial
theorem law_holds.tw18309190362041527269 : True := trivial
theorem law_holds.tw18312799740870528207 : True := trivial
theorem law_holds.tw18326849912455186884 : True := trivial
theorem law_holds.tw18388893480867403737 : True := trivial
theorem law_holds.tw18430954121086234272 : True := trivial
theorem law_holds.tw1905533677188600702 : True := trivial
theorem law_holds.tw1909877003179415225 : True := trivial
theorem law_holds.tw1928719863018725356 : True := trivial
theorem law_holds.tw1929443778124869092 : True := trivial
theorem law_holds.tw194939583717160490 : True := trivial
theorem law_holds.tw1973129929022764952 : True := trivial
theorem law_holds.tw1980014416275693142 : True := trivial
theorem law_holds.tw1989176631692091739 : True := trivial
theorem law_holds.tw1995169965324791860 : True := trivial
theorem law_holds.tw1997475870405608531 : True := trivial
theorem law_holds.tw2006301483956418059 : True := trivial
theorem law_holds.tw2008241840959921210 : True := trivial
theorem law_holds.tw2016121425191149895 : True := trivial
theorem law_holds.tw2017991025062827469 : True := trivial
theorem law_holds.tw2039724139929955007 : True := trivial
theorem law_holds.tw2043166853727251185 : True := trivial
theorem law_holds.tw2055607484372380296 : True := trivial
theorem law_holds.tw2055734563569237896 : True := trivial
theorem law_holds.tw2075624079617657780 : True := trivial
theorem law_holds.tw2078624436916829710 : True := trivial
theorem law_holds.tw2088057726675268939 : True := trivial
theorem law_holds.tw2090888555730037645 : True := trivial
theorem law_holds.tw2096525686368166746 : True := trivial
theorem law_holds.tw2102315897755806987 : True := trivial
theorem law_holds.tw2112619612379961697 : True := trivial
theorem law_holds.tw2124134355350193313 : True := trivial
theorem law_holds.tw2136269947727277649 : True := trivial
theorem law_holds.tw2139172203440323022 : True := trivial
theorem law_holds.tw2139843940965253949 : True := trivial
theorem law_holds.tw2142710703020379005 : True := trivial
theorem law_holds.tw2143268655074302082 : True := trivial
theorem law_holds.tw2152083551845799040 : True := trivial
theorem law_holds.tw2159558930717985069 : True := trivial
theorem law_holds.tw217386770830766740 : True := trivial
theorem law_holds.tw2175471002772951711 : True := trivial
theorem law_holds.tw218528332313867021 : True := trivial
theorem law_holds.tw2211468639325271704 : True := trivial
theorem law_holds.tw2269544990204364226 : True := trivial
theorem law_holds.tw228058311090241170 : True := trivial
theorem law_holds.tw2294003691359702452 : True := trivial
theorem law_holds.tw2295933128562542503 : True := trivial
theorem law_holds.tw2303879751551577860 : True := trivial
theorem law_holds.tw2322801206320994539 : True := trivial
theorem law_holds.tw2325693721150917532 : True := trivial
theorem law_holds.tw2376695672464595844 : True := trivial
theorem law_holds.tw2382714987290314120 : True := trivial
theorem law_holds.tw2384872892506856444 : True := trivial
theorem law_holds.tw2395105632611409283 : True := trivial
theorem law_holds.tw2401843486660128364 : True := trivial
theorem law_holds.tw2414074194907454277 : True := trivial
theorem law_holds.tw2414130084998747865 : True := trivial
theorem law_holds.tw2414361068126709639 : True := trivial
theorem law_holds.tw2446358144275080391 : True := trivial
theorem law_holds.tw245764215241151709 : True := trivial
theorem law_holds.tw2470889107711209942 : True := trivial
theorem law_holds.tw2556814659519978841 : True := trivial
theorem law_holds.tw2557128651999224082 : True := trivial
theorem law_holds.tw2558664710541493025 : True := trivial
theorem law_holds.tw2580079619333081803 : True := trivial
theorem law_holds.tw2589748818833699389 : True := trivial
theorem law_holds.tw2602977815382960713 : True := trivial
theorem law_holds.tw2643161274291862537 : True := trivial
theorem law_holds.tw2643271747718453845 : True := trivial
theorem law_holds.tw2644310842459337959 : True := trivial
theorem law_holds.tw2667362832866536986 : True := trivial
theorem law_holds.tw2695550118857162214 : True := trivial
theorem law_holds.tw270554467692517631 : True := trivial
theorem law_holds.tw2731376850318366449 : True := trivial
theorem law_holds.tw2782419253953178936 : True := trivial
theorem law_holds.tw2782584491509435139 : True := trivial
theorem law_holds.tw2788888992717563140 : True := trivial
theorem law_holds.tw2798143973674455058 : True := trivial
theorem law_holds.tw2823118279179183905 : True := trivial
theorem law_holds.tw2842810181116790245 : True := trivial
theorem law_holds.tw2851267720448770887 : True := trivial
theorem law_holds.tw2856731137302751260 : True := trivial
theorem law_holds.tw2865737869514987218 : True := trivial
theorem law_holds.tw2882485010973397480 : True := trivial
theorem law_holds.tw2887050238494874643 : True := trivial
theorem law_holds.tw2887994833065977647 : True := trivial
theorem law_holds.tw2903333896348957400 : True := trivial
theorem law_holds.tw2907507879108658156 : True := trivial
theorem law_holds.tw2924946361707170262 : True := trivial
theorem law_holds.tw3005452535816212104 : True := trivial
theorem law_holds.tw3024374315939245509 : True := trivial
theorem law_holds.tw3028213030429885723 : True := trivial
theorem law_holds.tw3033269912633744064 : True := trivial
theorem law_holds.tw3046938939346580660 : True := trivial
theorem law_holds.tw3049941959672503198 : True := trivial
theorem law_holds.tw3077249439568447194 : True := trivial
theorem law_holds.tw3110860835449505704 : True := trivial
theorem law_holds.tw3127913417769977931 : True := trivial
theorem law_holds.tw312863333873483875 : True := trivial
theorem law_holds.tw3136910860242942599 : True := trivial
theorem law_holds.tw3152906847767001463 : True := trivial
theorem law_holds.tw3158129796062787159 : True := trivial
theorem law_holds.tw3186734533307500241 : True := trivial
theorem law_holds.tw3196237028118051783 : True := trivial
theorem law_holds.tw3222016081226267511 : True := trivial
theorem law_holds.tw3253568177066640346 : True := trivial
theorem law_holds.tw3253820488102484341 : True := trivial
theorem law_holds.tw3258674603298201628 : True := trivial
theorem law_holds.tw326997939128634323 : True := trivial
theorem law_holds.tw3307954989432871184 : True := trivial
theorem law_holds.tw3339164412607631549 : True := trivial
theorem law_holds.tw3345943897349945916 : True := trivial
theorem law_holds.tw3366817510852727610 : True := trivial
theorem law_holds.tw3381667417286267614 : True := trivial
theorem law_holds.tw3390839446522356110 : True := trivial
theorem law_holds.tw3426337659310251177 : True := trivial
theorem law_holds.tw3426384778480675251 : True := trivial
theorem law_holds.tw3438298445031660282 : True := trivial
theorem law_holds.tw3487968232213910406 : True := trivial
theorem law_holds.tw3545908947808057021 : True := trivial
theorem law_holds.tw3551631022101015893 : True := trivial
theorem law_holds.tw3572487005457819259 : True := trivial
theorem law_holds.tw3584490593718003838 : True := trivial
theorem law_holds.tw3586223124089845285 : True := trivial
theorem law_holds.tw3602377517896009648 : True := trivial
theorem law_holds.tw3607733795294823564 : True := trivial
theorem law_holds.tw3612332870262773283 : True := trivial
theorem law_holds.tw3625451137614018508 : True := trivial
theorem law_holds.tw3663427449441712954 : True := trivial
theorem law_holds.tw3672438013989251361 : True := trivial
theorem law_holds.tw3674665740742831893 : True := trivial
theorem law_holds.tw367903286550418209 : True := trivial
theorem law_holds.tw3682559726232862161 : True := trivial
theorem law_holds.tw3692103080737180250 : True := trivial
theorem law_holds.tw3721179886434227535 : True := trivial
theorem law_holds.tw3742325753681652743 : True := trivial
theorem law_holds.tw3756308257209627903 : True := trivial
theorem law_holds.tw3756957479349018193 : True := trivial
theorem law_holds.tw3772654092419426264 : True := trivial
theorem law_holds.tw3783255490424437341 : True := trivial
theorem law_holds.tw3801589014035127680 : True := trivial
theorem law_holds.tw3808703085821546077 : True := trivial
theorem law_holds.tw3809755536050820187 : True := trivial
theorem law_holds.tw3850334171643177529 : True := trivial
theorem law_holds.tw3850375180904979519 : True := trivial
theorem law_holds.tw3850404396616230974 : True := trivial
theorem law_holds.tw3852827713774964812 : True := trivial
theorem law_holds.tw3882201998751590657 : True := trivial
theorem law_holds.tw3882250662718909693 : True := trivial
theorem law_holds.tw3896150654470677357 : True := trivial
theorem law_holds.tw3910120701321347557 : True := trivial
theorem law_holds.tw3912811242725288453 : True := trivial
theorem law_holds.tw3927331946688356228 : True := trivial
theorem law_holds.tw3943428198234077543 : True := trivial
theorem law_holds.tw3955097671198598788 : True := trivial
theorem law_holds.tw3958906441317128266 : True := trivial
theorem law_holds.tw3959601488294255719 : True := trivial
theorem law_holds.tw3974387499553966400 : True := trivial
theorem law_holds.tw3979707639553702691 : True := trivial
theorem law_holds.tw4008084134468147086 : True := trivial
theorem law_holds.tw4010602895031118862 : True := trivial
theorem law_holds.tw4012412122566942357 : True := trivial
theorem law_holds.tw4030767218360268280 : True := trivial
theorem law_holds.tw4037582482628031876 : True := trivial
theorem law_holds.tw4072507727158212662 : True := trivial
theorem law_holds.tw4080157896497106081 : True := trivial
theorem law_holds.tw4114491029794296638 : True := trivial
theorem law_holds.tw4124640904062056756 : True := trivial
theorem law_holds.tw4143738569270334224 : True := trivial
theorem law_holds.tw4146061822495498468 : True := trivial
theorem law_holds.tw415365407113419659 : True := trivial
theorem law_holds.tw41732636909640268 : True := trivial
theorem law_holds.tw4211113817173803656 : True := trivial
theorem law_holds.tw4273555757443719353 : True := trivial
theorem law_holds.tw4335992446042490282 : True := trivial
theorem law_holds.tw4370086069003782432 : True := trivial
theorem law_holds.tw4433843952089619705 : True := trivial
theorem law_holds.tw4439653461905209652 : True := trivial
theorem law_holds.tw4441770287765753910 : True := trivial
theorem law_holds.tw4464252984393422682 : True := trivial
theorem law_holds.tw447027507633508388 : True := trivial
theorem law_holds.tw4492043994082249198 : True := trivial
theorem law_holds.tw4515466672771955728 : True := trivial
theorem law_holds.tw4517222822008671029 : True := trivial
theorem law_holds.tw4524032621918665186 : True := trivial
theorem law_holds.tw455179833554555240 : True := trivial
theorem law_holds.tw4568741812840581045 : True := trivial
theorem law_holds.tw4575823598074768960 : True := trivial
theorem law_holds.tw4581845663705801772 : True := trivial
theorem law_holds.tw4593294709026258786 : True := trivial
theorem law_holds.tw4614512636035447770 : True := trivial
theorem law_holds.tw462603977267732627 : True := trivial
theorem law_holds.tw4635674611617693574 : True := trivial
theorem law_holds.tw4643041051132140158 : True := trivial
theorem law_holds.tw4741859662064258567 : True := trivial
theorem law_holds.tw4781243967656130014 : True := trivial
theorem law_holds.tw4797790103318477656 : True := trivial
theorem law_holds.tw4820369329881294799 : True := trivial
theorem law_holds.tw4886312948824227682 : True := trivial
theorem law_holds.tw4889031023730116350 : True := trivial
theorem law_holds.tw4913491355128607118 : True := trivial
theorem law_holds.tw4916342969005030805 : True := trivial
theorem law_holds.tw4963573110770748834 : True := trivial
theorem law_holds.tw4991859449750346478 : True := trivial
theorem law_holds.tw4992725456586698614 : True := trivial
theorem law_holds.tw4995542688137877417 : True := trivial
theorem law_holds.tw503957847093417577 : True := trivial
theorem law_holds.tw5044595872519035376 : True := trivial
theorem law_holds.tw5045712524691215523 : True := trivial
theorem law_holds.tw5087963091746180759 : True := trivial
theorem law_holds.tw5112083995522966620 : True := trivial
theorem law_holds.tw5117662029339320154 : True := trivial
theorem law_holds.tw519298541982818421 : True := trivial
theorem law_holds.tw5212653520564569363 : True := trivial
theorem law_holds.tw5222685764011923507 : True := trivial
theorem law_holds.tw5274592661964301406 : True := trivial
theorem law_holds.tw5364902710198789758 : True := trivial
theorem law_holds.tw5432952435368640112 : True := trivial
theorem law_holds.tw5451054884063135654 : True := trivial
theorem law_holds.tw545109181885906688 : True := trivial
theorem law_holds.tw5455921660152230842 : True := trivial
theorem law_holds.tw5488932636959071455 : True := trivial
theorem law_holds.tw5506821171919863439 : True := trivial
theorem law_holds.tw5514985750730242732 : True := trivial
theorem law_holds.tw5542243279508502960 : True := trivial
theorem law_holds.tw5640673133297012132 : True := trivial
theorem law_holds.tw5647190250986860303 : True := trivial
theorem law_holds.tw5731563423909890137 : True := trivial
theorem law_holds.tw576407869801174206 : True := trivial
theorem law_holds.tw5765542928187402639 : True := trivial
theorem law_holds.tw5769158387606399586 : True := trivial
theorem law_holds.tw5781380259314154910 : True := trivial
theorem law_holds.tw5788490908846893860 : True := trivial
theorem law_holds.tw5791418645094131800 : True := trivial
theorem law_holds.tw5898729028444588960 : True := trivial
theorem law_holds.tw5914491427308094424 : True := trivial
theorem law_holds.tw5920216800500632969 : True := trivial
theorem law_holds.tw5926295103528105954 : True := trivial
theorem law_holds.tw59864651932915081 : True := trivial
theorem law_holds.tw5989267464594152519 : True := trivial
theorem law_holds.tw5994716906283268228 : True := trivial
theorem law_holds.tw602461330855297101 : True := trivial
theorem law_holds.tw6041440012092600215 : True := trivial
theorem law_holds.tw607667584577438428 : True := trivial
theorem law_holds.tw6111484700653504198 : True := trivial
theorem law_holds.tw6119071299663865417 : True := trivial
theorem law_holds.tw6122225920155410508 : True := trivial
theorem law_holds.tw6168114395901332020 : True := trivial
theorem law_holds.tw6189876280036216102 : True := trivial
theorem law_holds.tw6260460797876433568 : True := trivial
theorem law_holds.tw6265907326580845545 : True := trivial
theorem law_holds.tw6319825239189999033 : True := trivial
theorem law_holds.tw6333624483447246961 : True := trivial
theorem law_holds.tw6345391036791879355 : True := trivial
theorem law_holds.tw6346621912233149993 : True := trivial
theorem law_holds.tw6354221664691742131 : True := trivial
theorem law_holds.tw6381524096760519305 : True := trivial
theorem law_holds.tw6499956759230125245 : True := trivial
theorem law_holds.tw6507877686720480950 : True := trivial
theorem law_holds.tw653560878884961445 : True := trivial
theorem law_holds.tw6553333263825352884 : True := trivial
theorem law_holds.tw6564709946809587534 : True := trivial
theorem law_holds.tw6580623548314892615 : True := trivial
theorem law_holds.tw660297872995803996 : True := trivial
theorem law_holds.tw6603102845771900818 : True := trivial
theorem law_holds.tw6667284449218939238 : True := trivial
theorem law_holds.tw669063445224795674 : True := trivial
theorem law_holds.tw6709271908398517637 : True := trivial
theorem law_holds.tw6719018230134327050 : True := trivial
theorem law_holds.tw6723812968561706957 : True := trivial
theorem law_holds.tw6726159173723076276 : True := trivial
theorem law_holds.tw6727219029552735585 : True := trivial
theorem law_holds.tw6746360682218282392 : True := trivial
theorem law_holds.tw6747315666322679634 : True := trivial
theorem law_holds.tw6751701741844952029 : True := trivial
theorem law_holds.tw676263390381983339 : True := trivial
theorem law_holds.tw6765152471904792315 : True := trivial
theorem law_holds.tw6803784606104104915 : True := trivial
theorem law_holds.tw6833386782581465115 : True := trivial
theorem law_holds.tw6856271012784772064 : True := trivial
theorem law_holds.tw6860709855171689206 : True := trivial
theorem law_holds.tw6861490101519172755 : True := trivial
theorem law_holds.tw687851300278632918 : True := trivial
theorem law_holds.tw6881874429007886204 : True := trivial
theorem law_holds.tw6882020374766023752 : True := trivial
theorem law_holds.tw6890789416708739275 : True := trivial
theorem law_holds.tw6896717019858035522 : True := trivial
theorem law_holds.tw6911747868599837429 : True := trivial
theorem law_holds.tw6934448944433832347 : True := trivial
theorem law_holds.tw6952626026076278478 : True := trivial
theorem law_holds.tw699380112222796084 : True := trivial
theorem law_holds.tw7014720503175028613 : True := trivial
theorem law_holds.tw7019463264422422977 : True := trivial
theorem law_holds.tw7025558430660992183 : True := trivial
theorem law_holds.tw7034799258891941112 : True := trivial
theorem law_holds.tw7052821283958023361 : True := trivial
theorem law_holds.tw7067974818453428095 : True := trivial
theorem law_holds.tw7075437091277307205 : True := trivial
theorem law_holds.tw7087491825025586495 : True := trivial
theorem law_holds.tw7089819591129360890 : True := trivial
theorem law_holds.tw7116731048869669803 : True := trivial
theorem law_holds.tw7120836010843673076 : True := trivial
theorem law_holds.tw7123599913665508030 : True := trivial
theorem law_holds.tw71255217949683197 : True := trivial
theorem law_holds.tw7169296243666066974 : True := trivial
theorem law_holds.tw718173064312146323 : True := trivial
theorem law_holds.tw7185456241796803578 : True := trivial
theorem law_holds.tw723553956927101924 : True := trivial
theorem law_holds.tw724200737284857819 : True := trivial
theorem law_holds.tw7304591109411159013 : True := trivial
theorem law_holds.tw7313538909654459803 : True := trivial
theorem law_holds.tw733571504165245281 : True := trivial
theorem law_holds.tw7345768897557615242 : True := trivial
theorem law_holds.tw7351129398174139865 : True := trivial
theorem law_holds.tw7356349956106387506 : True := trivial
theorem law_holds.tw7356724547972884604 : True := trivial
theorem law_holds.tw7404543985812422374 : True := trivial
theorem law_holds.tw7407239408455114201 : True := trivial
theorem law_holds.tw7408322871517469003 : True := trivial
theorem law_holds.tw7408360369399539352 : True := trivial
theorem law_holds.tw7408472829698581751 : True := trivial
theorem law_holds.tw745255978533919091 : True := trivial
theorem law_holds.tw7472407996622490835 : True := trivial
theorem law_holds.tw7479968899032947501 : True := trivial
theorem law_holds.tw7480714314260584917 : True := trivial
theorem law_holds.tw7495221243884187115 : True := trivial
theorem law_holds.tw7497986649931050792 : True := trivial
theorem law_holds.tw7510824731391710808 : True := trivial
theorem law_holds.tw7544913113114293122 : True := trivial
theorem law_holds.tw7566432030715092817 : True := trivial
theorem law_holds.tw7604666192120794032 : True := trivial
theorem law_holds.tw7630923327383168834 : True := trivial
theorem law_holds.tw7631636504923648304 : True := trivial
theorem law_holds.tw7636989558263936852 : True := trivial
theorem law_holds.tw7660400162925590741 : True := trivial
theorem law_holds.tw7675160084493405025 : True := trivial
theorem law_holds.tw7695934317539461687 : True := trivial
theorem law_holds.tw7696488724909661519 : True := trivial
theorem law_holds.tw7699555767970713544 : True := trivial
theorem law_holds.tw7703727192748681421 : True := trivial
theorem law_holds.tw7767266014307106701 : True := trivial
theorem law_holds.tw7769649832755249146 : True := trivial
theorem law_holds.tw7775064044895347852 : True := trivial
theorem law_holds.tw7820799176418779761 : True := trivial
theorem law_holds.tw784011647948385275 : True := trivial
theorem law_holds.tw7910590604623066228 : True := trivial
theorem law_holds.tw7917754353467396125 : True := trivial
theorem law_holds.tw7983211939772527470 : True := trivial
theorem law_holds.tw8035577848987061507 : True := trivial
theorem law_holds.tw8040771413219435098 : True := trivial
theorem law_holds.tw8045378594462670225 : True := trivial
theorem law_holds.tw8061732933902216757 : True := trivial
theorem law_holds.tw8069529665006113395 : True := trivial
theorem law_holds.tw808278469055374699 : True := trivial
theorem law_holds.tw8131574967351443871 : True := trivial
theorem law_holds.tw8137031500313473552 : True := trivial
theorem law_holds.tw8157880013524578536 : True := trivial
theorem law_holds.tw8170779377897787297 : True := trivial
theorem law_holds.tw8176227357466254829 : True := trivial
theorem law_holds.tw8191475993861738794 : True := trivial
theorem law_holds.tw8249079356659094474 : True := trivial
theorem law_holds.tw8283681822388582728 : True := trivial
theorem law_holds.tw8285764192309689115 : True := trivial
theorem law_holds.tw8297313697389066934 : True := trivial
theorem law_holds.tw8312275703017117140 : True := trivial
theorem law_holds.tw8312341600987523519 : True := trivial
theorem law_holds.tw8330938851228082562 : True := trivial
theorem law_holds.tw8341546272841932725 : True := trivial
theorem law_holds.tw8369274380968253667 : True := trivial
theorem law_holds.tw8386679336120195906 : True := trivial
theorem law_holds.tw8398172748654082301 : True := trivial
theorem law_holds.tw841179935631392477 : True := trivial
theorem law_holds.tw8413839820570837369 : True := trivial
theorem law_holds.tw8417186165934385351 : True := trivial
theorem law_holds.tw8441880690091102137 : True := trivial
theorem law_holds.tw8472228645029834797 : True := trivial
theorem law_holds.tw8481075993509181622 : True := trivial
theorem law_holds.tw850272041215511910 : True := trivial
theorem law_holds.tw8549365171731915398 : True := trivial
theorem law_holds.tw8553002610548859549 : True := trivial
theorem law_holds.tw8570087061310353148 : True := trivial
theorem law_holds.tw8572072892066365893 : True := trivial
theorem law_holds.tw8585773674032094923 : True := trivial
theorem law_holds.tw8591876402714022951 : True := trivial
theorem law_holds.tw863230966790177721 : True := trivial
theorem law_holds.tw8634839017697508684 : True := trivial
theorem law_holds.tw8652346329174877282 : True := trivial
theorem law_holds.tw8666519363043736892 : True := trivial
theorem law_holds.tw8685087848568736164 : True := trivial
theorem law_holds.tw8712014163911447464 : True := trivial
theorem law_holds.tw8715444014776630742 : True := trivial
theorem law_holds.tw8763168800255643514 : True := trivial
theorem law_holds.tw8765428355355776791 : True := trivial
theorem law_holds.tw8785698371604719795 : True := trivial
theorem law_holds.tw8790382262760724670 : True := trivial
theorem law_holds.tw8796305342591271336 : True := trivial
theorem law_holds.tw8804120190785687885 : True := trivial
theorem law_holds.tw8806649888931605024 : True := trivial
theorem law_holds.tw881140697980615281 : True := trivial
theorem law_holds.tw8829074647290719032 : True := trivial
theorem law_holds.tw8835965917227929528 : True := trivial
theorem law_holds.tw8854015012368427407 : True := trivial
theorem law_holds.tw8856317710758748564 : True := trivial
theorem law_holds.tw8857742495270377987 : True := trivial
theorem law_holds.tw8860054118572591635 : True := trivial
theorem law_holds.tw8890443458166856008 : True := trivial
theorem law_holds.tw8909828626151137519 : True := trivial
theorem law_holds.tw8922897050441119698 : True := trivial
theorem law_holds.tw8939018918628865471 : True := trivial
theorem law_holds.tw8957123355933967898 : True := trivial
theorem law_holds.tw8984712037535005518 : True := trivial
theorem law_holds.tw9009705080361974123 : True := trivial
theorem law_holds.tw9013377322688217293 : True := trivial
theorem law_holds.tw9032088933897422861 : True := trivial
theorem law_holds.tw9032369906271771983 : True := trivial
theorem law_holds.tw9069877914133315304 : True := trivial
theorem law_holds.tw907578622648922086 : True := trivial
theorem law_holds.tw908389787484368193 : True := trivial
theorem law_holds.tw9168033884955339765 : True := trivial
theorem law_holds.tw9184033795430018204 : True := trivial
theorem law_holds.tw9207643191828677137 : True := trivial
theorem law_holds.tw9212889513913684515 : True := trivial
theorem law_holds.tw9220624806794609946 : True := trivial
theorem law_holds.tw9255152265573255198 : True := trivial
theorem law_holds.tw926570990666696690 : True := trivial
theorem law_holds.tw9288214680346807717 : True := trivial
theorem law_holds.tw9290190842861060508 : True := trivial
theorem law_holds.tw9317688335297629284 : True := trivial
theorem law_holds.tw9387504603337931229 : True := trivial
theorem law_holds.tw9403268196540146800 : True := trivial
theorem law_holds.tw9408665825312085761 : True := trivial
theorem law_holds.tw9423440377400516374 : True := trivial
theorem law_holds.tw9432397437662838624 : True := trivial
theorem law_holds.tw9483915327669328748 : True := trivial
theorem law_holds.tw9502071092897418529 : True := trivial
theorem law_holds.tw9524400087533092186 : True := trivial
theorem law_holds.tw9529696498207198238 : True := trivial
theorem law_holds.tw9552830710289189752 : True := trivial
theorem law_holds.tw9606376775287448836 : True := trivial
theorem law_holds.tw9611832331244035263 : True := trivial
theorem law_holds.tw9634471323475708679 : True := trivial
theorem law_holds.tw9682718004065560343 : True := trivial
theorem law_holds.tw972601921857779769 : True := trivial
theorem law_holds.tw9758047768218912823 : True := trivial
theorem law_holds.tw9779807473162285230 : True := trivial
theorem law_holds.tw981846192996546977 : True := trivial
theorem law_holds.tw9843604407834444796 : True := trivial
theorem law_holds.tw9849722394096787677 : True := trivial
theorem law_holds.tw9871626496009991038 : True := trivial
theorem law_holds.tw9875236377963488844 : True := trivial
theorem law_holds.tw9887912731928775018 : True := trivial
theorem law_holds.tw9897484093202304508 : True := trivial
theorem law_holds.tw9950801491294251245 : True := trivial
theorem law_holds.tw9952934120092978494 : True := trivial
theorem law_holds.tw9965324091349369512 : True := trivial
theorem law_holds.tw9975692261777386857 : True := trivial
theorem law_holds.tw9989359697036934923 : True := trivial
theorem law_holds.tw9992725586745946429 : True := trivial
theorem law_holds.tw8075568018651887793 : True := trivial
end Mine
section -- M1z
open PySem PySem.W PyProof.Rows PySem.Calls
set_option maxRecDepth 100000
namespace Mine
set_option maxHeartbeats 4000000
set_option Elab.async true in
set_option maxHeartbeats 8000000 in
theorem law_holds : PySem.Challenge.rw_kn0093_01.Holds := by
  w_on
  o_law
  o_head (kHook hd.heap_39 heapAs (fun _ => by kernel_rfl))
  case hw => w_witness2
  w_top off
  intro w s₀ s₁ mg mb G Y fa o pm cd doc dV kV ho hd hcd hD hmg hg args vals as hpre hlay hrd hwl hlo
  have KX := kIn_of Y
  refine Ground.open G ?_
  intro T _ _ TE TW
  have hfa : fa = 626 := by
    have e := mg_of (v := .ref 626) KX T.g (n := "law") (by kernel_rfl)
    have e' := (show mg "law" = some (.ref fa) from hmg)
    rw [e] at e'
    cases e'
    rfl
  subst hfa
  clear hmg ho hd hcd hD TE TW
  wrow_args hpre hlay hrd hwl hlo
  rename IntsAre _ _ => hI
  rename Heap.IsList _ _ _ => hL
  rename ¬ _ => hc
  have key := law_walk (s := s₁) (R := fun r s' => r = .ok (.ret (.bool true)) ∧ ∃ h' t', s' = { s₁ with heap := h', toks := t' } ∧ ∀ b o, s₁.heap.get? b = some o → h'.get? b = some o) KX T (below_caller _) hL hI (by omega) fun h' t' hk => ⟨rfl, h', t', rfl, hk⟩
  refine g_call (g_codeMono key fun r s' hr => ?_)
  obtain ⟨rfl, h', t', rfl, hk⟩ := hr
  refine GoodW.toG ⟨.inl ⟨_, _, _, rfl, fun _ => rfl, ReadsW.bool true, ?_, fun _ => ⟨List.nodup_nil, fun _ h => nomatch h⟩⟩, hk, rfl, hg⟩
  first | rfl | with_unfolding_all rfl | kernel_rfl
end Mine
end
theorem PySem.Challenge.cw_kn0093_01_holds : PySem.Challenge.rw_kn0093_01.Holds := by
  exact Mine.law_holds
