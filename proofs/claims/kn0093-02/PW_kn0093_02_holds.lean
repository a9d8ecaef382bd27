import PyProof.Rows.All
import Wide.All
import OpenK.AllK
import Wide.FinOn
import PySem.Challenge.RW_kn0093_02
set_option Elab.async false
set_option linter.all false
section -- G0
open PySem PySem.W PyProof.Rows PySem.Calls
set_option maxRecDepth 100000
namespace Mine
open Sem (wp)

/- A logic over the contexts in which no code stands that holds a bytearray (a decoder amid its work):
   the model's look «exported» asks the whole stack; wpAny speaks of every stack. -/
def badIds : List String := Builtin.Bytes.decodersThatHold ++ ["bytearray.__contains__", "bytearray.__mod__", "bytearray.__rmod__", "_struct.pack_into.held", "bytearray.find.held"]
def bad : Code → Bool
  | .builtin id _ => badIds.contains id
  | _ => false
def Good (Γ : Ctx) : Prop := bad Γ.code = false ∧ ∀ x ∈ Γ.below, bad x.1 = false

theorem Good.enter {Γ : Ctx} (g : Good Γ) {c : Code} (hc : bad c = false) (h : Option Value) (p : Pos) : Good (Γ.enter c h p) :=
  ⟨hc, fun x hx => by
    rcases List.mem_cons.mp hx with rfl | hx
    · exact g.1
    · exact g.2 x hx⟩
theorem Good.goto {Γ : Ctx} (g : Good Γ) {c : Code} (hc : bad c = false) : Good (Γ.goto c) := ⟨hc, g.2⟩

def wpG {α : Type} (M : Model) (A : Around) (t : Sem α) (Q : α → Shared → Prop) (E : Value → Shared → Prop) (s : Shared) : Prop :=
  ∀ Γ p, Γ.In A → Good Γ → wp M Γ t (fun a _ s' => Q a s') (fun e _ s' => E e s') p s
def codeG (M : Model) (A : Around) (c : Code) (R : Result → Shared → Prop) (s : Shared) : Prop :=
  ∀ Γ p, Γ.code = c → Γ.Below A → Good Γ → wpCode M Γ R p s

section
variable {α β : Type} {M : Model} {A : Around} {E : Value → Shared → Prop} {s : Shared}
theorem lift {t : Sem α} {Q : α → Shared → Prop} (h : wpAny M A t Q E s) : wpG M A t Q E s := fun Γ p hΓ _ => h Γ p hΓ
theorem liftC {c : Code} {R : Result → Shared → Prop} (h : codeAny M A c R s) : codeG M A c R s := fun Γ p hc hΓ _ => h Γ p hc hΓ
theorem g_pure {a : α} {Q : α → Shared → Prop} (h : Q a s) : wpG M A (pure a) Q E s := lift (wpAny_pure h)
theorem g_mono {t : Sem α} {Q Q' : α → Shared → Prop} {E' : Value → Shared → Prop} (h : wpG M A t Q E s) (hQ : ∀ a s, Q a s → Q' a s) (hE : ∀ e s, E e s → E' e s) : wpG M A t Q' E' s :=
  fun Γ p hΓ g => Sem.wp_mono M Γ t (fun a _ s => hQ a s) (fun e _ s => hE e s) p s (h Γ p hΓ g)
theorem g_bind {m : Sem α} {f : α → Sem β} {Q : β → Shared → Prop} (h : wpG M A m (fun a s' => wpG M A (f a) Q E s') E s) : wpG M A (m >>= f) Q E s := fun Γ p hΓ g => by
  rw [Sem.wp_bind']
  exact Sem.wp_mono M Γ m (fun a p' s' h' => h' Γ p' hΓ g) (fun _ _ _ h' => h') p s (h Γ p hΓ g)
/-- a part that is walked by the kit's lines, then the rest -/
theorem g_step {m : Sem α} {f : α → Sem β} {Q : β → Shared → Prop} (h : wpAny M A m (fun a s' => wpG M A (f a) Q E s') E s) : wpG M A (m >>= f) Q E s := g_bind (lift h)
theorem g_holding {vs : List Value} {m : Sem α} {Q : α → Shared → Prop} (h : wpG M A m Q E s) : wpG M A (holding vs m) Q E s := fun Γ p hΓ g => by rw [Sem.wp_holding]; exact h Γ p hΓ g
theorem g_keep {vs : List Value} {m : Sem α} {Q : α → Shared → Prop} (h : wpG M A m Q E s) : wpG M A (m.keep vs) Q E s := fun Γ p hΓ g => by rw [Sem.wp_keep]; exact h Γ p hΓ g
theorem g_onRaise {m : Sem α} {k : Value → Sem Unit} {Q : α → Shared → Prop} (h : wpG M A m Q (fun e s' => wpG M A (k e) (fun _ s'' => E e s'') E s') s) : wpG M A (m.onRaise k) Q E s := fun Γ p hΓ g => by
  rw [Sem.wp_onRaise]
  exact Sem.wp_mono M Γ m (fun _ _ _ h' => h') (fun e p' s' h' => h' Γ p' hΓ g) p s (h Γ p hΓ g)
theorem g_attempt {m : Sem α} {Q : Except Value α → Shared → Prop} (h : wpG M A m (fun a => Q (.ok a)) (fun e => Q (.error e)) s) : wpG M A m.attempt Q E s := fun Γ p hΓ g => by rw [Sem.wp_attempt]; exact h Γ p hΓ g
theorem g_operate {vs : List Value} {m : Sem Value} {Q : Value → Shared → Prop} (h : wpG M A m Q E s) : wpG M A (operate vs m) Q E s := fun Γ p hΓ g => by rw [Sem.wp_operate]; exact h Γ p hΓ g
theorem g_at {q : Pos} {f : Unit → Sem α} {Q : α → Shared → Prop} (h : wpG M A (f ()) Q E s) : wpG M A (standAt q >>= f) Q E s := g_step (wpAny_standAt h)
theorem g_eq {t t' : Sem α} {Q : α → Shared → Prop} (e : t = t') (h : wpG M A t' Q E s) : wpG M A t Q E s := e ▸ h
theorem g_codeMono {c : Code} {R R' : Result → Shared → Prop} (h : codeG M A c R s) (hR : ∀ r s, R r s → R' r s) : codeG M A c R' s := fun Γ p hc hΓ g => wpCode_mono hR (h Γ p hc hΓ g)
theorem g_run {c : Code} {h : Option Value} {Q : Flow → Shared → Prop} (hc : codeG M (A.mark h) c (fun r s' => match r with | .ok f => Q f s' | .error e => E e s') s) (hb : bad c = false := by rfl) (hnb : h ≠ some byPass := by intro x; cases x) :
    wpG M A (run c h) Q E s := fun Γ p hΓ g => by rw [Sem.wp_run]; exact hc _ p rfl (hΓ.enter c h p hnb) (g.enter hb h p)
theorem g_runValue {c : Code} {Q : Value → Shared → Prop} (hc : codeG M A c (fun r s' => match r with | .ok (.ret v) => Q v s' | .ok _ => False | .error e => E e s') s) (hb : bad c = false := by rfl) :
    wpG M A (runValue c) Q E s := fun Γ p hΓ g => by rw [Sem.wp_runValue]; exact hc _ p rfl (hΓ.enter c none p (by intro x; cases x)) (g.enter hb none p)
theorem g_call {f : Value} {pos : List Value} {kw : List (Str × Value)} {Q : Value → Shared → Prop}
    (hc : codeG M A (.call f ⟨pos, kw⟩) (fun r s' => match r with | .ok (.ret v) => Q v s' | .ok _ => False | .error e => E e s') s) : wpG M A (call f pos kw) Q E s := g_runValue hc
theorem g_tree {c : Code} {R : Result → Shared → Prop}
    (h : wpG M (A.under c) (M.den c) (fun fin s' => match fin with | .done f => R (.ok f) s' | .again c' => c'.quiet = true ∧ bad c' = false ∧ codeG M A c' R s') (fun e s' => R (.error e) s') s) : codeG M A c R s := fun Γ p hc hΓ g => by
  rw [wpCode_iff_wp, hc]
  refine Sem.wp_mono M Γ _ (fun fin p' s' h' => ?_) (fun _ _ _ h' => h') p s (h Γ p (hc ▸ hΓ.in) g)
  cases fin with
  | done f => exact h'
  | again c' => exact ⟨h'.1, h'.2.2 (Γ.goto c') p' rfl (hΓ.goto c') (g.goto h'.2.1)⟩
theorem g_loop {c : Code} {R : Result → Shared → Prop} (hq : c.quiet = true) (hb : bad c = false) (I : Nat → Shared → Prop)
    (turn : ∀ n s, I n s → wpG M (A.under c) (M.den c) (fun fin s' => match fin with | .done f => R (.ok f) s' | .again c' => c' = c ∧ ∃ m, m < n ∧ I m s') (fun e s' => R (.error e) s') s)
    (n : Nat) (h : I n s) : codeG M A c R s := by
  induction n using Nat.strongRecOn generalizing s with
  | ind n ih =>
    refine g_tree (g_mono (turn n s h) (fun fin s' hf => ?_) fun _ _ h' => h')
    cases fin with
    | done f => exact hf
    | again c' => obtain ⟨rfl, m, hm, hI⟩ := hf; exact ⟨hq, hb, ih m hm hI⟩
end

/- the head -/
theorem callerGood : Good ⟨.builtin "claim.caller" {}, none, none, [], none⟩ := ⟨by decide +kernel, fun _ h => nomatch h⟩

theorem thread_endsG {prog : Program} {w : World} {t : Sem Fin} {s : Shared} {R : Result → Shared → Prop} (hreg : s.asleep)
    (h : wpG (model prog w) callerA t (fun fin s' => ∃ f, fin = .done f ∧ (R (.ok f) s' ∧ leftWithCleanup s'.gens = false)) (fun e s' => R (.error e) s' ∧ leftWithCleanup s'.gens = false) s) :
    ∃ n r s' s'', runN (denote table) prog w n s ⟨t, .builtin "claim.caller" {}, default, []⟩ = .halted (outcomeOf r) s' ∧
      schedN (denote table) prog w n (.single s ⟨t, .builtin "claim.caller" {}, default, []⟩) = .halted (outcomeOf r) s' ∧ s'.forget = s''.forget ∧ R r s'' := by
  have hw : wp (model prog w) ⟨.builtin "claim.caller" {}, none, none, [], none⟩ t (Sem.finPost (model prog w) ⟨.builtin "claim.caller" {}, none, none, [], none⟩ fun r s' => R r s' ∧ leftWithCleanup s'.gens = false)
      (fun e _ s' => R (.error e) s' ∧ leftWithCleanup s'.gens = false) default s :=
    Sem.wp_mono _ _ t (fun fin _ s' ⟨f, e, x⟩ => by subst e; exact x) (fun _ _ _ x => x) default s (h _ default caller_in callerGood)
  obtain ⟨n, r, s₁, s₂, a, b, c, d⟩ := wp_halts_full (M := model prog w) (R := R) hreg hw
  exact ⟨n, r, s₂, s₁, b, a, c, d⟩

theorem callFromG {c : ClaimW} {tree : List Value → Sem Fin} {w : World} {s : Shared} {free : Addr → Prop} {gens : Prop} {kept : Heap → Prop} (hz : s.asleep) (hgens : s.gens = #[])
    (hspec : ∀ args, c.pre args = true → WData.layableAll args = true → ∀ ord : List DictEntry → List DictEntry, (∀ l, (ord l).Perm l) →
      ∃ vs s₁, layAllW c.records (classAt s.heap) w.params ord args s = some (vs, s₁) ∧
        wpG (model c.prog w) callerA (tree vs) (fun fin s' => ∃ f, fin = .done f ∧ (c.Ends s args vs s₁ (.ok f) s' ∧ s'.os = s.os ∧ AllBare s'.gens ∧ kept s'.heap))
          (fun e s' => c.Ends s args vs s₁ (.error e) s' ∧ s'.os = s.os ∧ AllBare s'.gens ∧ kept s'.heap) s₁) :
    c.CallFrom (fun vs => ⟨tree vs, .builtin "claim.caller" {}, default, []⟩) w free gens kept s := by
  intro args hpre hlay ord hord
  obtain ⟨vs, s₁, hlaid, hcode⟩ := hspec args hpre hlay ord hord
  have hal := layAllW_rest _ _ _ hlaid
  obtain ⟨k, r, s', s'', hrun, hsched, hfo, hcase, hos, hkp⟩ := thread_endsG (prog := c.prog) (w := w) (t := tree vs) (s := s₁)
    (R := fun r s' => c.Ends s args vs s₁ r s' ∧ s'.os = s.os ∧ kept s'.heap) (Shared.asleep_of_life hal.2.2.2 hz)
    (g_mono hcode (fun _ _ ⟨f, e, a, b, d, k⟩ => ⟨f, e, ⟨a, b, k⟩, leftWithCleanup_false_of_bare d⟩) fun _ _ ⟨a, b, d, k⟩ => ⟨⟨a, b, k⟩, leftWithCleanup_false_of_bare d⟩)
  obtain ⟨eh, _, _, eo, _⟩ := Shared.forget_eq hfo
  have hcase := hcase.congr eh
  rw [← eh] at hkp
  rw [← eo] at hos
  have hlife : s'.heap.life = s.heap.life := (runN_life _ _ _ hrun).trans hal.2.2.2
  refine ⟨vs, s₁, hlaid, k, _, s', hsched, ?_, (fun _ i x hx => by rw [hgens] at hx; simp at hx), hkp, by rw [hlife], Shared.rest_eq hos⟩
  rcases hcase with ⟨v, rfl, d1, d2, d3, d4, d5⟩ | ⟨e, ob, cls, rfl, d1, d2, d3, d4, d5⟩
  · exact .inl ⟨v, rfl, d1, d2, d3, fun b o y _ => d4 b o y, d5⟩
  · exact .inr ⟨e, ob, cls, rfl, d1, d2, d3, d4, fun b o y _ => d5 b o y⟩

/-- what is to be walked: the call, in good contexts -/
abbrev WalkMine (q : Program) (loose : List Str) (XP : (Str → Option Value) → Heap → Prop) (YP : World → Heap → Prop) (r : RowW) (d : DefRec) (kwd : List (Str × Expr)) : Prop :=
  ∀ (w : World) (s₀ s₁ : Shared) (mg mb : Str → Option Value), Ground q loose r.records XP w s₀ mg mb s₁.heap → YP w s₁.heap → ∀ (a : Addr) (o : Obj) (pm cd doc dV kV : Value), s₁.heap.get? a = some o →
    o.data = .func { docDef d.name d.params d.body d.scope pm cd doc with defaults := dV, kwdefaults := kV } → s₁.heap.CodeRec cd d.name → Dflts mg s₁.heap d.params kwd dV kV → mg d.name = some (.ref a) → s₁.gens = #[] →
    ∀ (args : List WData) (vals : List Value) (as : List Addr), r.claim.pre args = true → WData.layableAll args = true → ReadsAllW r.records (classAt s₀.heap) s₁.heap vals args as → WellAll w.params s₁.heap vals args → (∀ a ∈ as, (a == sysModules) = false) →
      wpG (model r.prog w) callerA (PySem.call (.ref a) vals) (fun v s' => GoodWG r.claim (classAt s₀.heap) (ExcName.means s₀.heap) args s₁ (.ok (.ret v)) s')
        (fun e s' => GoodWG r.claim (classAt s₀.heap) (ExcName.means s₀.heap) args s₁ (.error e) s') s₁
end Mine

theorem Mine.PySem.W.holds_open {r : OpenRow} {q : Program} {loose : List Str} {Xt : Shared → Bool} {XP : (Str → Option Value) → Heap → Prop} {α : Type} {Yf : Shared → α} {Ya : World → α} {YP : World → Heap → Prop} {d : DefRec} {kwd : List (Str × Expr)} {N : Nat}
    (left : LeftO r.prog q loose Xt Yf Ya N) (hY : ∀ w s, Yf s = Ya w → YP w s.heap) (hYk : ∀ w h h', YP w h → (∀ b o, h.get? b = some o → h'.get? b = some o) → YP w h')
    (hX : ∀ s, Xt s = true → XP (s.heap.nsMap mainGlobals) s.heap) (hXk : ∀ mg h h', XP mg h → (∀ b o, h.get? b = some o → h'.get? b = some o) → XP mg h')
    (hdef : defOf q r.name = some (d, kwd)) (hp : r.prog.theDef r.name = some (d.params, d.body, d.scope)) (hk : kwWritten? d.params.kwonlyargs d.params.kw_defaults = some kwd) (hRf : ∀ s, Xt s = true → RecFacts r.records s.heap) (hwr : (!r.writes || r.records.isEmpty) = true)
    (k1 : r.wellSaid = true) (ok : (chainsOk q && opensWell r.prog && (frees r.toRowW && r.within.isEmpty)) = true) (hb : r.prog.bare) (hw : r.toRowW.promised)
    (call : Mine.WalkMine q loose XP YP r.toRowW d kwd) : r.Holds := by
  obtain ⟨ok, k5⟩ := Bool.and_eq_true_iff.mp ok
  obtain ⟨hch, o1⟩ := Bool.and_eq_true_iff.mp ok
  obtain ⟨k5, k6⟩ := Bool.and_eq_true_iff.mp k5
  obtain ⟨hsame, hu, ha, hap, hm⟩ := frees_parts k5
  have hi := ident_freeW hu ha hap
  have hwi : r.toRowW.claim.within = [] := List.isEmpty_iff.mp k6
  refine ⟨k1, hw, ⟨hb, o1, by show r.makers.map _ = []; rw [hm]; rfl⟩, hw.witness, fun w => ⟨(left.behind hX hch w).1, fun s' hs' => ?_⟩⟩
  obtain ⟨s₀, hf, hg0, s, hT, hz, hgens, hg, G00, y⟩ := (left.behind (XP := fun mg h => XP mg h ∧ RecFacts r.records h) (fun s hs => ⟨hX s hs, hRf s hs⟩) hch w).2 s' hs'
  have G0 : Ground q loose [] XP w s (s.heap.nsMap mainGlobals) (s.heap.nsMap builtinsNs) s.heap := ⟨G00.T, G00.B, G00.D, G00.TE, G00.TD, G00.W, G00.X.1, G00.cls, G00.has, G00.apart, G00.once, G00.K⟩
  have RF := G00.X.2
  have hT' := hT
  have hgens : s.gens = #[] := Array.eq_empty_of_size_eq_zero (beq_iff_eq.mp hgens)
  have G : Ground q loose r.records XP w s _ _ s.heap := RF.ground G0
  refine ⟨s₀, hf, hg0, s, hT, fun n hn => ?_, RF.1, RF.2.1, Mine.callFromG (c := r.toRowW.claim) (tree := fun vs => do match ← nsGet mainNs r.name with
      | some f => do ret (← PySem.call f vs)
      | none => unsupported "claim.caller:no-such-global") hz hgens fun args hpre hlay ord hord => ?_⟩
  · obtain rfl : n = r.name := by split at hn <;> simp_all
    exact pinned_of_view hg G0 hdef hp hk
  · obtain ⟨⟨vs, s₁⟩, hlaid⟩ := Option.isSome_iff_exists.mp (layAllW_isSome (P := w.params) (ord := ord) G.has args r.args s (pre_splitW hpre).1)
    have keeps := layAllW_keeps _ _ _ hlaid
    have hal := layAllW_rest _ _ _ hlaid
    obtain ⟨as, hrd, hin, hold⟩ := reads_layAllW hord _ _ _ hlaid hlay s₁.heap (fun _ _ e => e)
    have L : Laid r.records w s s₁ args vs as := ⟨⟨ord, hord, hlaid⟩, hrd, hin, hold, keeps, hal.1.trans hgens, hal.2.2.1⟩
    have G₁ := G.keeps hXk keeps
    obtain ⟨a, o, pm, cd, doc, dV, kV, h1, h2, h3, h4, h5⟩ := G₁.fn hdef
    have hc := call w s s₁ _ _ G₁ (hYk _ _ _ (hY w s y) keeps) a o pm cd doc dV kV h2 h3 h4 h5 (defOf_name hdef ▸ h1) L.gens args vs as hpre hlay L.reads L.well (L.low G.low)
    refine ⟨vs, s₁, hlaid, Mine.g_step (wpAny_nsGet G₁.T.g ?_)⟩
    rw [h1]
    refine Mine.g_bind (Mine.g_mono hc (fun v s' g => Mine.g_pure ⟨_, rfl, ?_⟩) fun e s' g => ?_)
    · have z := GoodWG.laid (c := r.toRowW.claim) hsame hwi hi L g
      exact ⟨z.1, z.2.1, z.2.2, fun q => ⟨namesKept_of hT' hg r.keeps keeps g.2.1.old, noTable hwr q⟩⟩
    · have z := GoodWG.laid (c := r.toRowW.claim) hsame hwi hi L g
      exact ⟨z.1, z.2.1, z.2.2, fun q => ⟨namesKept_of hT' hg r.keeps keeps g.2.1.old, noTable hwr q⟩⟩
end
section -- K02
open PySem PySem.W PyProof.Rows PySem.Calls
set_option maxRecDepth 100000
namespace Mine
def nthT : List Stmt → Nat → Stmt
  | x :: _, 0 => x
  | _ :: r, n + 1 => nthT r n
  | [], _ => .Pass default
def clsB : Stmt → List Stmt
  | .ClassDef _ _ _ b _ _ _ _ _ _ _ => b
  | _ => []
def fnA : Stmt → Arguments
  | .FunctionDef _ a _ _ _ _ _ _ _ _ => a
  | _ => default
def fnB : Stmt → List Stmt
  | .FunctionDef _ _ b _ _ _ _ _ _ _ => b
  | _ => []
def fnS : Stmt → Scope
  | .FunctionDef _ _ _ _ _ _ s _ _ _ => s
  | _ => default
def topT (i : Nat) : Stmt := nthT PySem.Challenge.pw_kn0093_02.main.body i
def inT (i j : Nat) : Stmt := nthT (clsB (topT i)) j
set_option maxHeartbeats 4000000 in
noncomputable def hd.heap_39 : Params → Frag := by
  refine' (?f : ∀ (a0 : Arguments) (_ : a0 = fnA (topT 0)) (b0 : List Stmt) (_ : b0 = fnB (topT 0)) (s0 : Scope) (_ : s0 = fnS (topT 0))
    (a2 : Arguments) (_ : a2 = fnA (topT 2)) (b2 : List Stmt) (_ : b2 = fnB (topT 2)) (s2 : Scope) (_ : s2 = fnS (topT 2))
    (a4 : Arguments) (_ : a4 = fnA (topT 4)) (b4 : List Stmt) (_ : b4 = fnB (topT 4)) (s4 : Scope) (_ : s4 = fnS (topT 4))
    (a5 : Arguments) (_ : a5 = fnA (topT 5)) (b5 : List Stmt) (_ : b5 = fnB (topT 5)) (s5 : Scope) (_ : s5 = fnS (topT 5))
    (a7_1 : Arguments) (_ : a7_1 = fnA (inT 7 1)) (b7_1 : List Stmt) (_ : b7_1 = fnB (inT 7 1)) (s7_1 : Scope) (_ : s7_1 = fnS (inT 7 1))
    (a10_1 : Arguments) (_ : a10_1 = fnA (inT 10 1)) (b10_1 : List Stmt) (_ : b10_1 = fnB (inT 10 1)) (s10_1 : Scope) (_ : s10_1 = fnS (inT 10 1))
    (a10_2 : Arguments) (_ : a10_2 = fnA (inT 10 2)) (b10_2 : List Stmt) (_ : b10_2 = fnB (inT 10 2)) (s10_2 : Scope) (_ : s10_2 = fnS (inT 10 2))
    (a10_3 : Arguments) (_ : a10_3 = fnA (inT 10 3)) (b10_3 : List Stmt) (_ : b10_3 = fnB (inT 10 3)) (s10_3 : Scope) (_ : s10_3 = fnS (inT 10 3))
    (a10_4 : Arguments) (_ : a10_4 = fnA (inT 10 4)) (b10_4 : List Stmt) (_ : b10_4 = fnB (inT 10 4)) (s10_4 : Scope) (_ : s10_4 = fnS (inT 10 4))
    (a10_5 : Arguments) (_ : a10_5 = fnA (inT 10 5)) (b10_5 : List Stmt) (_ : b10_5 = fnB (inT 10 5)) (s10_5 : Scope) (_ : s10_5 = fnS (inT 10 5))
    (a10_6 : Arguments) (_ : a10_6 = fnA (inT 10 6)) (b10_6 : List Stmt) (_ : b10_6 = fnB (inT 10 6)) (s10_6 : Scope) (_ : s10_6 = fnS (inT 10 6))
    (a10_7 : Arguments) (_ : a10_7 = fnA (inT 10 7)) (b10_7 : List Stmt) (_ : b10_7 = fnB (inT 10 7)) (s10_7 : Scope) (_ : s10_7 = fnS (inT 10 7))
    (a10_8 : Arguments) (_ : a10_8 = fnA (inT 10 8)) (b10_8 : List Stmt) (_ : b10_8 = fnB (inT 10 8)) (s10_8 : Scope) (_ : s10_8 = fnS (inT 10 8))
    (a10_9 : Arguments) (_ : a10_9 = fnA (inT 10 9)) (b10_9 : List Stmt) (_ : b10_9 = fnB (inT 10 9)) (s10_9 : Scope) (_ : s10_9 = fnS (inT 10 9))
    (a10_10 : Arguments) (_ : a10_10 = fnA (inT 10 10)) (b10_10 : List Stmt) (_ : b10_10 = fnB (inT 10 10)) (s10_10 : Scope) (_ : s10_10 = fnS (inT 10 10))
    (a10_11 : Arguments) (_ : a10_11 = fnA (inT 10 11)) (b10_11 : List Stmt) (_ : b10_11 = fnB (inT 10 11)) (s10_11 : Scope) (_ : s10_11 = fnS (inT 10 11))
    (a10_12 : Arguments) (_ : a10_12 = fnA (inT 10 12)) (b10_12 : List Stmt) (_ : b10_12 = fnB (inT 10 12)) (s10_12 : Scope) (_ : s10_12 = fnS (inT 10 12))
    (a10_13 : Arguments) (_ : a10_13 = fnA (inT 10 13)) (b10_13 : List Stmt) (_ : b10_13 = fnB (inT 10 13)) (s10_13 : Scope) (_ : s10_13 = fnS (inT 10 13))
    (a10_14 : Arguments) (_ : a10_14 = fnA (inT 10 14)) (b10_14 : List Stmt) (_ : b10_14 = fnB (inT 10 14)) (s10_14 : Scope) (_ : s10_14 = fnS (inT 10 14))
    (a10_15 : Arguments) (_ : a10_15 = fnA (inT 10 15)) (b10_15 : List Stmt) (_ : b10_15 = fnB (inT 10 15)) (s10_15 : Scope) (_ : s10_15 = fnS (inT 10 15))
    (a10_16 : Arguments) (_ : a10_16 = fnA (inT 10 16)) (b10_16 : List Stmt) (_ : b10_16 = fnB (inT 10 16)) (s10_16 : Scope) (_ : s10_16 = fnS (inT 10 16))
    (a10_17 : Arguments) (_ : a10_17 = fnA (inT 10 17)) (b10_17 : List Stmt) (_ : b10_17 = fnB (inT 10 17)) (s10_17 : Scope) (_ : s10_17 = fnS (inT 10 17))
    (a10_18 : Arguments) (_ : a10_18 = fnA (inT 10 18)) (b10_18 : List Stmt) (_ : b10_18 = fnB (inT 10 18)) (s10_18 : Scope) (_ : s10_18 = fnS (inT 10 18))
    (a10_19 : Arguments) (_ : a10_19 = fnA (inT 10 19)) (b10_19 : List Stmt) (_ : b10_19 = fnB (inT 10 19)) (s10_19 : Scope) (_ : s10_19 = fnS (inT 10 19))
    (a10_20 : Arguments) (_ : a10_20 = fnA (inT 10 20)) (b10_20 : List Stmt) (_ : b10_20 = fnB (inT 10 20)) (s10_20 : Scope) (_ : s10_20 = fnS (inT 10 20))
    (a10_21 : Arguments) (_ : a10_21 = fnA (inT 10 21)) (b10_21 : List Stmt) (_ : b10_21 = fnB (inT 10 21)) (s10_21 : Scope) (_ : s10_21 = fnS (inT 10 21))
    (a10_22 : Arguments) (_ : a10_22 = fnA (inT 10 22)) (b10_22 : List Stmt) (_ : b10_22 = fnB (inT 10 22)) (s10_22 : Scope) (_ : s10_22 = fnS (inT 10 22))
    (a10_23 : Arguments) (_ : a10_23 = fnA (inT 10 23)) (b10_23 : List Stmt) (_ : b10_23 = fnB (inT 10 23)) (s10_23 : Scope) (_ : s10_23 = fnS (inT 10 23))
    (a10_24 : Arguments) (_ : a10_24 = fnA (inT 10 24)) (b10_24 : List Stmt) (_ : b10_24 = fnB (inT 10 24)) (s10_24 : Scope) (_ : s10_24 = fnS (inT 10 24))
    (a10_25 : Arguments) (_ : a10_25 = fnA (inT 10 25)) (b10_25 : List Stmt) (_ : b10_25 = fnB (inT 10 25)) (s10_25 : Scope) (_ : s10_25 = fnS (inT 10 25))
    (a10_26 : Arguments) (_ : a10_26 = fnA (inT 10 26)) (b10_26 : List Stmt) (_ : b10_26 = fnB (inT 10 26)) (s10_26 : Scope) (_ : s10_26 = fnS (inT 10 26))
    (a10_27 : Arguments) (_ : a10_27 = fnA (inT 10 27)) (b10_27 : List Stmt) (_ : b10_27 = fnB (inT 10 27)) (s10_27 : Scope) (_ : s10_27 = fnS (inT 10 27))
    (a10_28 : Arguments) (_ : a10_28 = fnA (inT 10 28)) (b10_28 : List Stmt) (_ : b10_28 = fnB (inT 10 28)) (s10_28 : Scope) (_ : s10_28 = fnS (inT 10 28))
    (a10_29 : Arguments) (_ : a10_29 = fnA (inT 10 29)) (b10_29 : List Stmt) (_ : b10_29 = fnB (inT 10 29)) (s10_29 : Scope) (_ : s10_29 = fnS (inT 10 29))
    (a10_30 : Arguments) (_ : a10_30 = fnA (inT 10 30)) (b10_30 : List Stmt) (_ : b10_30 = fnB (inT 10 30)) (s10_30 : Scope) (_ : s10_30 = fnS (inT 10 30))
    (a11_1 : Arguments) (_ : a11_1 = fnA (inT 11 1)) (b11_1 : List Stmt) (_ : b11_1 = fnB (inT 11 1)) (s11_1 : Scope) (_ : s11_1 = fnS (inT 11 1))
    (a11_2 : Arguments) (_ : a11_2 = fnA (inT 11 2)) (b11_2 : List Stmt) (_ : b11_2 = fnB (inT 11 2)) (s11_2 : Scope) (_ : s11_2 = fnS (inT 11 2))
    (a11_3 : Arguments) (_ : a11_3 = fnA (inT 11 3)) (b11_3 : List Stmt) (_ : b11_3 = fnB (inT 11 3)) (s11_3 : Scope) (_ : s11_3 = fnS (inT 11 3))
    (a11_4 : Arguments) (_ : a11_4 = fnA (inT 11 4)) (b11_4 : List Stmt) (_ : b11_4 = fnB (inT 11 4)) (s11_4 : Scope) (_ : s11_4 = fnS (inT 11 4))
    (a11_5 : Arguments) (_ : a11_5 = fnA (inT 11 5)) (b11_5 : List Stmt) (_ : b11_5 = fnB (inT 11 5)) (s11_5 : Scope) (_ : s11_5 = fnS (inT 11 5))
    (a11_6 : Arguments) (_ : a11_6 = fnA (inT 11 6)) (b11_6 : List Stmt) (_ : b11_6 = fnB (inT 11 6)) (s11_6 : Scope) (_ : s11_6 = fnS (inT 11 6))
    (a11_7 : Arguments) (_ : a11_7 = fnA (inT 11 7)) (b11_7 : List Stmt) (_ : b11_7 = fnB (inT 11 7)) (s11_7 : Scope) (_ : s11_7 = fnS (inT 11 7))
    (a11_8 : Arguments) (_ : a11_8 = fnA (inT 11 8)) (b11_8 : List Stmt) (_ : b11_8 = fnB (inT 11 8)) (s11_8 : Scope) (_ : s11_8 = fnS (inT 11 8))
    (a11_9 : Arguments) (_ : a11_9 = fnA (inT 11 9)) (b11_9 : List Stmt) (_ : b11_9 = fnB (inT 11 9)) (s11_9 : Scope) (_ : s11_9 = fnS (inT 11 9))
    (a11_10 : Arguments) (_ : a11_10 = fnA (inT 11 10)) (b11_10 : List Stmt) (_ : b11_10 = fnB (inT 11 10)) (s11_10 : Scope) (_ : s11_10 = fnS (inT 11 10))
    (a11_11 : Arguments) (_ : a11_11 = fnA (inT 11 11)) (b11_11 : List Stmt) (_ : b11_11 = fnB (inT 11 11)) (s11_11 : Scope) (_ : s11_11 = fnS (inT 11 11))
    (a11_12 : Arguments) (_ : a11_12 = fnA (inT 11 12)) (b11_12 : List Stmt) (_ : b11_12 = fnB (inT 11 12)) (s11_12 : Scope) (_ : s11_12 = fnS (inT 11 12))
    (a11_13 : Arguments) (_ : a11_13 = fnA (inT 11 13)) (b11_13 : List Stmt) (_ : b11_13 = fnB (inT 11 13)) (s11_13 : Scope) (_ : s11_13 = fnS (inT 11 13))
    (a11_14 : Arguments) (_ : a11_14 = fnA (inT 11 14)) (b11_14 : List Stmt) (_ : b11_14 = fnB (inT 11 14)) (s11_14 : Scope) (_ : s11_14 = fnS (inT 11 14))
    (a11_15 : Arguments) (_ : a11_15 = fnA (inT 11 15)) (b11_15 : List Stmt) (_ : b11_15 = fnB (inT 11 15)) (s11_15 : Scope) (_ : s11_15 = fnS (inT 11 15))
    (a11_16 : Arguments) (_ : a11_16 = fnA (inT 11 16)) (b11_16 : List Stmt) (_ : b11_16 = fnB (inT 11 16)) (s11_16 : Scope) (_ : s11_16 = fnS (inT 11 16))
    (a11_17 : Arguments) (_ : a11_17 = fnA (inT 11 17)) (b11_17 : List Stmt) (_ : b11_17 = fnB (inT 11 17)) (s11_17 : Scope) (_ : s11_17 = fnS (inT 11 17))
    (a11_18 : Arguments) (_ : a11_18 = fnA (inT 11 18)) (b11_18 : List Stmt) (_ : b11_18 = fnB (inT 11 18)) (s11_18 : Scope) (_ : s11_18 = fnS (inT 11 18))
    (a11_19 : Arguments) (_ : a11_19 = fnA (inT 11 19)) (b11_19 : List Stmt) (_ : b11_19 = fnB (inT 11 19)) (s11_19 : Scope) (_ : s11_19 = fnS (inT 11 19))
    (a11_20 : Arguments) (_ : a11_20 = fnA (inT 11 20)) (b11_20 : List Stmt) (_ : b11_20 = fnB (inT 11 20)) (s11_20 : Scope) (_ : s11_20 = fnS (inT 11 20))
    (a11_21 : Arguments) (_ : a11_21 = fnA (inT 11 21)) (b11_21 : List Stmt) (_ : b11_21 = fnB (inT 11 21)) (s11_21 : Scope) (_ : s11_21 = fnS (inT 11 21))
    (a11_22 : Arguments) (_ : a11_22 = fnA (inT 11 22)) (b11_22 : List Stmt) (_ : b11_22 = fnB (inT 11 22)) (s11_22 : Scope) (_ : s11_22 = fnS (inT 11 22))
    (a11_23 : Arguments) (_ : a11_23 = fnA (inT 11 23)) (b11_23 : List Stmt) (_ : b11_23 = fnB (inT 11 23)) (s11_23 : Scope) (_ : s11_23 = fnS (inT 11 23))
    (a11_24 : Arguments) (_ : a11_24 = fnA (inT 11 24)) (b11_24 : List Stmt) (_ : b11_24 = fnB (inT 11 24)) (s11_24 : Scope) (_ : s11_24 = fnS (inT 11 24))
    (a11_25 : Arguments) (_ : a11_25 = fnA (inT 11 25)) (b11_25 : List Stmt) (_ : b11_25 = fnB (inT 11 25)) (s11_25 : Scope) (_ : s11_25 = fnS (inT 11 25))
    (a11_26 : Arguments) (_ : a11_26 = fnA (inT 11 26)) (b11_26 : List Stmt) (_ : b11_26 = fnB (inT 11 26)) (s11_26 : Scope) (_ : s11_26 = fnS (inT 11 26))
    (a11_27 : Arguments) (_ : a11_27 = fnA (inT 11 27)) (b11_27 : List Stmt) (_ : b11_27 = fnB (inT 11 27)) (s11_27 : Scope) (_ : s11_27 = fnS (inT 11 27))
    (a11_28 : Arguments) (_ : a11_28 = fnA (inT 11 28)) (b11_28 : List Stmt) (_ : b11_28 = fnB (inT 11 28)) (s11_28 : Scope) (_ : s11_28 = fnS (inT 11 28))
    (a11_29 : Arguments) (_ : a11_29 = fnA (inT 11 29)) (b11_29 : List Stmt) (_ : b11_29 = fnB (inT 11 29)) (s11_29 : Scope) (_ : s11_29 = fnS (inT 11 29))
    (a11_30 : Arguments) (_ : a11_30 = fnA (inT 11 30)) (b11_30 : List Stmt) (_ : b11_30 = fnB (inT 11 30)) (s11_30 : Scope) (_ : s11_30 = fnS (inT 11 30))
    (a11_31 : Arguments) (_ : a11_31 = fnA (inT 11 31)) (b11_31 : List Stmt) (_ : b11_31 = fnB (inT 11 31)) (s11_31 : Scope) (_ : s11_31 = fnS (inT 11 31))
    (a11_32 : Arguments) (_ : a11_32 = fnA (inT 11 32)) (b11_32 : List Stmt) (_ : b11_32 = fnB (inT 11 32)) (s11_32 : Scope) (_ : s11_32 = fnS (inT 11 32))
    (a13 : Arguments) (_ : a13 = fnA (topT 13)) (b13 : List Stmt) (_ : b13 = fnB (topT 13)) (s13 : Scope) (_ : s13 = fnS (topT 13))
    (a15 : Arguments) (_ : a15 = fnA (topT 15)) (b15 : List Stmt) (_ : b15 = fnB (topT 15)) (s15 : Scope) (_ : s15 = fnS (topT 15))
    (a16 : Arguments) (_ : a16 = fnA (topT 16)) (b16 : List Stmt) (_ : b16 = fnB (topT 16)) (s16 : Scope) (_ : s16 = fnS (topT 16))
    (a17 : Arguments) (_ : a17 = fnA (topT 17)) (b17 : List Stmt) (_ : b17 = fnB (topT 17)) (s17 : Scope) (_ : s17 = fnS (topT 17)), Params → Frag) _ ?_ _ ?_ _ ?_ _ ?_ _ ?_ _ ?_ _ ?_ _ ?_ _ ?_ _ ?_ _ ?_ _ ?_ _ ?_ _ ?_ _ ?_ _ ?_ _ ?_ _ ?_ _ ?_ _ ?_ _ ?_ _ ?_ _ ?_ _ ?_ _ ?_ _ ?_ _ ?_ _ ?_ _ ?_ _ ?_ _ ?_ _ ?_ _ ?_ _ ?_ _ ?_ _ ?_ _ ?_ _ ?_ _ ?_ _ ?_ _ ?_ _ ?_ _ ?_ _ ?_ _ ?_ _ ?_ _ ?_ _ ?_ _ ?_ _ ?_ _ ?_ _ ?_ _ ?_ _ ?_ _ ?_ _ ?_ _ ?_ _ ?_ _ ?_ _ ?_ _ ?_ _ ?_ _ ?_ _ ?_ _ ?_ _ ?_ _ ?_ _ ?_ _ ?_ _ ?_ _ ?_ _ ?_ _ ?_ _ ?_ _ ?_ _ ?_ _ ?_ _ ?_ _ ?_ _ ?_ _ ?_ _ ?_ _ ?_ _ ?_ _ ?_ _ ?_ _ ?_ _ ?_ _ ?_ _ ?_ _ ?_ _ ?_ _ ?_ _ ?_ _ ?_ _ ?_ _ ?_ _ ?_ _ ?_ _ ?_ _ ?_ _ ?_ _ ?_ _ ?_ _ ?_ _ ?_ _ ?_ _ ?_ _ ?_ _ ?_ _ ?_ _ ?_ _ ?_ _ ?_ _ ?_ _ ?_ _ ?_ _ ?_ _ ?_ _ ?_ _ ?_ _ ?_ _ ?_ _ ?_ _ ?_ _ ?_ _ ?_ _ ?_ _ ?_ _ ?_ _ ?_ _ ?_ _ ?_ _ ?_ _ ?_ _ ?_ _ ?_ _ ?_ _ ?_ _ ?_ _ ?_ _ ?_ _ ?_ _ ?_ _ ?_ _ ?_ _ ?_ _ ?_ _ ?_ _ ?_ _ ?_ _ ?_ _ ?_ _ ?_ _ ?_ _ ?_ _ ?_ _ ?_ _ ?_ _ ?_ _ ?_ _ ?_ _ ?_ _ ?_ _ ?_ _ ?_ _ ?_ _ ?_ _ ?_ _ ?_ _ ?_ _ ?_ _ ?_ _ ?_ _ ?_ _ ?_ _ ?_ _ ?_ _ ?_ _ ?_ _ ?_ _ ?_ _ ?_ _ ?_ _ ?_ _ ?_ _ ?_ _ ?_ _ ?_ _ ?_ _ ?_ _ ?_ _ ?_ _ ?_ _ ?_ _ ?_ _ ?_ _ ?_ _ ?_ _ ?_ _ ?_ _ ?_ _ ?_ _ ?_ _ ?_ _ ?_ _ ?_ _ ?_ _ ?_ _ ?_ _ ?_ _ ?_ _ ?_
  case f =>
    intro a0 _ b0 _ s0 _ a2 _ b2 _ s2 _ a4 _ b4 _ s4 _ a5 _ b5 _ s5 _ a7_1 _ b7_1 _ s7_1 _ a10_1 _ b10_1 _ s10_1 _ a10_2 _ b10_2 _ s10_2 _ a10_3 _ b10_3 _ s10_3 _ a10_4 _ b10_4 _ s10_4 _ a10_5 _ b10_5 _ s10_5 _ a10_6 _ b10_6 _ s10_6 _ a10_7 _ b10_7 _ s10_7 _ a10_8 _ b10_8 _ s10_8 _ a10_9 _ b10_9 _ s10_9 _ a10_10 _ b10_10 _ s10_10 _ a10_11 _ b10_11 _ s10_11 _ a10_12 _ b10_12 _ s10_12 _ a10_13 _ b10_13 _ s10_13 _ a10_14 _ b10_14 _ s10_14 _ a10_15 _ b10_15 _ s10_15 _ a10_16 _ b10_16 _ s10_16 _ a10_17 _ b10_17 _ s10_17 _ a10_18 _ b10_18 _ s10_18 _ a10_19 _ b10_19 _ s10_19 _ a10_20 _ b10_20 _ s10_20 _ a10_21 _ b10_21 _ s10_21 _ a10_22 _ b10_22 _ s10_22 _ a10_23 _ b10_23 _ s10_23 _ a10_24 _ b10_24 _ s10_24 _ a10_25 _ b10_25 _ s10_25 _ a10_26 _ b10_26 _ s10_26 _ a10_27 _ b10_27 _ s10_27 _ a10_28 _ b10_28 _ s10_28 _ a10_29 _ b10_29 _ s10_29 _ a10_30 _ b10_30 _ s10_30 _ a11_1 _ b11_1 _ s11_1 _ a11_2 _ b11_2 _ s11_2 _ a11_3 _ b11_3 _ s11_3 _ a11_4 _ b11_4 _ s11_4 _ a11_5 _ b11_5 _ s11_5 _ a11_6 _ b11_6 _ s11_6 _ a11_7 _ b11_7 _ s11_7 _ a11_8 _ b11_8 _ s11_8 _ a11_9 _ b11_9 _ s11_9 _ a11_10 _ b11_10 _ s11_10 _ a11_11 _ b11_11 _ s11_11 _ a11_12 _ b11_12 _ s11_12 _ a11_13 _ b11_13 _ s11_13 _ a11_14 _ b11_14 _ s11_14 _ a11_15 _ b11_15 _ s11_15 _ a11_16 _ b11_16 _ s11_16 _ a11_17 _ b11_17 _ s11_17 _ a11_18 _ b11_18 _ s11_18 _ a11_19 _ b11_19 _ s11_19 _ a11_20 _ b11_20 _ s11_20 _ a11_21 _ b11_21 _ s11_21 _ a11_22 _ b11_22 _ s11_22 _ a11_23 _ b11_23 _ s11_23 _ a11_24 _ b11_24 _ s11_24 _ a11_25 _ b11_25 _ s11_25 _ a11_26 _ b11_26 _ s11_26 _ a11_27 _ b11_27 _ s11_27 _ a11_28 _ b11_28 _ s11_28 _ a11_29 _ b11_29 _ s11_29 _ a11_30 _ b11_30 _ s11_30 _ a11_31 _ b11_31 _ s11_31 _ a11_32 _ b11_32 _ s11_32 _ a13 _ b13 _ s13 _ a15 _ b15 _ s15 _ a16 _ b16 _ s16 _ a17 _ b17 _ s17 _
    intro P
    exact (((nat_lit 2), ⟨.none, none, (.dict #[⟨(PyData.keyHash P "type.__subclasses__.OSError.0"), (.str "type.__subclasses__.OSError.0" 239), (.int 52 0)⟩, ⟨(PyData.keyHash P "type.__subclasses__.OSError.n"), (.str "type.__subclasses__.OSError.n" 240), (.int 1 0)⟩] 2), #[]⟩) ::
      ((nat_lit 3), ⟨(.type "dict"), none, (.dict (List.toArray (⟨(PyData.keyHash P "__name__"), (.str "__name__" 165), (.str "law_kn0093_02" 869)⟩ :: ⟨(PyData.keyHash P "__doc__"), (.str "__doc__" 166), .none⟩ :: ⟨(PyData.keyHash P "__package__"), (.str "__package__" 167), .none⟩ :: ⟨(PyData.keyHash P "__loader__"), (.str "__loader__" 168), (.builtin "__main__.__loader__#opaque")⟩ :: ⟨(PyData.keyHash P "__spec__"), (.str "__spec__" 169), .none⟩ :: ⟨(PyData.keyHash P "__annotations__"), (.str "__annotations__" 170), (.ref 6)⟩ :: ⟨(PyData.keyHash P "__builtins__"), (.str "__builtins__" 171), (.ref 4)⟩ :: ⟨(PyData.keyHash P "__file__"), (.str "__file__" 173), (.str "/claim/cut.py" 172)⟩ :: ⟨(PyData.keyHash P "__cached__"), (.str "__cached__" 174), .none⟩ :: ⟨(PyData.keyHash P "_wall"), (.str "_wall" 193), (.ref 21)⟩ :: ⟨(PyData.keyHash P "guess_scheme"), (.str "guess_scheme" 202), (.ref 28)⟩ :: ⟨(PyData.keyHash P "_whence"), (.str "_whence" 212), (.ref 35)⟩ :: ⟨(PyData.keyHash P "_index"), (.str "_index" 220), (.ref 42)⟩ :: ⟨(PyData.keyHash P "UnsupportedOperation"), (.str "UnsupportedOperation" 242), (.ref 52)⟩ :: ⟨(PyData.keyHash P "IOBase"), (.str "IOBase" 274), (.ref 72)⟩ :: ⟨(PyData.keyHash P "BufferedIOBase"), (.str "BufferedIOBase" 292), (.ref 87)⟩ :: ⟨(PyData.keyHash P "TextIOBase"), (.str "TextIOBase" 310), (.ref 99)⟩ :: ⟨(PyData.keyHash P "BytesIO"), (.str "BytesIO" 572), (.ref 329)⟩ :: ⟨(PyData.keyHash P "StringIO"), (.str "StringIO" 859), (.ref 576)⟩ :: ⟨(PyData.keyHash P "setup_testing_defaults"), (.str "setup_testing_defaults" 868), (.ref 585)⟩ :: ⟨(PyData.keyHash P "_law_value"), (.str "_law_value" 880), (.ref 592)⟩ :: ⟨(PyData.keyHash P "_law_laid"), (.str "_law_laid" 886), (.ref 597)⟩ :: ⟨(PyData.keyHash P "law"), (.str "law" 892), (.ref 602)⟩ :: [])) 23), #[]⟩) ::
      ((nat_lit 15), ⟨(.type "tuple"), none, (.seq #[] 0), #[]⟩) ::
      ((nat_lit 17), ⟨(.type "tuple"), none, (.seq #[(.str "k" 190)] 0), #[]⟩) ::
      ((nat_lit 18), ⟨(.type "tuple"), none, (.seq #[] 0), #[]⟩) ::
      ((nat_lit 20), ⟨(.type "code"), none, (.fields (List.toArray ((.str "_wall" 187) :: (.str "_wall" 188) :: (.str "/claim/cut.py" 189) :: (.int 1 0) :: (.int 1 0) :: (.int 0 0) :: (.int 0 0) :: (.int 3 0) :: (.ref 15) :: (.bool true) :: (.int 181 0) :: (.ref 16) :: .none :: (.ref 17) :: (.ref 18) :: (.ref 19) :: (.int 191 0) :: (.int 1 0) :: (.str "/claim/cut.py" 192) :: []))), #[]⟩) ::
      ((nat_lit 21), ⟨(.type "function"), none, (.func ⟨"_wall", "_wall", a0, (.stmts b0), s0, 3, [], .none, .none, .none, (.str "__main__" 164), none, (.ref 20), .none, 0⟩), #[]⟩) ::
      ((nat_lit 22), ⟨(.type "tuple"), none, (.seq #[] 0), #[]⟩) ::
      ((nat_lit 24), ⟨(.type "tuple"), none, (.seq #[(.str "environ" 199)] 0), #[]⟩) ::
      ((nat_lit 25), ⟨(.type "tuple"), none, (.seq #[] 0), #[]⟩) ::
      ((nat_lit 27), ⟨(.type "code"), none, (.fields (List.toArray ((.str "guess_scheme" 196) :: (.str "guess_scheme" 197) :: (.str "/claim/cut.py" 198) :: (.int 5 0) :: (.int 1 0) :: (.int 0 0) :: (.int 0 0) :: (.int 3 0) :: (.ref 22) :: (.bool true) :: (.int 181 0) :: (.ref 23) :: .none :: (.ref 24) :: (.ref 25) :: (.ref 26) :: (.int 200 0) :: (.int 5 0) :: (.str "/claim/cut.py" 201) :: []))), #[]⟩) ::
      ((nat_lit 28), ⟨(.type "function"), none, (.func ⟨"guess_scheme", "guess_scheme", a2, (.stmts b2), s2, 3, [], .none, .none, .none, (.str "cpy313.wsgiref.util" 194), none, (.ref 27), .none, 0⟩), #[]⟩) ::
      ((nat_lit 29), ⟨(.type "tuple"), none, (.seq #[] 0), #[]⟩) ::
      ((nat_lit 31), ⟨(.type "tuple"), none, (.seq #[(.str "n" 208), (.str "what" 209)] 0), #[]⟩) ::
      ((nat_lit 32), ⟨(.type "tuple"), none, (.seq #[] 0), #[]⟩) ::
      ((nat_lit 34), ⟨(.type "code"), none, (.fields (List.toArray ((.str "_whence" 205) :: (.str "_whence" 206) :: (.str "/claim/cut.py" 207) :: (.int 11 0) :: (.int 2 0) :: (.int 0 0) :: (.int 0 0) :: (.int 3 0) :: (.ref 29) :: (.bool true) :: (.int 181 0) :: (.ref 30) :: .none :: (.ref 31) :: (.ref 32) :: (.ref 33) :: (.int 210 0) :: (.int 11 0) :: (.str "/claim/cut.py" 211) :: []))), #[]⟩) ::
      ((nat_lit 35), ⟨(.type "function"), none, (.func ⟨"_whence", "_whence", a4, (.stmts b4), s4, 3, [], .none, .none, .none, (.str "io" 203), none, (.ref 34), .none, 0⟩), #[]⟩) ::
      ((nat_lit 36), ⟨(.type "tuple"), none, (.seq #[] 0), #[]⟩) ::
      ((nat_lit 38), ⟨(.type "tuple"), none, (.seq #[(.str "n" 216), (.str "what" 217)] 0), #[]⟩) ::
      ((nat_lit 39), ⟨(.type "tuple"), none, (.seq #[] 0), #[]⟩) ::
      ((nat_lit 41), ⟨(.type "code"), none, (.fields (List.toArray ((.str "_index" 213) :: (.str "_index" 214) :: (.str "/claim/cut.py" 215) :: (.int 16 0) :: (.int 2 0) :: (.int 0 0) :: (.int 0 0) :: (.int 3 0) :: (.ref 36) :: (.bool true) :: (.int 181 0) :: (.ref 37) :: .none :: (.ref 38) :: (.ref 39) :: (.ref 40) :: (.int 218 0) :: (.int 16 0) :: (.str "/claim/cut.py" 219) :: []))), #[]⟩) ::
      ((nat_lit 42), ⟨(.type "function"), none, (.func ⟨"_index", "_index", a5, (.stmts b5), s5, 3, [], .none, .none, .none, (.str "io" 203), none, (.ref 41), .none, 0⟩), #[]⟩) ::
      ((nat_lit 43), ⟨(.type "tuple"), none, (.seq #[(.type "OSError"), (.type "ValueError")] 0), #[]⟩) ::
      ((nat_lit 50), ⟨(.type "tuple"), none, (.seq #[] 0), #[]⟩) ::
      ((nat_lit 51), ⟨(.type "dict"), none, (.dict #[⟨(PyData.keyHash P "__module__"), (.str "__module__" 228), (.str "io" 233)⟩, ⟨(PyData.keyHash P "__firstlineno__"), (.str "__firstlineno__" 232), (.int 23 231)⟩, ⟨(PyData.keyHash P "__static_attributes__"), (.str "__static_attributes__" 235), (.ref 50)⟩, ⟨(PyData.keyHash P "__weakref__"), (.str "__weakref__" 237), (.ref 53)⟩, ⟨(PyData.keyHash P "__doc__"), (.str "__doc__" 238), .none⟩] 3), #[]⟩) ::
      ((nat_lit 52), ⟨(.type "type"), none, (.cls ⟨"UnsupportedOperation", [(.type "OSError"), (.type "ValueError")], [(.ref 52), (.type "OSError"), (.type "ValueError"), (.type "Exception"), (.type "BaseException"), (.type "object")], 51, "UnsupportedOperation", true, [], [], false, none, false⟩), #[(some (.ref 43)), none, (some (.str "UnsupportedOperation" 221)), (some (.str "UnsupportedOperation" 229)), (some (.builtin "OSError.__new__")), (some (.bool true))]⟩) ::
      ((nat_lit 53), ⟨(.type "getset_descriptor"), none, (.fields #[(.str "__weakref__" 236), (.ref 52), (.builtin "ExceptionGroup.__weakref__"), .none]), #[]⟩) ::
      ((nat_lit 63), ⟨(.type "tuple"), none, (.seq #[] 0), #[]⟩) ::
      ((nat_lit 65), ⟨(.type "tuple"), none, (.seq #[(.str "cls" 260), (.str "args" 261), (.str "kwargs" 262)] 0), #[]⟩) ::
      ((nat_lit 66), ⟨(.type "tuple"), none, (.seq #[] 0), #[]⟩) ::
      ((nat_lit 68), ⟨(.type "code"), none, (.fields (List.toArray ((.str "__new__" 257) :: (.str "IOBase.__new__" 258) :: (.str "/claim/cut.py" 259) :: (.int 28 0) :: (.int 1 0) :: (.int 1 0) :: (.int 0 0) :: (.int 15 0) :: (.ref 63) :: (.bool true) :: (.int 181 0) :: (.ref 64) :: .none :: (.ref 65) :: (.ref 66) :: (.ref 67) :: (.int 263 0) :: (.int 28 0) :: (.str "/claim/cut.py" 264) :: []))), #[]⟩) ::
      ((nat_lit 69), ⟨(.type "function"), none, (.func ⟨"__new__", "IOBase.__new__", a7_1, (.stmts b7_1), s7_1, 3, [], .none, .none, .none, (.str "io" 203), none, (.ref 68), .none, 0⟩), #[]⟩) ::
      ((nat_lit 70), ⟨(.type "tuple"), none, (.seq #[] 0), #[]⟩) ::
      ((nat_lit 71), ⟨(.type "dict"), none, (.dict #[⟨(PyData.keyHash P "__module__"), (.str "__module__" 250), (.str "io" 255)⟩, ⟨(PyData.keyHash P "__firstlineno__"), (.str "__firstlineno__" 254), (.int 25 253)⟩, ⟨(PyData.keyHash P "__new__"), (.str "__new__" 265), (.ref 73)⟩, ⟨(PyData.keyHash P "__static_attributes__"), (.str "__static_attributes__" 266), (.ref 70)⟩, ⟨(PyData.keyHash P "__dict__"), (.str "__dict__" 269), (.ref 74)⟩, ⟨(PyData.keyHash P "__weakref__"), (.str "__weakref__" 271), (.ref 75)⟩, ⟨(PyData.keyHash P "__doc__"), (.str "__doc__" 272), .none⟩] 4), #[]⟩) ::
      ((nat_lit 72), ⟨(.type "type"), none, (.cls ⟨"IOBase", [(.type "object")], [(.ref 72), (.type "object")], 71, "IOBase", true, [], [(.ref 87), (.ref 99)], false, none, false⟩), #[none, none, (some (.str "IOBase" 243)), (some (.str "IOBase" 251)), (some .none), (some (.bool true))]⟩) ::
      ((nat_lit 73), ⟨(.type "staticmethod"), none, (.fields #[(.ref 69)]), #[]⟩) ::
      ((nat_lit 74), ⟨(.type "getset_descriptor"), none, (.fields #[(.str "__dict__" 268), (.ref 72), (.builtin "function.__dict__"), (.builtin "function.__dict__#set")]), #[]⟩) ::
      ((nat_lit 75), ⟨(.type "getset_descriptor"), none, (.fields #[(.str "__weakref__" 270), (.ref 72), (.builtin "ExceptionGroup.__weakref__"), .none]), #[]⟩) ::
      ((nat_lit 78), ⟨(.type "tuple"), none, (.seq #[(.ref 72)] 0), #[]⟩) ::
      ((nat_lit 85), ⟨(.type "tuple"), none, (.seq #[] 0), #[]⟩) ::
      ((nat_lit 86), ⟨(.type "dict"), none, (.dict #[⟨(PyData.keyHash P "__module__"), (.str "__module__" 282), (.str "io" 287)⟩, ⟨(PyData.keyHash P "__firstlineno__"), (.str "__firstlineno__" 286), (.int 32 285)⟩, ⟨(PyData.keyHash P "__static_attributes__"), (.str "__static_attributes__" 289), (.ref 85)⟩, ⟨(PyData.keyHash P "__doc__"), (.str "__doc__" 290), .none⟩] 2), #[]⟩) ::
      ((nat_lit 87), ⟨(.type "type"), none, (.cls ⟨"BufferedIOBase", [(.ref 72)], [(.ref 87), (.ref 72), (.type "object")], 86, "BufferedIOBase", true, [], [(.ref 329)], false, none, false⟩), #[(some (.ref 78)), none, (some (.str "BufferedIOBase" 275)), (some (.str "BufferedIOBase" 283)), (some .none), (some (.bool true))]⟩) ::
      ((nat_lit 90), ⟨(.type "tuple"), none, (.seq #[(.ref 72)] 0), #[]⟩) ::
      ((nat_lit 97), ⟨(.type "tuple"), none, (.seq #[] 0), #[]⟩) ::
      ((nat_lit 98), ⟨(.type "dict"), none, (.dict #[⟨(PyData.keyHash P "__module__"), (.str "__module__" 300), (.str "io" 305)⟩, ⟨(PyData.keyHash P "__firstlineno__"), (.str "__firstlineno__" 304), (.int 34 303)⟩, ⟨(PyData.keyHash P "__static_attributes__"), (.str "__static_attributes__" 307), (.ref 97)⟩, ⟨(PyData.keyHash P "__doc__"), (.str "__doc__" 308), .none⟩] 2), #[]⟩) ::
      ((nat_lit 99), ⟨(.type "type"), none, (.cls ⟨"TextIOBase", [(.ref 72)], [(.ref 99), (.ref 72), (.type "object")], 98, "TextIOBase", true, [], [(.ref 576)], false, none, false⟩), #[(some (.ref 90)), none, (some (.str "TextIOBase" 293)), (some (.str "TextIOBase" 301)), (some .none), (some (.bool true))]⟩) ::
      ((nat_lit 102), ⟨(.type "tuple"), none, (.seq #[(.ref 87)] 0), #[]⟩) ::
      ((nat_lit 109), ⟨(.type "tuple"), none, (.seq #[.none] 0), #[]⟩) ::
      ((nat_lit 110), ⟨(.type "tuple"), none, (.seq #[] 0), #[]⟩) ::
      ((nat_lit 112), ⟨(.type "tuple"), none, (.seq #[(.str "self" 328), (.str "initial_bytes" 329)] 0), #[]⟩) ::
      ((nat_lit 113), ⟨(.type "tuple"), none, (.seq #[] 0), #[]⟩) ::
      ((nat_lit 115), ⟨(.type "code"), none, (.fields (List.toArray ((.str "__init__" 325) :: (.str "BytesIO.__init__" 326) :: (.str "/claim/cut.py" 327) :: (.int 39 0) :: (.int 2 0) :: (.int 0 0) :: (.int 0 0) :: (.int 3 0) :: (.ref 110) :: (.bool true) :: (.int 181 0) :: (.ref 111) :: .none :: (.ref 112) :: (.ref 113) :: (.ref 114) :: (.int 330 0) :: (.int 39 0) :: (.str "/claim/cut.py" 331) :: []))), #[]⟩) ::
      ((nat_lit 116), ⟨(.type "function"), none, (.func ⟨"__init__", "BytesIO.__init__", a10_1, (.stmts b10_1), s10_1, 3, [], (.ref 109), .none, .none, (.str "io" 203), none, (.ref 115), .none, 0⟩), #[]⟩) ::
      ((nat_lit 117), ⟨(.type "tuple"), none, (.seq #[] 0), #[]⟩) ::
      ((nat_lit 119), ⟨(.type "tuple"), none, (.seq #[(.str "self" 336)] 0), #[]⟩) ::
      ((nat_lit 120), ⟨(.type "tuple"), none, (.seq #[] 0), #[]⟩) ::
      ((nat_lit 122), ⟨(.type "code"), none, (.fields (List.toArray ((.str "__check" 333) :: (.str "BytesIO.__check" 334) :: (.str "/claim/cut.py" 335) :: (.int 45 0) :: (.int 1 0) :: (.int 0 0) :: (.int 0 0) :: (.int 3 0) :: (.ref 117) :: (.bool true) :: (.int 181 0) :: (.ref 118) :: .none :: (.ref 119) :: (.ref 120) :: (.ref 121) :: (.int 337 0) :: (.int 45 0) :: (.str "/claim/cut.py" 338) :: []))), #[]⟩) ::
      ((nat_lit 123), ⟨(.type "function"), none, (.func ⟨"__check", "BytesIO.__check", a10_2, (.stmts b10_2), s10_2, 3, [], .none, .none, .none, (.str "io" 203), none, (.ref 122), .none, 0⟩), #[]⟩) ::
      ((nat_lit 124), ⟨(.type "tuple"), none, (.seq #[] 0), #[]⟩) ::
      ((nat_lit 126), ⟨(.type "tuple"), none, (.seq #[(.str "self" 343), (.str "limit" 344), (.str "start" 345), (.str "stop" 346), (.str "i" 347)] 0), #[]⟩) ::
      ((nat_lit 127), ⟨(.type "tuple"), none, (.seq #[] 0), #[]⟩) ::
      ((nat_lit 129), ⟨(.type "code"), none, (.fields (List.toArray ((.str "__line" 340) :: (.str "BytesIO.__line" 341) :: (.str "/claim/cut.py" 342) :: (.int 49 0) :: (.int 2 0) :: (.int 0 0) :: (.int 0 0) :: (.int 3 0) :: (.ref 124) :: (.bool true) :: (.int 181 0) :: (.ref 125) :: .none :: (.ref 126) :: (.ref 127) :: (.ref 128) :: (.int 348 0) :: (.int 49 0) :: (.str "/claim/cut.py" 349) :: []))), #[]⟩) ::
      ((nat_lit 130), ⟨(.type "function"), none, (.func ⟨"__line", "BytesIO.__line", a10_3, (.stmts b10_3), s10_3, 3, [], .none, .none, .none, (.str "io" 203), none, (.ref 129), .none, 0⟩), #[]⟩) ::
      ((nat_lit 131), ⟨(.type "tuple"), none, (.seq #[] 0), #[]⟩) ::
      ((nat_lit 133), ⟨(.type "tuple"), none, (.seq #[(.str "self" 354)] 0), #[]⟩) ::
      ((nat_lit 134), ⟨(.type "tuple"), none, (.seq #[] 0), #[]⟩) ::
      ((nat_lit 136), ⟨(.type "code"), none, (.fields (List.toArray ((.str "closed" 351) :: (.str "BytesIO.closed" 352) :: (.str "/claim/cut.py" 353) :: (.int 62 0) :: (.int 1 0) :: (.int 0 0) :: (.int 0 0) :: (.int 3 0) :: (.ref 131) :: (.bool true) :: (.int 181 0) :: (.ref 132) :: .none :: (.ref 133) :: (.ref 134) :: (.ref 135) :: (.int 355 0) :: (.int 62 0) :: (.str "/claim/cut.py" 356) :: []))), #[]⟩) ::
      ((nat_lit 137), ⟨(.type "function"), none, (.func ⟨"closed", "BytesIO.closed", a10_4, (.stmts b10_4), s10_4, 3, [], .none, .none, .none, (.str "io" 203), none, (.ref 136), .none, 0⟩), #[]⟩) ::
      ((nat_lit 138), ⟨(.type "property"), none, (.fields #[(.ref 137), .none, .none, .none, (.str "closed" 358), (.bool false)]), #[]⟩) ::
      ((nat_lit 139), ⟨(.type "tuple"), none, (.seq #[] 0), #[]⟩) ::
      ((nat_lit 141), ⟨(.type "tuple"), none, (.seq #[(.str "self" 362)] 0), #[]⟩) ::
      ((nat_lit 142), ⟨(.type "tuple"), none, (.seq #[] 0), #[]⟩) ::
      ((nat_lit 144), ⟨(.type "code"), none, (.fields (List.toArray ((.str "close" 359) :: (.str "BytesIO.close" 360) :: (.str "/claim/cut.py" 361) :: (.int 66 0) :: (.int 1 0) :: (.int 0 0) :: (.int 0 0) :: (.int 3 0) :: (.ref 139) :: (.bool true) :: (.int 181 0) :: (.ref 140) :: .none :: (.ref 141) :: (.ref 142) :: (.ref 143) :: (.int 363 0) :: (.int 66 0) :: (.str "/claim/cut.py" 364) :: []))), #[]⟩) ::
      ((nat_lit 145), ⟨(.type "function"), none, (.func ⟨"close", "BytesIO.close", a10_5, (.stmts b10_5), s10_5, 3, [], .none, .none, .none, (.str "io" 203), none, (.ref 144), .none, 0⟩), #[]⟩) ::
      ((nat_lit 146), ⟨(.type "tuple"), none, (.seq #[] 0), #[]⟩) ::
      ((nat_lit 148), ⟨(.type "tuple"), none, (.seq #[(.str "self" 369)] 0), #[]⟩) ::
      ((nat_lit 149), ⟨(.type "tuple"), none, (.seq #[] 0), #[]⟩) ::
      ((nat_lit 151), ⟨(.type "code"), none, (.fields (List.toArray ((.str "__enter__" 366) :: (.str "BytesIO.__enter__" 367) :: (.str "/claim/cut.py" 368) :: (.int 69 0) :: (.int 1 0) :: (.int 0 0) :: (.int 0 0) :: (.int 3 0) :: (.ref 146) :: (.bool true) :: (.int 181 0) :: (.ref 147) :: .none :: (.ref 148) :: (.ref 149) :: (.ref 150) :: (.int 370 0) :: (.int 69 0) :: (.str "/claim/cut.py" 371) :: []))), #[]⟩) ::
      ((nat_lit 152), ⟨(.type "function"), none, (.func ⟨"__enter__", "BytesIO.__enter__", a10_6, (.stmts b10_6), s10_6, 3, [], .none, .none, .none, (.str "io" 203), none, (.ref 151), .none, 0⟩), #[]⟩) ::
      ((nat_lit 153), ⟨(.type "tuple"), none, (.seq #[] 0), #[]⟩) ::
      ((nat_lit 155), ⟨(.type "tuple"), none, (.seq #[(.str "self" 376), (.str "args" 377)] 0), #[]⟩) ::
      ((nat_lit 156), ⟨(.type "tuple"), none, (.seq #[] 0), #[]⟩) ::
      ((nat_lit 158), ⟨(.type "code"), none, (.fields (List.toArray ((.str "__exit__" 373) :: (.str "BytesIO.__exit__" 374) :: (.str "/claim/cut.py" 375) :: (.int 73 0) :: (.int 1 0) :: (.int 0 0) :: (.int 0 0) :: (.int 7 0) :: (.ref 153) :: (.bool true) :: (.int 181 0) :: (.ref 154) :: .none :: (.ref 155) :: (.ref 156) :: (.ref 157) :: (.int 378 0) :: (.int 73 0) :: (.str "/claim/cut.py" 379) :: []))), #[]⟩) ::
      ((nat_lit 159), ⟨(.type "function"), none, (.func ⟨"__exit__", "BytesIO.__exit__", a10_7, (.stmts b10_7), s10_7, 3, [], .none, .none, .none, (.str "io" 203), none, (.ref 158), .none, 0⟩), #[]⟩) ::
      ((nat_lit 160), ⟨(.type "tuple"), none, (.seq #[] 0), #[]⟩) ::
      ((nat_lit 162), ⟨(.type "tuple"), none, (.seq #[(.str "self" 384)] 0), #[]⟩) ::
      ((nat_lit 163), ⟨(.type "tuple"), none, (.seq #[] 0), #[]⟩) ::
      ((nat_lit 165), ⟨(.type "code"), none, (.fields (List.toArray ((.str "readable" 381) :: (.str "BytesIO.readable" 382) :: (.str "/claim/cut.py" 383) :: (.int 76 0) :: (.int 1 0) :: (.int 0 0) :: (.int 0 0) :: (.int 3 0) :: (.ref 160) :: (.bool true) :: (.int 181 0) :: (.ref 161) :: .none :: (.ref 162) :: (.ref 163) :: (.ref 164) :: (.int 385 0) :: (.int 76 0) :: (.str "/claim/cut.py" 386) :: []))), #[]⟩) ::
      ((nat_lit 166), ⟨(.type "function"), none, (.func ⟨"readable", "BytesIO.readable", a10_8, (.stmts b10_8), s10_8, 3, [], .none, .none, .none, (.str "io" 203), none, (.ref 165), .none, 0⟩), #[]⟩) ::
      ((nat_lit 167), ⟨(.type "tuple"), none, (.seq #[] 0), #[]⟩) ::
      ((nat_lit 169), ⟨(.type "tuple"), none, (.seq #[(.str "self" 391)] 0), #[]⟩) ::
      ((nat_lit 170), ⟨(.type "tuple"), none, (.seq #[] 0), #[]⟩) ::
      ((nat_lit 172), ⟨(.type "code"), none, (.fields (List.toArray ((.str "writable" 388) :: (.str "BytesIO.writable" 389) :: (.str "/claim/cut.py" 390) :: (.int 80 0) :: (.int 1 0) :: (.int 0 0) :: (.int 0 0) :: (.int 3 0) :: (.ref 167) :: (.bool true) :: (.int 181 0) :: (.ref 168) :: .none :: (.ref 169) :: (.ref 170) :: (.ref 171) :: (.int 392 0) :: (.int 80 0) :: (.str "/claim/cut.py" 393) :: []))), #[]⟩) ::
      ((nat_lit 173), ⟨(.type "function"), none, (.func ⟨"writable", "BytesIO.writable", a10_9, (.stmts b10_9), s10_9, 3, [], .none, .none, .none, (.str "io" 203), none, (.ref 172), .none, 0⟩), #[]⟩) ::
      ((nat_lit 174), ⟨(.type "tuple"), none, (.seq #[] 0), #[]⟩) ::
      ((nat_lit 176), ⟨(.type "tuple"), none, (.seq #[(.str "self" 398)] 0), #[]⟩) ::
      ((nat_lit 177), ⟨(.type "tuple"), none, (.seq #[] 0), #[]⟩) ::
      ((nat_lit 179), ⟨(.type "code"), none, (.fields (List.toArray ((.str "seekable" 395) :: (.str "BytesIO.seekable" 396) :: (.str "/claim/cut.py" 397) :: (.int 84 0) :: (.int 1 0) :: (.int 0 0) :: (.int 0 0) :: (.int 3 0) :: (.ref 174) :: (.bool true) :: (.int 181 0) :: (.ref 175) :: .none :: (.ref 176) :: (.ref 177) :: (.ref 178) :: (.int 399 0) :: (.int 84 0) :: (.str "/claim/cut.py" 400) :: []))), #[]⟩) ::
      ((nat_lit 180), ⟨(.type "function"), none, (.func ⟨"seekable", "BytesIO.seekable", a10_10, (.stmts b10_10), s10_10, 3, [], .none, .none, .none, (.str "io" 203), none, (.ref 179), .none, 0⟩), #[]⟩) ::
      ((nat_lit 181), ⟨(.type "tuple"), none, (.seq #[] 0), #[]⟩) ::
      ((nat_lit 183), ⟨(.type "tuple"), none, (.seq #[(.str "self" 405)] 0), #[]⟩) ::
      ((nat_lit 184), ⟨(.type "tuple"), none, (.seq #[] 0), #[]⟩) ::
      ((nat_lit 186), ⟨(.type "code"), none, (.fields (List.toArray ((.str "isatty" 402) :: (.str "BytesIO.isatty" 403) :: (.str "/claim/cut.py" 404) :: (.int 88 0) :: (.int 1 0) :: (.int 0 0) :: (.int 0 0) :: (.int 3 0) :: (.ref 181) :: (.bool true) :: (.int 181 0) :: (.ref 182) :: .none :: (.ref 183) :: (.ref 184) :: (.ref 185) :: (.int 406 0) :: (.int 88 0) :: (.str "/claim/cut.py" 407) :: []))), #[]⟩) ::
      ((nat_lit 187), ⟨(.type "function"), none, (.func ⟨"isatty", "BytesIO.isatty", a10_11, (.stmts b10_11), s10_11, 3, [], .none, .none, .none, (.str "io" 203), none, (.ref 186), .none, 0⟩), #[]⟩) ::
      ((nat_lit 188), ⟨(.type "tuple"), none, (.seq #[] 0), #[]⟩) ::
      ((nat_lit 190), ⟨(.type "tuple"), none, (.seq #[(.str "self" 412)] 0), #[]⟩) ::
      ((nat_lit 191), ⟨(.type "tuple"), none, (.seq #[] 0), #[]⟩) ::
      ((nat_lit 193), ⟨(.type "code"), none, (.fields (List.toArray ((.str "flush" 409) :: (.str "BytesIO.flush" 410) :: (.str "/claim/cut.py" 411) :: (.int 92 0) :: (.int 1 0) :: (.int 0 0) :: (.int 0 0) :: (.int 3 0) :: (.ref 188) :: (.bool true) :: (.int 181 0) :: (.ref 189) :: .none :: (.ref 190) :: (.ref 191) :: (.ref 192) :: (.int 413 0) :: (.int 92 0) :: (.str "/claim/cut.py" 414) :: []))), #[]⟩) ::
      ((nat_lit 194), ⟨(.type "function"), none, (.func ⟨"flush", "BytesIO.flush", a10_12, (.stmts b10_12), s10_12, 3, [], .none, .none, .none, (.str "io" 203), none, (.ref 193), .none, 0⟩), #[]⟩) ::
      ((nat_lit 195), ⟨(.type "tuple"), none, (.seq #[] 0), #[]⟩) ::
      ((nat_lit 197), ⟨(.type "tuple"), none, (.seq #[(.str "self" 419)] 0), #[]⟩) ::
      ((nat_lit 198), ⟨(.type "tuple"), none, (.seq #[] 0), #[]⟩) ::
      ((nat_lit 200), ⟨(.type "code"), none, (.fields (List.toArray ((.str "fileno" 416) :: (.str "BytesIO.fileno" 417) :: (.str "/claim/cut.py" 418) :: (.int 95 0) :: (.int 1 0) :: (.int 0 0) :: (.int 0 0) :: (.int 3 0) :: (.ref 195) :: (.bool true) :: (.int 181 0) :: (.ref 196) :: .none :: (.ref 197) :: (.ref 198) :: (.ref 199) :: (.int 420 0) :: (.int 95 0) :: (.str "/claim/cut.py" 421) :: []))), #[]⟩) ::
      ((nat_lit 201), ⟨(.type "function"), none, (.func ⟨"fileno", "BytesIO.fileno", a10_13, (.stmts b10_13), s10_13, 3, [], .none, .none, .none, (.str "io" 203), none, (.ref 200), .none, 0⟩), #[]⟩) ::
      ((nat_lit 202), ⟨(.type "tuple"), none, (.seq #[] 0), #[]⟩) ::
      ((nat_lit 204), ⟨(.type "tuple"), none, (.seq #[(.str "self" 426)] 0), #[]⟩) ::
      ((nat_lit 205), ⟨(.type "tuple"), none, (.seq #[] 0), #[]⟩) ::
      ((nat_lit 207), ⟨(.type "code"), none, (.fields (List.toArray ((.str "detach" 423) :: (.str "BytesIO.detach" 424) :: (.str "/claim/cut.py" 425) :: (.int 98 0) :: (.int 1 0) :: (.int 0 0) :: (.int 0 0) :: (.int 3 0) :: (.ref 202) :: (.bool true) :: (.int 181 0) :: (.ref 203) :: .none :: (.ref 204) :: (.ref 205) :: (.ref 206) :: (.int 427 0) :: (.int 98 0) :: (.str "/claim/cut.py" 428) :: []))), #[]⟩) ::
      ((nat_lit 208), ⟨(.type "function"), none, (.func ⟨"detach", "BytesIO.detach", a10_14, (.stmts b10_14), s10_14, 3, [], .none, .none, .none, (.str "io" 203), none, (.ref 207), .none, 0⟩), #[]⟩) ::
      ((nat_lit 209), ⟨(.type "tuple"), none, (.seq #[] 0), #[]⟩) ::
      ((nat_lit 211), ⟨(.type "tuple"), none, (.seq #[(.str "self" 433)] 0), #[]⟩) ::
      ((nat_lit 212), ⟨(.type "tuple"), none, (.seq #[] 0), #[]⟩) ::
      ((nat_lit 214), ⟨(.type "code"), none, (.fields (List.toArray ((.str "getvalue" 430) :: (.str "BytesIO.getvalue" 431) :: (.str "/claim/cut.py" 432) :: (.int 101 0) :: (.int 1 0) :: (.int 0 0) :: (.int 0 0) :: (.int 3 0) :: (.ref 209) :: (.bool true) :: (.int 181 0) :: (.ref 210) :: .none :: (.ref 211) :: (.ref 212) :: (.ref 213) :: (.int 434 0) :: (.int 101 0) :: (.str "/claim/cut.py" 435) :: []))), #[]⟩) ::
      ((nat_lit 215), ⟨(.type "function"), none, (.func ⟨"getvalue", "BytesIO.getvalue", a10_15, (.stmts b10_15), s10_15, 3, [], .none, .none, .none, (.str "io" 203), none, (.ref 214), .none, 0⟩), #[]⟩) ::
      ((nat_lit 216), ⟨(.type "tuple"), none, (.seq #[] 0), #[]⟩) ::
      ((nat_lit 218), ⟨(.type "tuple"), none, (.seq #[(.str "self" 440)] 0), #[]⟩) ::
      ((nat_lit 219), ⟨(.type "tuple"), none, (.seq #[] 0), #[]⟩) ::
      ((nat_lit 221), ⟨(.type "code"), none, (.fields (List.toArray ((.str "getbuffer" 437) :: (.str "BytesIO.getbuffer" 438) :: (.str "/claim/cut.py" 439) :: (.int 104 0) :: (.int 1 0) :: (.int 0 0) :: (.int 0 0) :: (.int 3 0) :: (.ref 216) :: (.bool true) :: (.int 181 0) :: (.ref 217) :: .none :: (.ref 218) :: (.ref 219) :: (.ref 220) :: (.int 441 0) :: (.int 104 0) :: (.str "/claim/cut.py" 442) :: []))), #[]⟩) ::
      ((nat_lit 222), ⟨(.type "function"), none, (.func ⟨"getbuffer", "BytesIO.getbuffer", a10_16, (.stmts b10_16), s10_16, 3, [], .none, .none, .none, (.str "io" 203), none, (.ref 221), .none, 0⟩), #[]⟩) ::
      ((nat_lit 223), ⟨(.type "tuple"), none, (.seq #[] 0), #[]⟩) ::
      ((nat_lit 225), ⟨(.type "tuple"), none, (.seq #[(.str "self" 447)] 0), #[]⟩) ::
      ((nat_lit 226), ⟨(.type "tuple"), none, (.seq #[] 0), #[]⟩) ::
      ((nat_lit 228), ⟨(.type "code"), none, (.fields (List.toArray ((.str "tell" 444) :: (.str "BytesIO.tell" 445) :: (.str "/claim/cut.py" 446) :: (.int 107 0) :: (.int 1 0) :: (.int 0 0) :: (.int 0 0) :: (.int 3 0) :: (.ref 223) :: (.bool true) :: (.int 181 0) :: (.ref 224) :: .none :: (.ref 225) :: (.ref 226) :: (.ref 227) :: (.int 448 0) :: (.int 107 0) :: (.str "/claim/cut.py" 449) :: []))), #[]⟩) ::
      ((nat_lit 229), ⟨(.type "function"), none, (.func ⟨"tell", "BytesIO.tell", a10_17, (.stmts b10_17), s10_17, 3, [], .none, .none, .none, (.str "io" 203), none, (.ref 228), .none, 0⟩), #[]⟩) ::
      ((nat_lit 230), ⟨(.type "tuple"), none, (.seq #[(.int 0 451)] 0), #[]⟩) ::
      ((nat_lit 231), ⟨(.type "tuple"), none, (.seq #[] 0), #[]⟩) ::
      ((nat_lit 233), ⟨(.type "tuple"), none, (.seq #[(.str "self" 455), (.str "pos" 456), (.str "whence" 457)] 0), #[]⟩) ::
      ((nat_lit 234), ⟨(.type "tuple"), none, (.seq #[] 0), #[]⟩) ::
      ((nat_lit 236), ⟨(.type "code"), none, (.fields (List.toArray ((.str "seek" 452) :: (.str "BytesIO.seek" 453) :: (.str "/claim/cut.py" 454) :: (.int 111 0) :: (.int 3 0) :: (.int 3 0) :: (.int 0 0) :: (.int 3 0) :: (.ref 231) :: (.bool true) :: (.int 181 0) :: (.ref 232) :: .none :: (.ref 233) :: (.ref 234) :: (.ref 235) :: (.int 458 0) :: (.int 111 0) :: (.str "/claim/cut.py" 459) :: []))), #[]⟩) ::
      ((nat_lit 237), ⟨(.type "function"), none, (.func ⟨"seek", "BytesIO.seek", a10_18, (.stmts b10_18), s10_18, 3, [], (.ref 230), .none, .none, (.str "io" 203), none, (.ref 236), .none, 0⟩), #[]⟩) ::
      ((nat_lit 238), ⟨(.type "tuple"), none, (.seq #[.none] 0), #[]⟩) ::
      ((nat_lit 239), ⟨(.type "tuple"), none, (.seq #[] 0), #[]⟩) ::
      ((nat_lit 241), ⟨(.type "tuple"), none, (.seq #[(.str "self" 464), (.str "size" 465)] 0), #[]⟩) ::
      ((nat_lit 242), ⟨(.type "tuple"), none, (.seq #[] 0), #[]⟩) ::
      ((nat_lit 244), ⟨(.type "code"), none, (.fields (List.toArray ((.str "truncate" 461) :: (.str "BytesIO.truncate" 462) :: (.str "/claim/cut.py" 463) :: (.int 128 0) :: (.int 2 0) :: (.int 2 0) :: (.int 0 0) :: (.int 3 0) :: (.ref 239) :: (.bool true) :: (.int 181 0) :: (.ref 240) :: .none :: (.ref 241) :: (.ref 242) :: (.ref 243) :: (.int 466 0) :: (.int 128 0) :: (.str "/claim/cut.py" 467) :: []))), #[]⟩) ::
      ((nat_lit 245), ⟨(.type "function"), none, (.func ⟨"truncate", "BytesIO.truncate", a10_19, (.stmts b10_19), s10_19, 3, [], (.ref 238), .none, .none, (.str "io" 203), none, (.ref 244), .none, 0⟩), #[]⟩) ::
      ((nat_lit 246), ⟨(.type "tuple"), none, (.seq #[(.int (-1) 470)] 0), #[]⟩) ::
      ((nat_lit 247), ⟨(.type "tuple"), none, (.seq #[] 0), #[]⟩) ::
      ((nat_lit 249), ⟨(.type "tuple"), none, (.seq #[(.str "self" 474), (.str "size" 475), (.str "start" 476), (.str "stop" 477)] 0), #[]⟩) ::
      ((nat_lit 250), ⟨(.type "tuple"), none, (.seq #[] 0), #[]⟩) ::
      ((nat_lit 252), ⟨(.type "code"), none, (.fields (List.toArray ((.str "read" 471) :: (.str "BytesIO.read" 472) :: (.str "/claim/cut.py" 473) :: (.int 131 0) :: (.int 2 0) :: (.int 2 0) :: (.int 0 0) :: (.int 3 0) :: (.ref 247) :: (.bool true) :: (.int 181 0) :: (.ref 248) :: .none :: (.ref 249) :: (.ref 250) :: (.ref 251) :: (.int 478 0) :: (.int 131 0) :: (.str "/claim/cut.py" 479) :: []))), #[]⟩) ::
      ((nat_lit 253), ⟨(.type "function"), none, (.func ⟨"read", "BytesIO.read", a10_20, (.stmts b10_20), s10_20, 3, [], (.ref 246), .none, .none, (.str "io" 203), none, (.ref 252), .none, 0⟩), #[]⟩) ::
      ((nat_lit 254), ⟨(.type "tuple"), none, (.seq #[(.int (-1) 482)] 0), #[]⟩) ::
      ((nat_lit 255), ⟨(.type "tuple"), none, (.seq #[] 0), #[]⟩) ::
      ((nat_lit 257), ⟨(.type "tuple"), none, (.seq #[(.str "self" 486), (.str "size" 487)] 0), #[]⟩) ::
      ((nat_lit 258), ⟨(.type "tuple"), none, (.seq #[] 0), #[]⟩) ::
      ((nat_lit 260), ⟨(.type "code"), none, (.fields (List.toArray ((.str "read1" 483) :: (.str "BytesIO.read1" 484) :: (.str "/claim/cut.py" 485) :: (.int 145 0) :: (.int 2 0) :: (.int 2 0) :: (.int 0 0) :: (.int 3 0) :: (.ref 255) :: (.bool true) :: (.int 181 0) :: (.ref 256) :: .none :: (.ref 257) :: (.ref 258) :: (.ref 259) :: (.int 488 0) :: (.int 145 0) :: (.str "/claim/cut.py" 489) :: []))), #[]⟩) ::
      ((nat_lit 261), ⟨(.type "function"), none, (.func ⟨"read1", "BytesIO.read1", a10_21, (.stmts b10_21), s10_21, 3, [], (.ref 254), .none, .none, (.str "io" 203), none, (.ref 260), .none, 0⟩), #[]⟩) ::
      ((nat_lit 262), ⟨(.type "tuple"), none, (.seq #[] 0), #[]⟩) ::
      ((nat_lit 264), ⟨(.type "tuple"), none, (.seq #[(.str "self" 494), (.str "buffer" 495), (.str "start" 496), (.str "n" 497)] 0), #[]⟩) ::
      ((nat_lit 265), ⟨(.type "tuple"), none, (.seq #[] 0), #[]⟩) ::
      ((nat_lit 267), ⟨(.type "code"), none, (.fields (List.toArray ((.str "readinto" 491) :: (.str "BytesIO.readinto" 492) :: (.str "/claim/cut.py" 493) :: (.int 148 0) :: (.int 2 0) :: (.int 2 0) :: (.int 0 0) :: (.int 3 0) :: (.ref 262) :: (.bool true) :: (.int 181 0) :: (.ref 263) :: .none :: (.ref 264) :: (.ref 265) :: (.ref 266) :: (.int 498 0) :: (.int 148 0) :: (.str "/claim/cut.py" 499) :: []))), #[]⟩) ::
      ((nat_lit 268), ⟨(.type "function"), none, (.func ⟨"readinto", "BytesIO.readinto", a10_22, (.stmts b10_22), s10_22, 3, [], .none, .none, .none, (.str "io" 203), none, (.ref 267), .none, 0⟩), #[]⟩) ::
      ((nat_lit 269), ⟨(.type "tuple"), none, (.seq #[] 0), #[]⟩) ::
      ((nat_lit 271), ⟨(.type "tuple"), none, (.seq #[(.str "self" 504), (.str "buffer" 505)] 0), #[]⟩) ::
      ((nat_lit 272), ⟨(.type "tuple"), none, (.seq #[] 0), #[]⟩) ::
      ((nat_lit 274), ⟨(.type "code"), none, (.fields (List.toArray ((.str "readinto1" 501) :: (.str "BytesIO.readinto1" 502) :: (.str "/claim/cut.py" 503) :: (.int 162 0) :: (.int 2 0) :: (.int 2 0) :: (.int 0 0) :: (.int 3 0) :: (.ref 269) :: (.bool true) :: (.int 181 0) :: (.ref 270) :: .none :: (.ref 271) :: (.ref 272) :: (.ref 273) :: (.int 506 0) :: (.int 162 0) :: (.str "/claim/cut.py" 507) :: []))), #[]⟩) ::
      ((nat_lit 275), ⟨(.type "function"), none, (.func ⟨"readinto1", "BytesIO.readinto1", a10_23, (.stmts b10_23), s10_23, 3, [], .none, .none, .none, (.str "io" 203), none, (.ref 274), .none, 0⟩), #[]⟩) ::
      ((nat_lit 276), ⟨(.type "tuple"), none, (.seq #[(.int (-1) 510)] 0), #[]⟩) ::
      ((nat_lit 277), ⟨(.type "tuple"), none, (.seq #[] 0), #[]⟩) ::
      ((nat_lit 279), ⟨(.type "tuple"), none, (.seq #[(.str "self" 514), (.str "size" 515)] 0), #[]⟩) ::
      ((nat_lit 280), ⟨(.type "tuple"), none, (.seq #[] 0), #[]⟩) ::
      ((nat_lit 282), ⟨(.type "code"), none, (.fields (List.toArray ((.str "readline" 511) :: (.str "BytesIO.readline" 512) :: (.str "/claim/cut.py" 513) :: (.int 165 0) :: (.int 2 0) :: (.int 2 0) :: (.int 0 0) :: (.int 3 0) :: (.ref 277) :: (.bool true) :: (.int 181 0) :: (.ref 278) :: .none :: (.ref 279) :: (.ref 280) :: (.ref 281) :: (.int 516 0) :: (.int 165 0) :: (.str "/claim/cut.py" 517) :: []))), #[]⟩) ::
      ((nat_lit 283), ⟨(.type "function"), none, (.func ⟨"readline", "BytesIO.readline", a10_24, (.stmts b10_24), s10_24, 3, [], (.ref 276), .none, .none, (.str "io" 203), none, (.ref 282), .none, 0⟩), #[]⟩) ::
      ((nat_lit 284), ⟨(.type "tuple"), none, (.seq #[.none] 0), #[]⟩) ::
      ((nat_lit 285), ⟨(.type "tuple"), none, (.seq #[] 0), #[]⟩) ::
      ((nat_lit 287), ⟨(.type "tuple"), none, (.seq #[(.str "self" 522), (.str "size" 523)] 0), #[]⟩) ::
      ((nat_lit 288), ⟨(.type "tuple"), none, (.seq #[] 0), #[]⟩) ::
      ((nat_lit 290), ⟨(.type "code"), none, (.fields (List.toArray ((.str "readlines" 519) :: (.str "BytesIO.readlines" 520) :: (.str "/claim/cut.py" 521) :: (.int 172 0) :: (.int 2 0) :: (.int 2 0) :: (.int 0 0) :: (.int 3 0) :: (.ref 285) :: (.bool true) :: (.int 181 0) :: (.ref 286) :: .none :: (.ref 287) :: (.ref 288) :: (.ref 289) :: (.int 524 0) :: (.int 172 0) :: (.str "/claim/cut.py" 525) :: []))), #[]⟩) ::
      ((nat_lit 291), ⟨(.type "function"), none, (.func ⟨"readlines", "BytesIO.readlines", a10_25, (.stmts b10_25), s10_25, 3, [], (.ref 284), .none, .none, (.str "io" 203), none, (.ref 290), .none, 0⟩), #[]⟩) ::
      ((nat_lit 292), ⟨(.type "tuple"), none, (.seq #[] 0), #[]⟩) ::
      ((nat_lit 294), ⟨(.type "tuple"), none, (.seq #[(.str "self" 530)] 0), #[]⟩) ::
      ((nat_lit 295), ⟨(.type "tuple"), none, (.seq #[] 0), #[]⟩) ::
      ((nat_lit 297), ⟨(.type "code"), none, (.fields (List.toArray ((.str "__iter__" 527) :: (.str "BytesIO.__iter__" 528) :: (.str "/claim/cut.py" 529) :: (.int 175 0) :: (.int 1 0) :: (.int 0 0) :: (.int 0 0) :: (.int 3 0) :: (.ref 292) :: (.bool true) :: (.int 181 0) :: (.ref 293) :: .none :: (.ref 294) :: (.ref 295) :: (.ref 296) :: (.int 531 0) :: (.int 175 0) :: (.str "/claim/cut.py" 532) :: []))), #[]⟩) ::
      ((nat_lit 298), ⟨(.type "function"), none, (.func ⟨"__iter__", "BytesIO.__iter__", a10_26, (.stmts b10_26), s10_26, 3, [], .none, .none, .none, (.str "io" 203), none, (.ref 297), .none, 0⟩), #[]⟩) ::
      ((nat_lit 299), ⟨(.type "tuple"), none, (.seq #[] 0), #[]⟩) ::
      ((nat_lit 301), ⟨(.type "tuple"), none, (.seq #[(.str "self" 537), (.str "line" 538)] 0), #[]⟩) ::
      ((nat_lit 302), ⟨(.type "tuple"), none, (.seq #[] 0), #[]⟩) ::
      ((nat_lit 304), ⟨(.type "code"), none, (.fields (List.toArray ((.str "__next__" 534) :: (.str "BytesIO.__next__" 535) :: (.str "/claim/cut.py" 536) :: (.int 178 0) :: (.int 1 0) :: (.int 0 0) :: (.int 0 0) :: (.int 3 0) :: (.ref 299) :: (.bool true) :: (.int 181 0) :: (.ref 300) :: .none :: (.ref 301) :: (.ref 302) :: (.ref 303) :: (.int 539 0) :: (.int 178 0) :: (.str "/claim/cut.py" 540) :: []))), #[]⟩) ::
      ((nat_lit 305), ⟨(.type "function"), none, (.func ⟨"__next__", "BytesIO.__next__", a10_27, (.stmts b10_27), s10_27, 3, [], .none, .none, .none, (.str "io" 203), none, (.ref 304), .none, 0⟩), #[]⟩) ::
      ((nat_lit 306), ⟨(.type "tuple"), none, (.seq #[] 0), #[]⟩) ::
      ((nat_lit 308), ⟨(.type "tuple"), none, (.seq #[(.str "self" 545), (.str "b" 546), (.str "n" 547), (.str "start" 548)] 0), #[]⟩) ::
      ((nat_lit 309), ⟨(.type "tuple"), none, (.seq #[] 0), #[]⟩) ::
      ((nat_lit 311), ⟨(.type "code"), none, (.fields (List.toArray ((.str "write" 542) :: (.str "BytesIO.write" 543) :: (.str "/claim/cut.py" 544) :: (.int 185 0) :: (.int 2 0) :: (.int 2 0) :: (.int 0 0) :: (.int 3 0) :: (.ref 306) :: (.bool true) :: (.int 181 0) :: (.ref 307) :: .none :: (.ref 308) :: (.ref 309) :: (.ref 310) :: (.int 549 0) :: (.int 185 0) :: (.str "/claim/cut.py" 550) :: []))), #[]⟩) ::
      ((nat_lit 312), ⟨(.type "function"), none, (.func ⟨"write", "BytesIO.write", a10_28, (.stmts b10_28), s10_28, 3, [], .none, .none, .none, (.str "io" 203), none, (.ref 311), .none, 0⟩), #[]⟩) ::
      ((nat_lit 313), ⟨(.type "tuple"), none, (.seq #[] 0), #[]⟩) ::
      ((nat_lit 315), ⟨(.type "tuple"), none, (.seq #[(.str "self" 555), (.str "lines" 556)] 0), #[]⟩) ::
      ((nat_lit 316), ⟨(.type "tuple"), none, (.seq #[] 0), #[]⟩) ::
      ((nat_lit 318), ⟨(.type "code"), none, (.fields (List.toArray ((.str "writelines" 552) :: (.str "BytesIO.writelines" 553) :: (.str "/claim/cut.py" 554) :: (.int 201 0) :: (.int 2 0) :: (.int 2 0) :: (.int 0 0) :: (.int 3 0) :: (.ref 313) :: (.bool true) :: (.int 181 0) :: (.ref 314) :: .none :: (.ref 315) :: (.ref 316) :: (.ref 317) :: (.int 557 0) :: (.int 201 0) :: (.str "/claim/cut.py" 558) :: []))), #[]⟩) ::
      ((nat_lit 319), ⟨(.type "function"), none, (.func ⟨"writelines", "BytesIO.writelines", a10_29, (.stmts b10_29), s10_29, 3, [], .none, .none, .none, (.str "io" 203), none, (.ref 318), .none, 0⟩), #[]⟩) ::
      ((nat_lit 320), ⟨(.type "tuple"), none, (.seq #[] 0), #[]⟩) ::
      ((nat_lit 322), ⟨(.type "tuple"), none, (.seq #[(.str "self" 563)] 0), #[]⟩) ::
      ((nat_lit 323), ⟨(.type "tuple"), none, (.seq #[] 0), #[]⟩) ::
      ((nat_lit 325), ⟨(.type "code"), none, (.fields (List.toArray ((.str "__repr__" 560) :: (.str "BytesIO.__repr__" 561) :: (.str "/claim/cut.py" 562) :: (.int 204 0) :: (.int 1 0) :: (.int 0 0) :: (.int 0 0) :: (.int 3 0) :: (.ref 320) :: (.bool true) :: (.int 181 0) :: (.ref 321) :: .none :: (.ref 322) :: (.ref 323) :: (.ref 324) :: (.int 564 0) :: (.int 204 0) :: (.str "/claim/cut.py" 565) :: []))), #[]⟩) ::
      ((nat_lit 326), ⟨(.type "function"), none, (.func ⟨"__repr__", "BytesIO.__repr__", a10_30, (.stmts b10_30), s10_30, 3, [], .none, .none, .none, (.str "io" 203), none, (.ref 325), .none, 0⟩), #[]⟩) ::
      ((nat_lit 327), ⟨(.type "tuple"), none, (.seq #[(.str "__buf" 567), (.str "__pos" 568)] 0), #[]⟩) ::
      ((nat_lit 328), ⟨(.type "dict"), none, (.dict (List.toArray (⟨(PyData.keyHash P "__module__"), (.str "__module__" 318), (.str "_io" 323)⟩ :: ⟨(PyData.keyHash P "__firstlineno__"), (.str "__firstlineno__" 322), (.int 36 321)⟩ :: ⟨(PyData.keyHash P "__init__"), (.str "__init__" 332), (.ref 116)⟩ :: ⟨(PyData.keyHash P "_BytesIO__check"), (.str "_BytesIO__check" 339), (.ref 123)⟩ :: ⟨(PyData.keyHash P "_BytesIO__line"), (.str "_BytesIO__line" 350), (.ref 130)⟩ :: ⟨(PyData.keyHash P "closed"), (.str "closed" 358), (.ref 138)⟩ :: ⟨(PyData.keyHash P "close"), (.str "close" 365), (.ref 145)⟩ :: ⟨(PyData.keyHash P "__enter__"), (.str "__enter__" 372), (.ref 152)⟩ :: ⟨(PyData.keyHash P "__exit__"), (.str "__exit__" 380), (.ref 159)⟩ :: ⟨(PyData.keyHash P "readable"), (.str "readable" 387), (.ref 166)⟩ :: ⟨(PyData.keyHash P "writable"), (.str "writable" 394), (.ref 173)⟩ :: ⟨(PyData.keyHash P "seekable"), (.str "seekable" 401), (.ref 180)⟩ :: ⟨(PyData.keyHash P "isatty"), (.str "isatty" 408), (.ref 187)⟩ :: ⟨(PyData.keyHash P "flush"), (.str "flush" 415), (.ref 194)⟩ :: ⟨(PyData.keyHash P "fileno"), (.str "fileno" 422), (.ref 201)⟩ :: ⟨(PyData.keyHash P "detach"), (.str "detach" 429), (.ref 208)⟩ :: ⟨(PyData.keyHash P "getvalue"), (.str "getvalue" 436), (.ref 215)⟩ :: ⟨(PyData.keyHash P "getbuffer"), (.str "getbuffer" 443), (.ref 222)⟩ :: ⟨(PyData.keyHash P "tell"), (.str "tell" 450), (.ref 229)⟩ :: ⟨(PyData.keyHash P "seek"), (.str "seek" 460), (.ref 237)⟩ :: ⟨(PyData.keyHash P "truncate"), (.str "truncate" 468), (.ref 245)⟩ :: ⟨(PyData.keyHash P "read"), (.str "read" 480), (.ref 253)⟩ :: ⟨(PyData.keyHash P "read1"), (.str "read1" 490), (.ref 261)⟩ :: ⟨(PyData.keyHash P "readinto"), (.str "readinto" 500), (.ref 268)⟩ :: ⟨(PyData.keyHash P "readinto1"), (.str "readinto1" 508), (.ref 275)⟩ :: ⟨(PyData.keyHash P "readline"), (.str "readline" 518), (.ref 283)⟩ :: ⟨(PyData.keyHash P "readlines"), (.str "readlines" 526), (.ref 291)⟩ :: ⟨(PyData.keyHash P "__iter__"), (.str "__iter__" 533), (.ref 298)⟩ :: ⟨(PyData.keyHash P "__next__"), (.str "__next__" 541), (.ref 305)⟩ :: ⟨(PyData.keyHash P "write"), (.str "write" 551), (.ref 312)⟩ :: ⟨(PyData.keyHash P "writelines"), (.str "writelines" 559), (.ref 319)⟩ :: ⟨(PyData.keyHash P "__repr__"), (.str "__repr__" 566), (.ref 326)⟩ :: ⟨(PyData.keyHash P "__static_attributes__"), (.str "__static_attributes__" 569), (.ref 327)⟩ :: ⟨(PyData.keyHash P "__doc__"), (.str "__doc__" 570), .none⟩ :: [])) 2), #[]⟩) ::
      ((nat_lit 329), ⟨(.type "type"), none, (.cls ⟨"BytesIO", [(.ref 87)], [(.ref 329), (.ref 87), (.ref 72), (.type "object")], 328, "BytesIO", true, [], [], false, none, false⟩), #[(some (.ref 102)), none, (some (.str "BytesIO" 311)), (some (.str "BytesIO" 319)), (some .none), (some (.bool true))]⟩) ::
      ((nat_lit 332), ⟨(.type "tuple"), none, (.seq #[(.ref 99)] 0), #[]⟩) ::
      ((nat_lit 339), ⟨(.type "tuple"), none, (.seq #[(.str "" 587), (.str "\n" 588)] 0), #[]⟩) ::
      ((nat_lit 340), ⟨(.type "tuple"), none, (.seq #[] 0), #[]⟩) ::
      ((nat_lit 342), ⟨(.type "tuple"), none, (.seq #[(.str "self" 592), (.str "initial_value" 593), (.str "newline" 594)] 0), #[]⟩) ::
      ((nat_lit 343), ⟨(.type "tuple"), none, (.seq #[] 0), #[]⟩) ::
      ((nat_lit 345), ⟨(.type "code"), none, (.fields (List.toArray ((.str "__init__" 589) :: (.str "StringIO.__init__" 590) :: (.str "/claim/cut.py" 591) :: (.int 209 0) :: (.int 3 0) :: (.int 0 0) :: (.int 0 0) :: (.int 3 0) :: (.ref 340) :: (.bool true) :: (.int 181 0) :: (.ref 341) :: .none :: (.ref 342) :: (.ref 343) :: (.ref 344) :: (.int 595 0) :: (.int 209 0) :: (.str "/claim/cut.py" 596) :: []))), #[]⟩) ::
      ((nat_lit 346), ⟨(.type "function"), none, (.func ⟨"__init__", "StringIO.__init__", a11_1, (.stmts b11_1), s11_1, 3, [], (.ref 339), .none, .none, (.str "io" 203), none, (.ref 345), .none, 0⟩), #[]⟩) ::
      ((nat_lit 347), ⟨(.type "tuple"), none, (.seq #[] 0), #[]⟩) ::
      ((nat_lit 349), ⟨(.type "tuple"), none, (.seq #[(.str "self" 601), (.str "s" 602), (.str "newline" 603)] 0), #[]⟩) ::
      ((nat_lit 350), ⟨(.type "tuple"), none, (.seq #[] 0), #[]⟩) ::
      ((nat_lit 352), ⟨(.type "code"), none, (.fields (List.toArray ((.str "__translated" 598) :: (.str "StringIO.__translated" 599) :: (.str "/claim/cut.py" 600) :: (.int 222 0) :: (.int 2 0) :: (.int 0 0) :: (.int 0 0) :: (.int 3 0) :: (.ref 347) :: (.bool true) :: (.int 181 0) :: (.ref 348) :: .none :: (.ref 349) :: (.ref 350) :: (.ref 351) :: (.int 604 0) :: (.int 222 0) :: (.str "/claim/cut.py" 605) :: []))), #[]⟩) ::
      ((nat_lit 353), ⟨(.type "function"), none, (.func ⟨"__translated", "StringIO.__translated", a11_2, (.stmts b11_2), s11_2, 3, [], .none, .none, .none, (.str "io" 203), none, (.ref 352), .none, 0⟩), #[]⟩) ::
      ((nat_lit 354), ⟨(.type "tuple"), none, (.seq #[] 0), #[]⟩) ::
      ((nat_lit 356), ⟨(.type "tuple"), none, (.seq #[(.str "self" 610)] 0), #[]⟩) ::
      ((nat_lit 357), ⟨(.type "tuple"), none, (.seq #[] 0), #[]⟩) ::
      ((nat_lit 359), ⟨(.type "code"), none, (.fields (List.toArray ((.str "__check" 607) :: (.str "StringIO.__check" 608) :: (.str "/claim/cut.py" 609) :: (.int 230 0) :: (.int 1 0) :: (.int 0 0) :: (.int 0 0) :: (.int 3 0) :: (.ref 354) :: (.bool true) :: (.int 181 0) :: (.ref 355) :: .none :: (.ref 356) :: (.ref 357) :: (.ref 358) :: (.int 611 0) :: (.int 230 0) :: (.str "/claim/cut.py" 612) :: []))), #[]⟩) ::
      ((nat_lit 360), ⟨(.type "function"), none, (.func ⟨"__check", "StringIO.__check", a11_3, (.stmts b11_3), s11_3, 3, [], .none, .none, .none, (.str "io" 203), none, (.ref 359), .none, 0⟩), #[]⟩) ::
      ((nat_lit 361), ⟨(.type "tuple"), none, (.seq #[] 0), #[]⟩) ::
      ((nat_lit 363), ⟨(.type "tuple"), none, (.seq #[(.str "self" 617)] 0), #[]⟩) ::
      ((nat_lit 364), ⟨(.type "tuple"), none, (.seq #[] 0), #[]⟩) ::
      ((nat_lit 366), ⟨(.type "code"), none, (.fields (List.toArray ((.str "__check_dot" 614) :: (.str "StringIO.__check_dot" 615) :: (.str "/claim/cut.py" 616) :: (.int 234 0) :: (.int 1 0) :: (.int 0 0) :: (.int 0 0) :: (.int 3 0) :: (.ref 361) :: (.bool true) :: (.int 181 0) :: (.ref 362) :: .none :: (.ref 363) :: (.ref 364) :: (.ref 365) :: (.int 618 0) :: (.int 234 0) :: (.str "/claim/cut.py" 619) :: []))), #[]⟩) ::
      ((nat_lit 367), ⟨(.type "function"), none, (.func ⟨"__check_dot", "StringIO.__check_dot", a11_4, (.stmts b11_4), s11_4, 3, [], .none, .none, .none, (.str "io" 203), none, (.ref 366), .none, 0⟩), #[]⟩) ::
      ((nat_lit 368), ⟨(.type "tuple"), none, (.seq #[] 0), #[]⟩) ::
      ((nat_lit 370), ⟨(.type "tuple"), none, (.seq #[(.str "self" 624), (.str "limit" 625), (.str "start" 626), (.str "stop" 627), (.str "cut" 628), (.str "newline" 629), (.str "i" 630), (.str "j" 631), (.str "end" 632)] 0), #[]⟩) ::
      ((nat_lit 371), ⟨(.type "tuple"), none, (.seq #[] 0), #[]⟩) ::
      ((nat_lit 373), ⟨(.type "code"), none, (.fields (List.toArray ((.str "__line" 621) :: (.str "StringIO.__line" 622) :: (.str "/claim/cut.py" 623) :: (.int 238 0) :: (.int 2 0) :: (.int 0 0) :: (.int 0 0) :: (.int 3 0) :: (.ref 368) :: (.bool true) :: (.int 181 0) :: (.ref 369) :: .none :: (.ref 370) :: (.ref 371) :: (.ref 372) :: (.int 633 0) :: (.int 238 0) :: (.str "/claim/cut.py" 634) :: []))), #[]⟩) ::
      ((nat_lit 374), ⟨(.type "function"), none, (.func ⟨"__line", "StringIO.__line", a11_5, (.stmts b11_5), s11_5, 3, [], .none, .none, .none, (.str "io" 203), none, (.ref 373), .none, 0⟩), #[]⟩) ::
      ((nat_lit 375), ⟨(.type "tuple"), none, (.seq #[] 0), #[]⟩) ::
      ((nat_lit 377), ⟨(.type "tuple"), none, (.seq #[(.str "self" 639)] 0), #[]⟩) ::
      ((nat_lit 378), ⟨(.type "tuple"), none, (.seq #[] 0), #[]⟩) ::
      ((nat_lit 380), ⟨(.type "code"), none, (.fields (List.toArray ((.str "closed" 636) :: (.str "StringIO.closed" 637) :: (.str "/claim/cut.py" 638) :: (.int 270 0) :: (.int 1 0) :: (.int 0 0) :: (.int 0 0) :: (.int 3 0) :: (.ref 375) :: (.bool true) :: (.int 181 0) :: (.ref 376) :: .none :: (.ref 377) :: (.ref 378) :: (.ref 379) :: (.int 640 0) :: (.int 270 0) :: (.str "/claim/cut.py" 641) :: []))), #[]⟩) ::
      ((nat_lit 381), ⟨(.type "function"), none, (.func ⟨"closed", "StringIO.closed", a11_6, (.stmts b11_6), s11_6, 3, [], .none, .none, .none, (.str "io" 203), none, (.ref 380), .none, 0⟩), #[]⟩) ::
      ((nat_lit 382), ⟨(.type "property"), none, (.fields #[(.ref 381), .none, .none, .none, (.str "closed" 643), (.bool false)]), #[]⟩) ::
      ((nat_lit 383), ⟨(.type "tuple"), none, (.seq #[] 0), #[]⟩) ::
      ((nat_lit 385), ⟨(.type "tuple"), none, (.seq #[(.str "self" 647)] 0), #[]⟩) ::
      ((nat_lit 386), ⟨(.type "tuple"), none, (.seq #[] 0), #[]⟩) ::
      ((nat_lit 388), ⟨(.type "code"), none, (.fields (List.toArray ((.str "line_buffering" 644) :: (.str "StringIO.line_buffering" 645) :: (.str "/claim/cut.py" 646) :: (.int 274 0) :: (.int 1 0) :: (.int 0 0) :: (.int 0 0) :: (.int 3 0) :: (.ref 383) :: (.bool true) :: (.int 181 0) :: (.ref 384) :: .none :: (.ref 385) :: (.ref 386) :: (.ref 387) :: (.int 648 0) :: (.int 274 0) :: (.str "/claim/cut.py" 649) :: []))), #[]⟩) ::
      ((nat_lit 389), ⟨(.type "function"), none, (.func ⟨"line_buffering", "StringIO.line_buffering", a11_7, (.stmts b11_7), s11_7, 3, [], .none, .none, .none, (.str "io" 203), none, (.ref 388), .none, 0⟩), #[]⟩) ::
      ((nat_lit 390), ⟨(.type "property"), none, (.fields #[(.ref 389), .none, .none, .none, (.str "line_buffering" 651), (.bool false)]), #[]⟩) ::
      ((nat_lit 391), ⟨(.type "tuple"), none, (.seq #[] 0), #[]⟩) ::
      ((nat_lit 393), ⟨(.type "tuple"), none, (.seq #[(.str "self" 655)] 0), #[]⟩) ::
      ((nat_lit 394), ⟨(.type "tuple"), none, (.seq #[] 0), #[]⟩) ::
      ((nat_lit 396), ⟨(.type "code"), none, (.fields (List.toArray ((.str "newlines" 652) :: (.str "StringIO.newlines" 653) :: (.str "/claim/cut.py" 654) :: (.int 278 0) :: (.int 1 0) :: (.int 0 0) :: (.int 0 0) :: (.int 3 0) :: (.ref 391) :: (.bool true) :: (.int 181 0) :: (.ref 392) :: .none :: (.ref 393) :: (.ref 394) :: (.ref 395) :: (.int 656 0) :: (.int 278 0) :: (.str "/claim/cut.py" 657) :: []))), #[]⟩) ::
      ((nat_lit 397), ⟨(.type "function"), none, (.func ⟨"newlines", "StringIO.newlines", a11_8, (.stmts b11_8), s11_8, 3, [], .none, .none, .none, (.str "io" 203), none, (.ref 396), .none, 0⟩), #[]⟩) ::
      ((nat_lit 398), ⟨(.type "property"), none, (.fields #[(.ref 397), .none, .none, .none, (.str "newlines" 659), (.bool false)]), #[]⟩) ::
      ((nat_lit 399), ⟨(.type "tuple"), none, (.seq #[] 0), #[]⟩) ::
      ((nat_lit 401), ⟨(.type "tuple"), none, (.seq #[(.str "self" 663)] 0), #[]⟩) ::
      ((nat_lit 402), ⟨(.type "tuple"), none, (.seq #[] 0), #[]⟩) ::
      ((nat_lit 404), ⟨(.type "code"), none, (.fields (List.toArray ((.str "encoding" 660) :: (.str "StringIO.encoding" 661) :: (.str "/claim/cut.py" 662) :: (.int 282 0) :: (.int 1 0) :: (.int 0 0) :: (.int 0 0) :: (.int 3 0) :: (.ref 399) :: (.bool true) :: (.int 181 0) :: (.ref 400) :: .none :: (.ref 401) :: (.ref 402) :: (.ref 403) :: (.int 664 0) :: (.int 282 0) :: (.str "/claim/cut.py" 665) :: []))), #[]⟩) ::
      ((nat_lit 405), ⟨(.type "function"), none, (.func ⟨"encoding", "StringIO.encoding", a11_9, (.stmts b11_9), s11_9, 3, [], .none, .none, .none, (.str "io" 203), none, (.ref 404), .none, 0⟩), #[]⟩) ::
      ((nat_lit 406), ⟨(.type "property"), none, (.fields #[(.ref 405), .none, .none, .none, (.str "encoding" 667), (.bool false)]), #[]⟩) ::
      ((nat_lit 407), ⟨(.type "tuple"), none, (.seq #[] 0), #[]⟩) ::
      ((nat_lit 409), ⟨(.type "tuple"), none, (.seq #[(.str "self" 671)] 0), #[]⟩) ::
      ((nat_lit 410), ⟨(.type "tuple"), none, (.seq #[] 0), #[]⟩) ::
      ((nat_lit 412), ⟨(.type "code"), none, (.fields (List.toArray ((.str "errors" 668) :: (.str "StringIO.errors" 669) :: (.str "/claim/cut.py" 670) :: (.int 286 0) :: (.int 1 0) :: (.int 0 0) :: (.int 0 0) :: (.int 3 0) :: (.ref 407) :: (.bool true) :: (.int 181 0) :: (.ref 408) :: .none :: (.ref 409) :: (.ref 410) :: (.ref 411) :: (.int 672 0) :: (.int 286 0) :: (.str "/claim/cut.py" 673) :: []))), #[]⟩) ::
      ((nat_lit 413), ⟨(.type "function"), none, (.func ⟨"errors", "StringIO.errors", a11_10, (.stmts b11_10), s11_10, 3, [], .none, .none, .none, (.str "io" 203), none, (.ref 412), .none, 0⟩), #[]⟩) ::
      ((nat_lit 414), ⟨(.type "property"), none, (.fields #[(.ref 413), .none, .none, .none, (.str "errors" 675), (.bool false)]), #[]⟩) ::
      ((nat_lit 415), ⟨(.type "tuple"), none, (.seq #[] 0), #[]⟩) ::
      ((nat_lit 417), ⟨(.type "tuple"), none, (.seq #[(.str "self" 679)] 0), #[]⟩) ::
      ((nat_lit 418), ⟨(.type "tuple"), none, (.seq #[] 0), #[]⟩) ::
      ((nat_lit 420), ⟨(.type "code"), none, (.fields (List.toArray ((.str "close" 676) :: (.str "StringIO.close" 677) :: (.str "/claim/cut.py" 678) :: (.int 290 0) :: (.int 1 0) :: (.int 0 0) :: (.int 0 0) :: (.int 3 0) :: (.ref 415) :: (.bool true) :: (.int 181 0) :: (.ref 416) :: .none :: (.ref 417) :: (.ref 418) :: (.ref 419) :: (.int 680 0) :: (.int 290 0) :: (.str "/claim/cut.py" 681) :: []))), #[]⟩) ::
      ((nat_lit 421), ⟨(.type "function"), none, (.func ⟨"close", "StringIO.close", a11_11, (.stmts b11_11), s11_11, 3, [], .none, .none, .none, (.str "io" 203), none, (.ref 420), .none, 0⟩), #[]⟩) ::
      ((nat_lit 422), ⟨(.type "tuple"), none, (.seq #[] 0), #[]⟩) ::
      ((nat_lit 424), ⟨(.type "tuple"), none, (.seq #[(.str "self" 686)] 0), #[]⟩) ::
      ((nat_lit 425), ⟨(.type "tuple"), none, (.seq #[] 0), #[]⟩) ::
      ((nat_lit 427), ⟨(.type "code"), none, (.fields (List.toArray ((.str "__enter__" 683) :: (.str "StringIO.__enter__" 684) :: (.str "/claim/cut.py" 685) :: (.int 293 0) :: (.int 1 0) :: (.int 0 0) :: (.int 0 0) :: (.int 3 0) :: (.ref 422) :: (.bool true) :: (.int 181 0) :: (.ref 423) :: .none :: (.ref 424) :: (.ref 425) :: (.ref 426) :: (.int 687 0) :: (.int 293 0) :: (.str "/claim/cut.py" 688) :: []))), #[]⟩) ::
      ((nat_lit 428), ⟨(.type "function"), none, (.func ⟨"__enter__", "StringIO.__enter__", a11_12, (.stmts b11_12), s11_12, 3, [], .none, .none, .none, (.str "io" 203), none, (.ref 427), .none, 0⟩), #[]⟩) ::
      ((nat_lit 429), ⟨(.type "tuple"), none, (.seq #[] 0), #[]⟩) ::
      ((nat_lit 431), ⟨(.type "tuple"), none, (.seq #[(.str "self" 693), (.str "args" 694)] 0), #[]⟩) ::
      ((nat_lit 432), ⟨(.type "tuple"), none, (.seq #[] 0), #[]⟩) ::
      ((nat_lit 434), ⟨(.type "code"), none, (.fields (List.toArray ((.str "__exit__" 690) :: (.str "StringIO.__exit__" 691) :: (.str "/claim/cut.py" 692) :: (.int 297 0) :: (.int 1 0) :: (.int 0 0) :: (.int 0 0) :: (.int 7 0) :: (.ref 429) :: (.bool true) :: (.int 181 0) :: (.ref 430) :: .none :: (.ref 431) :: (.ref 432) :: (.ref 433) :: (.int 695 0) :: (.int 297 0) :: (.str "/claim/cut.py" 696) :: []))), #[]⟩) ::
      ((nat_lit 435), ⟨(.type "function"), none, (.func ⟨"__exit__", "StringIO.__exit__", a11_13, (.stmts b11_13), s11_13, 3, [], .none, .none, .none, (.str "io" 203), none, (.ref 434), .none, 0⟩), #[]⟩) ::
      ((nat_lit 436), ⟨(.type "tuple"), none, (.seq #[] 0), #[]⟩) ::
      ((nat_lit 438), ⟨(.type "tuple"), none, (.seq #[(.str "self" 701)] 0), #[]⟩) ::
      ((nat_lit 439), ⟨(.type "tuple"), none, (.seq #[] 0), #[]⟩) ::
      ((nat_lit 441), ⟨(.type "code"), none, (.fields (List.toArray ((.str "readable" 698) :: (.str "StringIO.readable" 699) :: (.str "/claim/cut.py" 700) :: (.int 300 0) :: (.int 1 0) :: (.int 0 0) :: (.int 0 0) :: (.int 3 0) :: (.ref 436) :: (.bool true) :: (.int 181 0) :: (.ref 437) :: .none :: (.ref 438) :: (.ref 439) :: (.ref 440) :: (.int 702 0) :: (.int 300 0) :: (.str "/claim/cut.py" 703) :: []))), #[]⟩) ::
      ((nat_lit 442), ⟨(.type "function"), none, (.func ⟨"readable", "StringIO.readable", a11_14, (.stmts b11_14), s11_14, 3, [], .none, .none, .none, (.str "io" 203), none, (.ref 441), .none, 0⟩), #[]⟩) ::
      ((nat_lit 443), ⟨(.type "tuple"), none, (.seq #[] 0), #[]⟩) ::
      ((nat_lit 445), ⟨(.type "tuple"), none, (.seq #[(.str "self" 708)] 0), #[]⟩) ::
      ((nat_lit 446), ⟨(.type "tuple"), none, (.seq #[] 0), #[]⟩) ::
      ((nat_lit 448), ⟨(.type "code"), none, (.fields (List.toArray ((.str "writable" 705) :: (.str "StringIO.writable" 706) :: (.str "/claim/cut.py" 707) :: (.int 304 0) :: (.int 1 0) :: (.int 0 0) :: (.int 0 0) :: (.int 3 0) :: (.ref 443) :: (.bool true) :: (.int 181 0) :: (.ref 444) :: .none :: (.ref 445) :: (.ref 446) :: (.ref 447) :: (.int 709 0) :: (.int 304 0) :: (.str "/claim/cut.py" 710) :: []))), #[]⟩) ::
      ((nat_lit 449), ⟨(.type "function"), none, (.func ⟨"writable", "StringIO.writable", a11_15, (.stmts b11_15), s11_15, 3, [], .none, .none, .none, (.str "io" 203), none, (.ref 448), .none, 0⟩), #[]⟩) ::
      ((nat_lit 450), ⟨(.type "tuple"), none, (.seq #[] 0), #[]⟩) ::
      ((nat_lit 452), ⟨(.type "tuple"), none, (.seq #[(.str "self" 715)] 0), #[]⟩) ::
      ((nat_lit 453), ⟨(.type "tuple"), none, (.seq #[] 0), #[]⟩) ::
      ((nat_lit 455), ⟨(.type "code"), none, (.fields (List.toArray ((.str "seekable" 712) :: (.str "StringIO.seekable" 713) :: (.str "/claim/cut.py" 714) :: (.int 308 0) :: (.int 1 0) :: (.int 0 0) :: (.int 0 0) :: (.int 3 0) :: (.ref 450) :: (.bool true) :: (.int 181 0) :: (.ref 451) :: .none :: (.ref 452) :: (.ref 453) :: (.ref 454) :: (.int 716 0) :: (.int 308 0) :: (.str "/claim/cut.py" 717) :: []))), #[]⟩) ::
      ((nat_lit 456), ⟨(.type "function"), none, (.func ⟨"seekable", "StringIO.seekable", a11_16, (.stmts b11_16), s11_16, 3, [], .none, .none, .none, (.str "io" 203), none, (.ref 455), .none, 0⟩), #[]⟩) ::
      ((nat_lit 457), ⟨(.type "tuple"), none, (.seq #[] 0), #[]⟩) ::
      ((nat_lit 459), ⟨(.type "tuple"), none, (.seq #[(.str "self" 722)] 0), #[]⟩) ::
      ((nat_lit 460), ⟨(.type "tuple"), none, (.seq #[] 0), #[]⟩) ::
      ((nat_lit 462), ⟨(.type "code"), none, (.fields (List.toArray ((.str "isatty" 719) :: (.str "StringIO.isatty" 720) :: (.str "/claim/cut.py" 721) :: (.int 312 0) :: (.int 1 0) :: (.int 0 0) :: (.int 0 0) :: (.int 3 0) :: (.ref 457) :: (.bool true) :: (.int 181 0) :: (.ref 458) :: .none :: (.ref 459) :: (.ref 460) :: (.ref 461) :: (.int 723 0) :: (.int 312 0) :: (.str "/claim/cut.py" 724) :: []))), #[]⟩) ::
      ((nat_lit 463), ⟨(.type "function"), none, (.func ⟨"isatty", "StringIO.isatty", a11_17, (.stmts b11_17), s11_17, 3, [], .none, .none, .none, (.str "io" 203), none, (.ref 462), .none, 0⟩), #[]⟩) ::
      ((nat_lit 464), ⟨(.type "tuple"), none, (.seq #[] 0), #[]⟩) ::
      ((nat_lit 466), ⟨(.type "tuple"), none, (.seq #[(.str "self" 729)] 0), #[]⟩) ::
      ((nat_lit 467), ⟨(.type "tuple"), none, (.seq #[] 0), #[]⟩) ::
      ((nat_lit 469), ⟨(.type "code"), none, (.fields (List.toArray ((.str "flush" 726) :: (.str "StringIO.flush" 727) :: (.str "/claim/cut.py" 728) :: (.int 316 0) :: (.int 1 0) :: (.int 0 0) :: (.int 0 0) :: (.int 3 0) :: (.ref 464) :: (.bool true) :: (.int 181 0) :: (.ref 465) :: .none :: (.ref 466) :: (.ref 467) :: (.ref 468) :: (.int 730 0) :: (.int 316 0) :: (.str "/claim/cut.py" 731) :: []))), #[]⟩) ::
      ((nat_lit 470), ⟨(.type "function"), none, (.func ⟨"flush", "StringIO.flush", a11_18, (.stmts b11_18), s11_18, 3, [], .none, .none, .none, (.str "io" 203), none, (.ref 469), .none, 0⟩), #[]⟩) ::
      ((nat_lit 471), ⟨(.type "tuple"), none, (.seq #[] 0), #[]⟩) ::
      ((nat_lit 473), ⟨(.type "tuple"), none, (.seq #[(.str "self" 736)] 0), #[]⟩) ::
      ((nat_lit 474), ⟨(.type "tuple"), none, (.seq #[] 0), #[]⟩) ::
      ((nat_lit 476), ⟨(.type "code"), none, (.fields (List.toArray ((.str "fileno" 733) :: (.str "StringIO.fileno" 734) :: (.str "/claim/cut.py" 735) :: (.int 319 0) :: (.int 1 0) :: (.int 0 0) :: (.int 0 0) :: (.int 3 0) :: (.ref 471) :: (.bool true) :: (.int 181 0) :: (.ref 472) :: .none :: (.ref 473) :: (.ref 474) :: (.ref 475) :: (.int 737 0) :: (.int 319 0) :: (.str "/claim/cut.py" 738) :: []))), #[]⟩) ::
      ((nat_lit 477), ⟨(.type "function"), none, (.func ⟨"fileno", "StringIO.fileno", a11_19, (.stmts b11_19), s11_19, 3, [], .none, .none, .none, (.str "io" 203), none, (.ref 476), .none, 0⟩), #[]⟩) ::
      ((nat_lit 478), ⟨(.type "tuple"), none, (.seq #[] 0), #[]⟩) ::
      ((nat_lit 480), ⟨(.type "tuple"), none, (.seq #[(.str "self" 743)] 0), #[]⟩) ::
      ((nat_lit 481), ⟨(.type "tuple"), none, (.seq #[] 0), #[]⟩) ::
      ((nat_lit 483), ⟨(.type "code"), none, (.fields (List.toArray ((.str "detach" 740) :: (.str "StringIO.detach" 741) :: (.str "/claim/cut.py" 742) :: (.int 322 0) :: (.int 1 0) :: (.int 0 0) :: (.int 0 0) :: (.int 3 0) :: (.ref 478) :: (.bool true) :: (.int 181 0) :: (.ref 479) :: .none :: (.ref 480) :: (.ref 481) :: (.ref 482) :: (.int 744 0) :: (.int 322 0) :: (.str "/claim/cut.py" 745) :: []))), #[]⟩) ::
      ((nat_lit 484), ⟨(.type "function"), none, (.func ⟨"detach", "StringIO.detach", a11_20, (.stmts b11_20), s11_20, 3, [], .none, .none, .none, (.str "io" 203), none, (.ref 483), .none, 0⟩), #[]⟩) ::
      ((nat_lit 485), ⟨(.type "tuple"), none, (.seq #[] 0), #[]⟩) ::
      ((nat_lit 487), ⟨(.type "tuple"), none, (.seq #[(.str "self" 750)] 0), #[]⟩) ::
      ((nat_lit 488), ⟨(.type "tuple"), none, (.seq #[] 0), #[]⟩) ::
      ((nat_lit 490), ⟨(.type "code"), none, (.fields (List.toArray ((.str "getvalue" 747) :: (.str "StringIO.getvalue" 748) :: (.str "/claim/cut.py" 749) :: (.int 325 0) :: (.int 1 0) :: (.int 0 0) :: (.int 0 0) :: (.int 3 0) :: (.ref 485) :: (.bool true) :: (.int 181 0) :: (.ref 486) :: .none :: (.ref 487) :: (.ref 488) :: (.ref 489) :: (.int 751 0) :: (.int 325 0) :: (.str "/claim/cut.py" 752) :: []))), #[]⟩) ::
      ((nat_lit 491), ⟨(.type "function"), none, (.func ⟨"getvalue", "StringIO.getvalue", a11_21, (.stmts b11_21), s11_21, 3, [], .none, .none, .none, (.str "io" 203), none, (.ref 490), .none, 0⟩), #[]⟩) ::
      ((nat_lit 492), ⟨(.type "tuple"), none, (.seq #[] 0), #[]⟩) ::
      ((nat_lit 494), ⟨(.type "tuple"), none, (.seq #[(.str "self" 757)] 0), #[]⟩) ::
      ((nat_lit 495), ⟨(.type "tuple"), none, (.seq #[] 0), #[]⟩) ::
      ((nat_lit 497), ⟨(.type "code"), none, (.fields (List.toArray ((.str "tell" 754) :: (.str "StringIO.tell" 755) :: (.str "/claim/cut.py" 756) :: (.int 328 0) :: (.int 1 0) :: (.int 0 0) :: (.int 0 0) :: (.int 3 0) :: (.ref 492) :: (.bool true) :: (.int 181 0) :: (.ref 493) :: .none :: (.ref 494) :: (.ref 495) :: (.ref 496) :: (.int 758 0) :: (.int 328 0) :: (.str "/claim/cut.py" 759) :: []))), #[]⟩) ::
      ((nat_lit 498), ⟨(.type "function"), none, (.func ⟨"tell", "StringIO.tell", a11_22, (.stmts b11_22), s11_22, 3, [], .none, .none, .none, (.str "io" 203), none, (.ref 497), .none, 0⟩), #[]⟩) ::
      ((nat_lit 499), ⟨(.type "tuple"), none, (.seq #[(.int 0 761)] 0), #[]⟩) ::
      ((nat_lit 500), ⟨(.type "tuple"), none, (.seq #[] 0), #[]⟩) ::
      ((nat_lit 502), ⟨(.type "tuple"), none, (.seq #[(.str "self" 765), (.str "pos" 766), (.str "whence" 767)] 0), #[]⟩) ::
      ((nat_lit 503), ⟨(.type "tuple"), none, (.seq #[] 0), #[]⟩) ::
      ((nat_lit 505), ⟨(.type "code"), none, (.fields (List.toArray ((.str "seek" 762) :: (.str "StringIO.seek" 763) :: (.str "/claim/cut.py" 764) :: (.int 332 0) :: (.int 3 0) :: (.int 3 0) :: (.int 0 0) :: (.int 3 0) :: (.ref 500) :: (.bool true) :: (.int 181 0) :: (.ref 501) :: .none :: (.ref 502) :: (.ref 503) :: (.ref 504) :: (.int 768 0) :: (.int 332 0) :: (.str "/claim/cut.py" 769) :: []))), #[]⟩) ::
      ((nat_lit 506), ⟨(.type "function"), none, (.func ⟨"seek", "StringIO.seek", a11_23, (.stmts b11_23), s11_23, 3, [], (.ref 499), .none, .none, (.str "io" 203), none, (.ref 505), .none, 0⟩), #[]⟩) ::
      ((nat_lit 507), ⟨(.type "tuple"), none, (.seq #[.none] 0), #[]⟩) ::
      ((nat_lit 508), ⟨(.type "tuple"), none, (.seq #[] 0), #[]⟩) ::
      ((nat_lit 510), ⟨(.type "tuple"), none, (.seq #[(.str "self" 774), (.str "pos" 775)] 0), #[]⟩) ::
      ((nat_lit 511), ⟨(.type "tuple"), none, (.seq #[] 0), #[]⟩) ::
      ((nat_lit 513), ⟨(.type "code"), none, (.fields (List.toArray ((.str "truncate" 771) :: (.str "StringIO.truncate" 772) :: (.str "/claim/cut.py" 773) :: (.int 349 0) :: (.int 2 0) :: (.int 2 0) :: (.int 0 0) :: (.int 3 0) :: (.ref 508) :: (.bool true) :: (.int 181 0) :: (.ref 509) :: .none :: (.ref 510) :: (.ref 511) :: (.ref 512) :: (.int 776 0) :: (.int 349 0) :: (.str "/claim/cut.py" 777) :: []))), #[]⟩) ::
      ((nat_lit 514), ⟨(.type "function"), none, (.func ⟨"truncate", "StringIO.truncate", a11_24, (.stmts b11_24), s11_24, 3, [], (.ref 507), .none, .none, (.str "io" 203), none, (.ref 513), .none, 0⟩), #[]⟩) ::
      ((nat_lit 515), ⟨(.type "tuple"), none, (.seq #[(.int (-1) 780)] 0), #[]⟩) ::
      ((nat_lit 516), ⟨(.type "tuple"), none, (.seq #[] 0), #[]⟩) ::
      ((nat_lit 518), ⟨(.type "tuple"), none, (.seq #[(.str "self" 784), (.str "size" 785), (.str "start" 786), (.str "stop" 787)] 0), #[]⟩) ::
      ((nat_lit 519), ⟨(.type "tuple"), none, (.seq #[] 0), #[]⟩) ::
      ((nat_lit 521), ⟨(.type "code"), none, (.fields (List.toArray ((.str "read" 781) :: (.str "StringIO.read" 782) :: (.str "/claim/cut.py" 783) :: (.int 352 0) :: (.int 2 0) :: (.int 2 0) :: (.int 0 0) :: (.int 3 0) :: (.ref 516) :: (.bool true) :: (.int 181 0) :: (.ref 517) :: .none :: (.ref 518) :: (.ref 519) :: (.ref 520) :: (.int 788 0) :: (.int 352 0) :: (.str "/claim/cut.py" 789) :: []))), #[]⟩) ::
      ((nat_lit 522), ⟨(.type "function"), none, (.func ⟨"read", "StringIO.read", a11_25, (.stmts b11_25), s11_25, 3, [], (.ref 515), .none, .none, (.str "io" 203), none, (.ref 521), .none, 0⟩), #[]⟩) ::
      ((nat_lit 523), ⟨(.type "tuple"), none, (.seq #[(.int (-1) 792)] 0), #[]⟩) ::
      ((nat_lit 524), ⟨(.type "tuple"), none, (.seq #[] 0), #[]⟩) ::
      ((nat_lit 526), ⟨(.type "tuple"), none, (.seq #[(.str "self" 796), (.str "size" 797)] 0), #[]⟩) ::
      ((nat_lit 527), ⟨(.type "tuple"), none, (.seq #[] 0), #[]⟩) ::
      ((nat_lit 529), ⟨(.type "code"), none, (.fields (List.toArray ((.str "readline" 793) :: (.str "StringIO.readline" 794) :: (.str "/claim/cut.py" 795) :: (.int 366 0) :: (.int 2 0) :: (.int 2 0) :: (.int 0 0) :: (.int 3 0) :: (.ref 524) :: (.bool true) :: (.int 181 0) :: (.ref 525) :: .none :: (.ref 526) :: (.ref 527) :: (.ref 528) :: (.int 798 0) :: (.int 366 0) :: (.str "/claim/cut.py" 799) :: []))), #[]⟩) ::
      ((nat_lit 530), ⟨(.type "function"), none, (.func ⟨"readline", "StringIO.readline", a11_26, (.stmts b11_26), s11_26, 3, [], (.ref 523), .none, .none, (.str "io" 203), none, (.ref 529), .none, 0⟩), #[]⟩) ::
      ((nat_lit 531), ⟨(.type "tuple"), none, (.seq #[(.int (-1) 802)] 0), #[]⟩) ::
      ((nat_lit 532), ⟨(.type "tuple"), none, (.seq #[] 0), #[]⟩) ::
      ((nat_lit 534), ⟨(.type "tuple"), none, (.seq #[(.str "self" 806), (.str "hint" 807)] 0), #[]⟩) ::
      ((nat_lit 535), ⟨(.type "tuple"), none, (.seq #[] 0), #[]⟩) ::
      ((nat_lit 537), ⟨(.type "code"), none, (.fields (List.toArray ((.str "readlines" 803) :: (.str "StringIO.readlines" 804) :: (.str "/claim/cut.py" 805) :: (.int 373 0) :: (.int 2 0) :: (.int 2 0) :: (.int 0 0) :: (.int 3 0) :: (.ref 532) :: (.bool true) :: (.int 181 0) :: (.ref 533) :: .none :: (.ref 534) :: (.ref 535) :: (.ref 536) :: (.int 808 0) :: (.int 373 0) :: (.str "/claim/cut.py" 809) :: []))), #[]⟩) ::
      ((nat_lit 538), ⟨(.type "function"), none, (.func ⟨"readlines", "StringIO.readlines", a11_27, (.stmts b11_27), s11_27, 3, [], (.ref 531), .none, .none, (.str "io" 203), none, (.ref 537), .none, 0⟩), #[]⟩) ::
      ((nat_lit 539), ⟨(.type "tuple"), none, (.seq #[] 0), #[]⟩) ::
      ((nat_lit 541), ⟨(.type "tuple"), none, (.seq #[(.str "self" 814)] 0), #[]⟩) ::
      ((nat_lit 542), ⟨(.type "tuple"), none, (.seq #[] 0), #[]⟩) ::
      ((nat_lit 544), ⟨(.type "code"), none, (.fields (List.toArray ((.str "__iter__" 811) :: (.str "StringIO.__iter__" 812) :: (.str "/claim/cut.py" 813) :: (.int 376 0) :: (.int 1 0) :: (.int 0 0) :: (.int 0 0) :: (.int 3 0) :: (.ref 539) :: (.bool true) :: (.int 181 0) :: (.ref 540) :: .none :: (.ref 541) :: (.ref 542) :: (.ref 543) :: (.int 815 0) :: (.int 376 0) :: (.str "/claim/cut.py" 816) :: []))), #[]⟩) ::
      ((nat_lit 545), ⟨(.type "function"), none, (.func ⟨"__iter__", "StringIO.__iter__", a11_28, (.stmts b11_28), s11_28, 3, [], .none, .none, .none, (.str "io" 203), none, (.ref 544), .none, 0⟩), #[]⟩) ::
      ((nat_lit 546), ⟨(.type "tuple"), none, (.seq #[] 0), #[]⟩) ::
      ((nat_lit 548), ⟨(.type "tuple"), none, (.seq #[(.str "self" 821), (.str "line" 822)] 0), #[]⟩) ::
      ((nat_lit 549), ⟨(.type "tuple"), none, (.seq #[] 0), #[]⟩) ::
      ((nat_lit 551), ⟨(.type "code"), none, (.fields (List.toArray ((.str "__next__" 818) :: (.str "StringIO.__next__" 819) :: (.str "/claim/cut.py" 820) :: (.int 380 0) :: (.int 1 0) :: (.int 0 0) :: (.int 0 0) :: (.int 3 0) :: (.ref 546) :: (.bool true) :: (.int 181 0) :: (.ref 547) :: .none :: (.ref 548) :: (.ref 549) :: (.ref 550) :: (.int 823 0) :: (.int 380 0) :: (.str "/claim/cut.py" 824) :: []))), #[]⟩) ::
      ((nat_lit 552), ⟨(.type "function"), none, (.func ⟨"__next__", "StringIO.__next__", a11_29, (.stmts b11_29), s11_29, 3, [], .none, .none, .none, (.str "io" 203), none, (.ref 551), .none, 0⟩), #[]⟩) ::
      ((nat_lit 553), ⟨(.type "tuple"), none, (.seq #[] 0), #[]⟩) ::
      ((nat_lit 555), ⟨(.type "tuple"), none, (.seq #[(.str "self" 829), (.str "s" 830), (.str "n" 831), (.str "m" 832), (.str "start" 833), (.str "buf" 834)] 0), #[]⟩) ::
      ((nat_lit 556), ⟨(.type "tuple"), none, (.seq #[] 0), #[]⟩) ::
      ((nat_lit 558), ⟨(.type "code"), none, (.fields (List.toArray ((.str "write" 826) :: (.str "StringIO.write" 827) :: (.str "/claim/cut.py" 828) :: (.int 387 0) :: (.int 2 0) :: (.int 2 0) :: (.int 0 0) :: (.int 3 0) :: (.ref 553) :: (.bool true) :: (.int 181 0) :: (.ref 554) :: .none :: (.ref 555) :: (.ref 556) :: (.ref 557) :: (.int 835 0) :: (.int 387 0) :: (.str "/claim/cut.py" 836) :: []))), #[]⟩) ::
      ((nat_lit 559), ⟨(.type "function"), none, (.func ⟨"write", "StringIO.write", a11_30, (.stmts b11_30), s11_30, 3, [], .none, .none, .none, (.str "io" 203), none, (.ref 558), .none, 0⟩), #[]⟩) ::
      ((nat_lit 560), ⟨(.type "tuple"), none, (.seq #[] 0), #[]⟩) ::
      ((nat_lit 562), ⟨(.type "tuple"), none, (.seq #[(.str "self" 841), (.str "lines" 842)] 0), #[]⟩) ::
      ((nat_lit 563), ⟨(.type "tuple"), none, (.seq #[] 0), #[]⟩) ::
      ((nat_lit 565), ⟨(.type "code"), none, (.fields (List.toArray ((.str "writelines" 838) :: (.str "StringIO.writelines" 839) :: (.str "/claim/cut.py" 840) :: (.int 406 0) :: (.int 2 0) :: (.int 2 0) :: (.int 0 0) :: (.int 3 0) :: (.ref 560) :: (.bool true) :: (.int 181 0) :: (.ref 561) :: .none :: (.ref 562) :: (.ref 563) :: (.ref 564) :: (.int 843 0) :: (.int 406 0) :: (.str "/claim/cut.py" 844) :: []))), #[]⟩) ::
      ((nat_lit 566), ⟨(.type "function"), none, (.func ⟨"writelines", "StringIO.writelines", a11_31, (.stmts b11_31), s11_31, 3, [], .none, .none, .none, (.str "io" 203), none, (.ref 565), .none, 0⟩), #[]⟩) ::
      ((nat_lit 567), ⟨(.type "tuple"), none, (.seq #[] 0), #[]⟩) ::
      ((nat_lit 569), ⟨(.type "tuple"), none, (.seq #[(.str "self" 849)] 0), #[]⟩) ::
      ((nat_lit 570), ⟨(.type "tuple"), none, (.seq #[] 0), #[]⟩) ::
      ((nat_lit 572), ⟨(.type "code"), none, (.fields (List.toArray ((.str "__repr__" 846) :: (.str "StringIO.__repr__" 847) :: (.str "/claim/cut.py" 848) :: (.int 409 0) :: (.int 1 0) :: (.int 0 0) :: (.int 0 0) :: (.int 3 0) :: (.ref 567) :: (.bool true) :: (.int 181 0) :: (.ref 568) :: .none :: (.ref 569) :: (.ref 570) :: (.ref 571) :: (.int 850 0) :: (.int 409 0) :: (.str "/claim/cut.py" 851) :: []))), #[]⟩) ::
      ((nat_lit 573), ⟨(.type "function"), none, (.func ⟨"__repr__", "StringIO.__repr__", a11_32, (.stmts b11_32), s11_32, 3, [], .none, .none, .none, (.str "io" 203), none, (.ref 572), .none, 0⟩), #[]⟩) ::
      ((nat_lit 574), ⟨(.type "tuple"), none, (.seq #[(.str "__buf" 853), (.str "__newline" 854), (.str "__pos" 855)] 0), #[]⟩) ::
      ((nat_lit 575), ⟨(.type "dict"), none, (.dict (List.toArray (⟨(PyData.keyHash P "__module__"), (.str "__module__" 580), (.str "_io" 585)⟩ :: ⟨(PyData.keyHash P "__firstlineno__"), (.str "__firstlineno__" 584), (.int 206 583)⟩ :: ⟨(PyData.keyHash P "__init__"), (.str "__init__" 597), (.ref 346)⟩ :: ⟨(PyData.keyHash P "_StringIO__translated"), (.str "_StringIO__translated" 606), (.ref 353)⟩ :: ⟨(PyData.keyHash P "_StringIO__check"), (.str "_StringIO__check" 613), (.ref 360)⟩ :: ⟨(PyData.keyHash P "_StringIO__check_dot"), (.str "_StringIO__check_dot" 620), (.ref 367)⟩ :: ⟨(PyData.keyHash P "_StringIO__line"), (.str "_StringIO__line" 635), (.ref 374)⟩ :: ⟨(PyData.keyHash P "closed"), (.str "closed" 643), (.ref 382)⟩ :: ⟨(PyData.keyHash P "line_buffering"), (.str "line_buffering" 651), (.ref 390)⟩ :: ⟨(PyData.keyHash P "newlines"), (.str "newlines" 659), (.ref 398)⟩ :: ⟨(PyData.keyHash P "encoding"), (.str "encoding" 667), (.ref 406)⟩ :: ⟨(PyData.keyHash P "errors"), (.str "errors" 675), (.ref 414)⟩ :: ⟨(PyData.keyHash P "close"), (.str "close" 682), (.ref 421)⟩ :: ⟨(PyData.keyHash P "__enter__"), (.str "__enter__" 689), (.ref 428)⟩ :: ⟨(PyData.keyHash P "__exit__"), (.str "__exit__" 697), (.ref 435)⟩ :: ⟨(PyData.keyHash P "readable"), (.str "readable" 704), (.ref 442)⟩ :: ⟨(PyData.keyHash P "writable"), (.str "writable" 711), (.ref 449)⟩ :: ⟨(PyData.keyHash P "seekable"), (.str "seekable" 718), (.ref 456)⟩ :: ⟨(PyData.keyHash P "isatty"), (.str "isatty" 725), (.ref 463)⟩ :: ⟨(PyData.keyHash P "flush"), (.str "flush" 732), (.ref 470)⟩ :: ⟨(PyData.keyHash P "fileno"), (.str "fileno" 739), (.ref 477)⟩ :: ⟨(PyData.keyHash P "detach"), (.str "detach" 746), (.ref 484)⟩ :: ⟨(PyData.keyHash P "getvalue"), (.str "getvalue" 753), (.ref 491)⟩ :: ⟨(PyData.keyHash P "tell"), (.str "tell" 760), (.ref 498)⟩ :: ⟨(PyData.keyHash P "seek"), (.str "seek" 770), (.ref 506)⟩ :: ⟨(PyData.keyHash P "truncate"), (.str "truncate" 778), (.ref 514)⟩ :: ⟨(PyData.keyHash P "read"), (.str "read" 790), (.ref 522)⟩ :: ⟨(PyData.keyHash P "readline"), (.str "readline" 800), (.ref 530)⟩ :: ⟨(PyData.keyHash P "readlines"), (.str "readlines" 810), (.ref 538)⟩ :: ⟨(PyData.keyHash P "__iter__"), (.str "__iter__" 817), (.ref 545)⟩ :: ⟨(PyData.keyHash P "__next__"), (.str "__next__" 825), (.ref 552)⟩ :: ⟨(PyData.keyHash P "write"), (.str "write" 837), (.ref 559)⟩ :: ⟨(PyData.keyHash P "writelines"), (.str "writelines" 845), (.ref 566)⟩ :: ⟨(PyData.keyHash P "__repr__"), (.str "__repr__" 852), (.ref 573)⟩ :: ⟨(PyData.keyHash P "__static_attributes__"), (.str "__static_attributes__" 856), (.ref 574)⟩ :: ⟨(PyData.keyHash P "__doc__"), (.str "__doc__" 857), .none⟩ :: [])) 2), #[]⟩) ::
      ((nat_lit 576), ⟨(.type "type"), none, (.cls ⟨"StringIO", [(.ref 99)], [(.ref 576), (.ref 99), (.ref 72), (.type "object")], 575, "StringIO", true, [], [], false, none, false⟩), #[(some (.ref 332)), none, (some (.str "StringIO" 573)), (some (.str "StringIO" 581)), (some .none), (some (.bool true))]⟩) ::
      ((nat_lit 579), ⟨(.type "tuple"), none, (.seq #[] 0), #[]⟩) ::
      ((nat_lit 581), ⟨(.type "tuple"), none, (.seq #[(.str "environ" 865)] 0), #[]⟩) ::
      ((nat_lit 582), ⟨(.type "tuple"), none, (.seq #[] 0), #[]⟩) ::
      ((nat_lit 584), ⟨(.type "code"), none, (.fields (List.toArray ((.str "setup_testing_defaults" 862) :: (.str "setup_testing_defaults" 863) :: (.str "/claim/cut.py" 864) :: (.int 412 0) :: (.int 1 0) :: (.int 0 0) :: (.int 0 0) :: (.int 3 0) :: (.ref 579) :: (.bool true) :: (.int 181 0) :: (.ref 580) :: .none :: (.ref 581) :: (.ref 582) :: (.ref 583) :: (.int 866 0) :: (.int 412 0) :: (.str "/claim/cut.py" 867) :: []))), #[]⟩) ::
      ((nat_lit 585), ⟨(.type "function"), none, (.func ⟨"setup_testing_defaults", "setup_testing_defaults", a13, (.stmts b13), s13, 3, [], .none, .none, .none, (.str "cpy313.wsgiref.util" 860), none, (.ref 584), .none, 0⟩), #[]⟩) ::
      ((nat_lit 586), ⟨(.type "tuple"), none, (.seq #[] 0), #[]⟩) ::
      ((nat_lit 588), ⟨(.type "tuple"), none, (.seq #[(.str "row" 874), (.str "name" 875), (.str "key" 876), (.str "value" 877)] 0), #[]⟩) ::
      ((nat_lit 589), ⟨(.type "tuple"), none, (.seq #[] 0), #[]⟩) ::
      ((nat_lit 591), ⟨(.type "code"), none, (.fields (List.toArray ((.str "_law_value" 871) :: (.str "_law_value" 872) :: (.str "/claim/cut.py" 873) :: (.int 433 0) :: (.int 2 0) :: (.int 0 0) :: (.int 0 0) :: (.int 3 0) :: (.ref 586) :: (.bool true) :: (.int 181 0) :: (.ref 587) :: .none :: (.ref 588) :: (.ref 589) :: (.ref 590) :: (.int 878 0) :: (.int 433 0) :: (.str "/claim/cut.py" 879) :: []))), #[]⟩) ::
      ((nat_lit 592), ⟨(.type "function"), none, (.func ⟨"_law_value", "_law_value", a15, (.stmts b15), s15, 3, [], .none, .none, .none, (.str "law_kn0093_02" 869), none, (.ref 591), .none, 0⟩), #[]⟩) ::
      ((nat_lit 593), ⟨(.type "tuple"), none, (.seq #[] 0), #[]⟩) ::
      ((nat_lit 596), ⟨(.type "code"), none, (.fields (List.toArray ((.str "_law_laid" 881) :: (.str "_law_laid" 882) :: (.str "/claim/cut.py" 883) :: (.int 438 0) :: (.int 2 0) :: (.int 0 0) :: (.int 0 0) :: (.int 3 0) :: (.ref 593) :: (.bool true) :: (.int 181 0) :: (.ref 594) :: .none :: .none :: .none :: (.ref 595) :: (.int 884 0) :: (.int 438 0) :: (.str "/claim/cut.py" 885) :: []))), #[]⟩) ::
      ((nat_lit 597), ⟨(.type "function"), none, (.func ⟨"_law_laid", "_law_laid", a16, (.stmts b16), s16, 3, [], .none, .none, .none, (.str "law_kn0093_02" 869), none, (.ref 596), .none, 0⟩), #[]⟩) ::
      ((nat_lit 598), ⟨(.type "tuple"), none, (.seq #[] 0), #[]⟩) ::
      ((nat_lit 601), ⟨(.type "code"), none, (.fields (List.toArray ((.str "law" 887) :: (.str "law" 888) :: (.str "/claim/cut.py" 889) :: (.int 458 0) :: (.int 1 0) :: (.int 0 0) :: (.int 0 0) :: (.int 3 0) :: (.ref 598) :: (.bool true) :: (.int 181 0) :: (.ref 599) :: .none :: .none :: .none :: (.ref 600) :: (.int 890 0) :: (.int 458 0) :: (.str "/claim/cut.py" 891) :: []))), #[]⟩) ::
      ((nat_lit 602), ⟨(.type "function"), none, (.func ⟨"law", "law", a17, (.stmts b17), s17, 3, [], .none, .none, .none, (.str "law_kn0093_02" 869), none, (.ref 601), .none, 0⟩), #[]⟩) :: [])
  all_goals first | (show _ = _; conv => rhs; whnf) | skip
noncomputable abbrev heapAs : List Nat := (nat_lit 2) :: (nat_lit 3) :: (nat_lit 15) :: (nat_lit 17) :: (nat_lit 18) :: (nat_lit 20) :: (nat_lit 21) :: (nat_lit 22) :: (nat_lit 24) :: (nat_lit 25) :: (nat_lit 27) :: (nat_lit 28) :: (nat_lit 29) :: (nat_lit 31) :: (nat_lit 32) :: (nat_lit 34) :: (nat_lit 35) :: (nat_lit 36) :: (nat_lit 38) :: (nat_lit 39) :: (nat_lit 41) :: (nat_lit 42) :: (nat_lit 43) :: (nat_lit 50) :: (nat_lit 51) :: (nat_lit 52) :: (nat_lit 53) :: (nat_lit 63) :: (nat_lit 65) :: (nat_lit 66) :: (nat_lit 68) :: (nat_lit 69) :: (nat_lit 70) :: (nat_lit 71) :: (nat_lit 72) :: (nat_lit 73) :: (nat_lit 74) :: (nat_lit 75) :: (nat_lit 78) :: (nat_lit 85) :: (nat_lit 86) :: (nat_lit 87) :: (nat_lit 90) :: (nat_lit 97) :: (nat_lit 98) :: (nat_lit 99) :: (nat_lit 102) :: (nat_lit 109) :: (nat_lit 110) :: (nat_lit 112) :: (nat_lit 113) :: (nat_lit 115) :: (nat_lit 116) :: (nat_lit 117) :: (nat_lit 119) :: (nat_lit 120) :: (nat_lit 122) :: (nat_lit 123) :: (nat_lit 124) :: (nat_lit 126) :: (nat_lit 127) :: (nat_lit 129) :: (nat_lit 130) :: (nat_lit 131) :: (nat_lit 133) :: (nat_lit 134) :: (nat_lit 136) :: (nat_lit 137) :: (nat_lit 138) :: (nat_lit 139) :: (nat_lit 141) :: (nat_lit 142) :: (nat_lit 144) :: (nat_lit 145) :: (nat_lit 146) :: (nat_lit 148) :: (nat_lit 149) :: (nat_lit 151) :: (nat_lit 152) :: (nat_lit 153) :: (nat_lit 155) :: (nat_lit 156) :: (nat_lit 158) :: (nat_lit 159) :: (nat_lit 160) :: (nat_lit 162) :: (nat_lit 163) :: (nat_lit 165) :: (nat_lit 166) :: (nat_lit 167) :: (nat_lit 169) :: (nat_lit 170) :: (nat_lit 172) :: (nat_lit 173) :: (nat_lit 174) :: (nat_lit 176) :: (nat_lit 177) :: (nat_lit 179) :: (nat_lit 180) :: (nat_lit 181) :: (nat_lit 183) :: (nat_lit 184) :: (nat_lit 186) :: (nat_lit 187) :: (nat_lit 188) :: (nat_lit 190) :: (nat_lit 191) :: (nat_lit 193) :: (nat_lit 194) :: (nat_lit 195) :: (nat_lit 197) :: (nat_lit 198) :: (nat_lit 200) :: (nat_lit 201) :: (nat_lit 202) :: (nat_lit 204) :: (nat_lit 205) :: (nat_lit 207) :: (nat_lit 208) :: (nat_lit 209) :: (nat_lit 211) :: (nat_lit 212) :: (nat_lit 214) :: (nat_lit 215) :: (nat_lit 216) :: (nat_lit 218) :: (nat_lit 219) :: (nat_lit 221) :: (nat_lit 222) :: (nat_lit 223) :: (nat_lit 225) :: (nat_lit 226) :: (nat_lit 228) :: (nat_lit 229) :: (nat_lit 230) :: (nat_lit 231) :: (nat_lit 233) :: (nat_lit 234) :: (nat_lit 236) :: (nat_lit 237) :: (nat_lit 238) :: (nat_lit 239) :: (nat_lit 241) :: (nat_lit 242) :: (nat_lit 244) :: (nat_lit 245) :: (nat_lit 246) :: (nat_lit 247) :: (nat_lit 249) :: (nat_lit 250) :: (nat_lit 252) :: (nat_lit 253) :: (nat_lit 254) :: (nat_lit 255) :: (nat_lit 257) :: (nat_lit 258) :: (nat_lit 260) :: (nat_lit 261) :: (nat_lit 262) :: (nat_lit 264) :: (nat_lit 265) :: (nat_lit 267) :: (nat_lit 268) :: (nat_lit 269) :: (nat_lit 271) :: (nat_lit 272) :: (nat_lit 274) :: (nat_lit 275) :: (nat_lit 276) :: (nat_lit 277) :: (nat_lit 279) :: (nat_lit 280) :: (nat_lit 282) :: (nat_lit 283) :: (nat_lit 284) :: (nat_lit 285) :: (nat_lit 287) :: (nat_lit 288) :: (nat_lit 290) :: (nat_lit 291) :: (nat_lit 292) :: (nat_lit 294) :: (nat_lit 295) :: (nat_lit 297) :: (nat_lit 298) :: (nat_lit 299) :: (nat_lit 301) :: (nat_lit 302) :: (nat_lit 304) :: (nat_lit 305) :: (nat_lit 306) :: (nat_lit 308) :: (nat_lit 309) :: (nat_lit 311) :: (nat_lit 312) :: (nat_lit 313) :: (nat_lit 315) :: (nat_lit 316) :: (nat_lit 318) :: (nat_lit 319) :: (nat_lit 320) :: (nat_lit 322) :: (nat_lit 323) :: (nat_lit 325) :: (nat_lit 326) :: (nat_lit 327) :: (nat_lit 328) :: (nat_lit 329) :: (nat_lit 332) :: (nat_lit 339) :: (nat_lit 340) :: (nat_lit 342) :: (nat_lit 343) :: (nat_lit 345) :: (nat_lit 346) :: (nat_lit 347) :: (nat_lit 349) :: (nat_lit 350) :: (nat_lit 352) :: (nat_lit 353) :: (nat_lit 354) :: (nat_lit 356) :: (nat_lit 357) :: (nat_lit 359) :: (nat_lit 360) :: (nat_lit 361) :: (nat_lit 363) :: (nat_lit 364) :: (nat_lit 366) :: (nat_lit 367) :: (nat_lit 368) :: (nat_lit 370) :: (nat_lit 371) :: (nat_lit 373) :: (nat_lit 374) :: (nat_lit 375) :: (nat_lit 377) :: (nat_lit 378) :: (nat_lit 380) :: (nat_lit 381) :: (nat_lit 382) :: (nat_lit 383) :: (nat_lit 385) :: (nat_lit 386) :: (nat_lit 388) :: (nat_lit 389) :: (nat_lit 390) :: (nat_lit 391) :: (nat_lit 393) :: (nat_lit 394) :: (nat_lit 396) :: (nat_lit 397) :: (nat_lit 398) :: (nat_lit 399) :: (nat_lit 401) :: (nat_lit 402) :: (nat_lit 404) :: (nat_lit 405) :: (nat_lit 406) :: (nat_lit 407) :: (nat_lit 409) :: (nat_lit 410) :: (nat_lit 412) :: (nat_lit 413) :: (nat_lit 414) :: (nat_lit 415) :: (nat_lit 417) :: (nat_lit 418) :: (nat_lit 420) :: (nat_lit 421) :: (nat_lit 422) :: (nat_lit 424) :: (nat_lit 425) :: (nat_lit 427) :: (nat_lit 428) :: (nat_lit 429) :: (nat_lit 431) :: (nat_lit 432) :: (nat_lit 434) :: (nat_lit 435) :: (nat_lit 436) :: (nat_lit 438) :: (nat_lit 439) :: (nat_lit 441) :: (nat_lit 442) :: (nat_lit 443) :: (nat_lit 445) :: (nat_lit 446) :: (nat_lit 448) :: (nat_lit 449) :: (nat_lit 450) :: (nat_lit 452) :: (nat_lit 453) :: (nat_lit 455) :: (nat_lit 456) :: (nat_lit 457) :: (nat_lit 459) :: (nat_lit 460) :: (nat_lit 462) :: (nat_lit 463) :: (nat_lit 464) :: (nat_lit 466) :: (nat_lit 467) :: (nat_lit 469) :: (nat_lit 470) :: (nat_lit 471) :: (nat_lit 473) :: (nat_lit 474) :: (nat_lit 476) :: (nat_lit 477) :: (nat_lit 478) :: (nat_lit 480) :: (nat_lit 481) :: (nat_lit 483) :: (nat_lit 484) :: (nat_lit 485) :: (nat_lit 487) :: (nat_lit 488) :: (nat_lit 490) :: (nat_lit 491) :: (nat_lit 492) :: (nat_lit 494) :: (nat_lit 495) :: (nat_lit 497) :: (nat_lit 498) :: (nat_lit 499) :: (nat_lit 500) :: (nat_lit 502) :: (nat_lit 503) :: (nat_lit 505) :: (nat_lit 506) :: (nat_lit 507) :: (nat_lit 508) :: (nat_lit 510) :: (nat_lit 511) :: (nat_lit 513) :: (nat_lit 514) :: (nat_lit 515) :: (nat_lit 516) :: (nat_lit 518) :: (nat_lit 519) :: (nat_lit 521) :: (nat_lit 522) :: (nat_lit 523) :: (nat_lit 524) :: (nat_lit 526) :: (nat_lit 527) :: (nat_lit 529) :: (nat_lit 530) :: (nat_lit 531) :: (nat_lit 532) :: (nat_lit 534) :: (nat_lit 535) :: (nat_lit 537) :: (nat_lit 538) :: (nat_lit 539) :: (nat_lit 541) :: (nat_lit 542) :: (nat_lit 544) :: (nat_lit 545) :: (nat_lit 546) :: (nat_lit 548) :: (nat_lit 549) :: (nat_lit 551) :: (nat_lit 552) :: (nat_lit 553) :: (nat_lit 555) :: (nat_lit 556) :: (nat_lit 558) :: (nat_lit 559) :: (nat_lit 560) :: (nat_lit 562) :: (nat_lit 563) :: (nat_lit 565) :: (nat_lit 566) :: (nat_lit 567) :: (nat_lit 569) :: (nat_lit 570) :: (nat_lit 572) :: (nat_lit 573) :: (nat_lit 574) :: (nat_lit 575) :: (nat_lit 576) :: (nat_lit 579) :: (nat_lit 581) :: (nat_lit 582) :: (nat_lit 584) :: (nat_lit 585) :: (nat_lit 586) :: (nat_lit 588) :: (nat_lit 589) :: (nat_lit 591) :: (nat_lit 592) :: (nat_lit 593) :: (nat_lit 596) :: (nat_lit 597) :: (nat_lit 598) :: (nat_lit 601) :: (nat_lit 602) :: []
end Mine
end
namespace Mine
/-- the engine's own copy of the written heap part -/
theorem fill_now : (∀ P, hd.heap_39 P = hd.heap_39 P) ∧ PySem.Challenge.rw_kn0093_02 = PySem.Challenge.rw_kn0093_02 := by
  k_fill
  exact ⟨fun _ => rfl, rfl⟩
end Mine
section -- G1
open PySem PySem.W PyProof.Rows PySem.Calls
set_option maxRecDepth 100000
namespace Mine

section
variable {M : Model} {A : Around} {E : Value → Shared → Prop} {s : Shared} {env : Env}

theorem g_execs {st : Stmt} {rest : List Stmt} {Q : Flow → Shared → Prop}
    (h : wpG M A (exec st env) (fun f s' => match f with | .next => wpG M A (execs rest env) Q E s' | f => Q f s') E s) : wpG M A (execs (st :: rest) env) Q E s := by
  rw [execs_cons]
  refine g_bind (g_mono h (fun f s' h' => ?_) fun _ _ e => e)
  cases f <;> first | exact h' | exact g_pure h'
theorem g_nil {Q : Flow → Shared → Prop} (h : Q .next s) : wpG M A (execs [] env) Q E s := g_pure h
theorem g_If {test : Expr} {body orelse : List Stmt} {pos : Pos} {Q : Flow → Shared → Prop}
    (h : wpG M A (isTrue test env (eval test env)) (fun b s₂ => if b then wpG M A (execs body env) Q E s₂ else wpG M A (execs orelse env) Q E s₂) E s) : wpG M A (exec (.If test body orelse pos) env) Q E s := by
  rw [exec_If]
  refine g_at (g_bind (g_mono h (fun b s' h' => ?_) fun _ _ e => e))
  cases b <;> exact h'
/-- an expression as a statement -/
theorem g_Expr {e : Expr} {pos : Pos} {Q : Flow → Shared → Prop} (h : wpG M A (eval e env) (fun v s' => wpG M A (dropValue e pos v) Q E s') E s)
    (hi : interactive env = false := by rfl) (hs : swapsWith e none pos.line env = pure false := by rfl) : wpG M A (exec (.Expr e pos) env) Q E s := by
  rw [exec_Expr env e pos hi hs]
  exact g_at (g_bind h)
theorem g_IfExp {test body orelse : Expr} {pos : Pos} {Q : Value → Shared → Prop}
    (h : wpG M A (isTrue test env (eval test env)) (fun b s₂ => if b then wpG M A (eval body env) Q E s₂ else wpG M A (eval orelse env) Q E s₂) E s)
    (he : eval (.IfExp test body orelse pos) env = (do if ← isTrue test env (eval test env) then eval body env else eval orelse env) := by rfl) : wpG M A (eval (.IfExp test body orelse pos) env) Q E s := by
  rw [he]
  refine g_bind (g_mono h (fun b s' h' => ?_) fun _ _ e => e)
  cases b <;> exact h'
/-- left op right, as a test, the left part on the spine -/
theorem g_test {l r : Expr} {op : CmpOp} {pos : Pos} {whole : Sem Value} {Q : Bool → Shared → Prop}
    (h : wpG M A (eval l env) (fun a s₁ => wpAny M A (eval r env) (fun b s₂ => wpAny M A (compareOp op a b) (fun c s₃ => wpAny M A (truthy c) Q E s₃) E s₂) E s₁) E s)
    (hm : behindInMarks op r = false := by with_unfolding_all rfl) : wpG M A (isTrue (.Compare l [op] [r] pos) env whole) Q E s := by
  rw [isTrue_Compare1]
  refine g_bind (g_mono h (fun a s₁ h₁ => ?_) fun _ _ e => e)
  rw [markedBehindIn_of_false hm]
  refine g_bind (g_holding (lift (wpAny_mono h₁ (fun b s₂ h₂ => g_at (g_bind (g_operate (lift (wpAny_mono h₂ (fun c s₃ h₃ => g_holding (lift h₃)) fun _ _ e => e))))) fun _ _ e => e)))
theorem g_callWith {pos : Pos} {f : Value} {first : List Value} {args : List (Bool × Sem Value)} {Q : Value → Shared → Prop} (hplain : (args.any (·.1) || ([] : List (Option Str × Sem Value)).any (·.1.isNone)) = false)
    (h : wpG M A (evalArgs f true args []) (fun a s₁ => (∃ k, (k = Keeper.frame ∨ k = Keeper.machine ∨ k = Keeper.boundFrame) ∧ Looks M s₁.heap (keeperOf f) k) ∧ wpG M A (call f (first ++ a.pos) a.kw) Q E s₁) E s) : wpG M A (callWith pos f first args []) Q E s := by
  unfold callWith
  refine g_bind (g_holding (g_mono h (fun a s₁ h₁ => g_at ?_) fun _ _ x => x))
  obtain ⟨⟨k, hk', L⟩, h₁⟩ := h₁
  simp only [hplain]
  refine g_step (L.here ?_)
  have tail : ∀ {t : Sem Value}, wpG M A t Q E s₁ → wpG M A (t >>= fun r => holding [r] point >>= fun _ => pure r) Q E s₁ :=
    fun ht => g_bind (g_mono ht (fun r s₂ hr => g_bind (g_holding (lift (wpAny_point (g_pure hr))))) fun _ _ x => x)
  have marked (mk : Value) : wpG M A (callMarked mk f (first ++ a.pos) a.kw) Q E s₁ := by unfold callMarked; exact g_keep h₁
  rcases hk' with rfl | rfl | rfl <;> dsimp only <;> first | exact tail h₁ | (split <;> first | exact tail h₁ | exact tail (marked _))
theorem g_args {f : Value} {x : Sem Value} {rest : List (Bool × Sem Value)} {Q : Args → Shared → Prop} (h : wpG M A (spliced ((false, x) :: rest)) (fun vs s₁ => Q ⟨vs, []⟩ s₁) E s) : wpG M A (evalArgs f true ((false, x) :: rest) []) Q E s := by
  unfold evalArgs
  show wpG M A (spliced ((false, x) :: rest) >>= _) Q E s
  refine g_bind (g_mono h (fun vs s' h' => ?_) fun _ _ x => x)
  refine g_holding (lift ?_)
  exact wpAny_bind (wpAny_pure (wpAny_bind (wpAny_pure (wpAny_pure h'))))
theorem g_spliced {x : Sem Value} {rest : List (Bool × Sem Value)} {Q : List Value → Shared → Prop} (h : wpG M A x (fun v s₁ => wpG M A (spliced rest) (fun vs s₂ => Q (v :: vs) s₂) E s₁) E s) : wpG M A (spliced ((false, x) :: rest)) Q E s := by
  have e : spliced ((false, x) :: rest) = (do
      let v ← x
      let here ← (pure [v] : Sem (List Value))
      let r ← holding here (spliced rest)
      pure (here ++ r)) := by rw [spliced]; rfl
  rw [e]
  exact g_bind (g_mono h (fun v s₁ h₁ => g_bind (g_pure (g_bind (g_holding (g_mono h₁ (fun vs s₂ h₂ => g_pure h₂) fun _ _ x => x))))) fun _ _ x => x)
theorem g_spliced0 {Q : List Value → Shared → Prop} (h : Q [] s) : wpG M A (spliced []) Q E s := g_pure h
theorem g_CallName {func : Expr} {args : List Expr} {pos : Pos} {Q : Value → Shared → Prop} (h : wpG M A (eval func env) (fun f s₁ => wpG M A (callWith pos f [] (backTo pos (starEach args env)) []) Q E s₁) E s)
    (he : eval (.Call func args [] pos) env = (do callWith pos (← eval func env) [] (backTo pos (starEach args env)) []) := by rfl) : wpG M A (eval (.Call func args [] pos) env) Q E s := by
  rw [he]; exact g_bind h
theorem g_CallMeth {o : Expr} {name : Str} {apos pos : Pos} {args : List Expr} {pl : Sem Bool} {Q : Value → Shared → Prop}
    (h : wpG M A (eval o env) (fun ov s₁ => wpG M A (getMethod ov name pl) (fun fx s₂ => wpG M A (callWith pos fx.1 fx.2 (backTo pos (starEach args env)) []) Q E s₂) E s₁) E s)
    (he : eval (.Call (.Attribute o name apos) args [] pos) env = (do
      let ov ← eval o env
      standAt apos.atName
      let (f, first) ← holding [ov] (getMethod ov name pl)
      callWith pos f first (backTo pos (starEach args env)) []) := by rfl) : wpG M A (eval (.Call (.Attribute o name apos) args [] pos) env) Q E s := by
  rw [he]
  exact g_bind (g_mono h (fun ov s₁ h₁ => g_at (g_bind (g_holding (g_mono h₁ (fun fx s₂ h₂ => h₂) fun _ _ x => x)))) fun _ _ x => x)
theorem g_SetAttr {o value : Expr} {attr : Str} {tpos pos : Pos} {Q : Flow → Shared → Prop}
    (h : wpG M A (eval value env) (fun v s₁ => wpAny M A (eval o env) (fun ov s₂ => wpAny M A (setAttr ov attr v) (fun _ s₃ => Q .next s₃) E s₂) E s₁) E s)
    (he : exec (.Assign [.Attribute o attr tpos] value pos) env = (do
      standAt pos
      let v ← eval value env
      assignStores env v none [assign (.Attribute o attr tpos) env]) := by rfl) : wpG M A (exec (.Assign [.Attribute o attr tpos] value pos) env) Q E s := by
  rw [he]
  refine g_at (g_bind (g_mono h (fun v s₁ h₁ => ?_) fun _ _ x => x))
  show wpG M A (do assignAll v [assign (.Attribute o attr tpos) env]; pure .next) Q E s₁
  refine g_bind ?_
  show wpG M A (assign (.Attribute o attr tpos) env v) _ E s₁
  have e2 : assign (.Attribute o attr tpos) env v = (do
      let ov ← holding [v] (eval o env)
      standAt tpos.atName
      holding [v, ov] (setAttr ov attr v)
      release [v, ov] []) := by rfl
  rw [e2]
  refine g_bind (g_holding (lift (wpAny_mono h₁ (fun ov s₂ h₂ => g_at (g_bind (g_holding (lift (wpAny_mono h₂ (fun _ s₃ h₃ => ?_) fun _ _ x => x))))) fun _ _ x => x)))
  exact fun Γ p hΓ g => by rw [Sem.wp_release]; exact (g_pure h₃ : wpG M A (pure Flow.next) Q E s₃)
end

section
variable {prog : Program} {w : World} {A A₀ : Around} {s : Shared} {base h₀ : Heap} {outer : List Env} {L : Addr} {m : Str → Option Value} {env : Env} {news : List (Addr × Obj)} {E : Value → Shared → Prop}
  {R : Result → Shared → Prop} {name qual : Str} {params : Arguments} {body : List Stmt} {scope : Scope} {cl : List (Str × Addr)} {dV kV doc pm cdv ct : Value} {an : Option Addr} {fo : Obj} {f : Addr} {args : Args} {binds : List (Str × Value)}

theorem g_fun {env' : Env} (h : wpG (model prog w) (A.deeper env') (execs body env') (fun f s' => R (.ok (.ret (match f with | .ret v => v | _ => .none))) s') (fun _ _ => False) s) : codeG (model prog w) A (.func body env') R s := by
  refine g_tree ?_
  show wpG _ (A.deeper env') (do point; match ← (execs body env').onRaise (leaving env') with | .ret v => ret v | _ => ret .none) _ _ s
  refine g_step (wpAny_point (g_bind (g_onRaise (g_mono h (fun f s' h' => ?_) fun _ _ h' => h'.elim))))
  cases f <;> exact g_pure h'

theorem g_callFunction {fd : FuncData} (hroom : A.depth < recursionLimit) (ho : s.heap.get? f = some fo) (hd' : fo.data = .func fd) (hco : fd.scope.isCoroutine = false) (hgen : fd.scope.isGenerator = false) (hbody : fd.body = .stmts body) (hcd : s.heap.CodeRec fd.code fd.qualname)
    (h : wpAny (model prog w) A.in1 (bindArgs fd args) (fun binds s₁ =>
      wpAny (model prog w) A.in1 (newFunctionEnv fd.scope fd.globals fd.closure binds (fd.qualname ++ ".<locals>.") (some f) fd.code none fd.builtins)
        (fun env s₂ => s₂.heap.NoLimit ∧ codeG (model prog w) A (.func body env) R s₂) (fun e s' => R (.error e) s') s₁) (fun e s' => R (.error e) s') s) :
    codeG (model prog w) A (.call (.ref f) args) R s := by
  refine g_tree ?_
  show wpG _ A.in1 (callAny (.ref f) args) _ _ s
  simp only [callAny]
  refine g_step (wpAny_load ho ?_)
  obtain ⟨c, oc, vs, tq, hc, hoc, hdc, hq⟩ := hcd
  simp only [hd', callFunction, hco, hgen, hbody, hc]
  rw [hc] at h
  refine lift (wpAny_bind (m := field (.ref c) 1) (wpAny_field hoc hdc hq (wpAny_bind (wpAny_pure ?_))))
  exact wpAny_bind (wpAny_mono h (fun binds s₁ h₁ => wpAny_bind (wpAny_mono h₁ (fun env s₂ h₂ => wpAny_bind (wpAny_enterFrame h₂.1 hroom
    (wpAny_pure ⟨rfl, rfl, h₂.2⟩))) fun _ _ h' => h')) fun _ _ h' => h')

/-- the call of a def: what is not told in the ledger stands behind the call as it stood -/
theorem g_def (B : Below A₀ base outer h₀) (F : Fr h₀ L s.heap m) (N : News h₀ L s.heap news) (hlim : h₀.NoLimit) (hA : A.frames = some (env :: outer)) (hf : env.frame = some L) (hke : env.scope.kind = .function)
    (ho : s.heap.get? f = some fo) (hd : fo.data = .func (fnX name qual params body scope cl dV kV doc pm an cdv ct)) (hcd : s.heap.CodeRec cdv qual) (hroom : A.depth < recursionLimit)
    (hbind : BindsTo s (fnX name qual params body scope cl dV kV doc pm an cdv ct) args binds) (hloc : ∀ y ∈ binds, scope.names.lookup y.1 = some .local)
    (h : ∀ g L' h₁, (∀ b o, s.heap.get? b = some o → b ∉ news.map (·.1) → g.get? b = some o) → Fr g L' h₁ (fun y => binds.reverse.lookup y) → News g L' h₁ news → Below A base (env :: outer) g → h₀.StaysIn g → (∀ p ∈ news, p.1 < L') →
      wpG (model prog w) (A.deeper (envX qual scope L' f cdv cl)) (execs body (envX qual scope L' f cdv cl))
        (fun fl s' => R (.ok (.ret (match fl with | .ret v => v | _ => .none))) s') (fun _ _ => False) { s with heap := h₁, toks := s.toks + binds.length })
    (hcell : ∀ x ∈ scope.names, x.2 ≠ .cell) (hco : scope.isCoroutine = false := by rfl) (hgen : scope.isGenerator = false := by rfl) (hk : scope.kind = .function := by rfl) : codeG (model prog w) A (.call (.ref f) args) R s := by
  obtain ⟨FG, BG, st, lv⟩ := groundX (R := R) B F N hA hf hke
  refine g_callFunction (fd := fnX name qual params body scope cl dV kV doc pm an cdv ct) (body := body) hroom ho hd hco hgen rfl hcd (hbind _ _ _ _ ?_)
  refine wpAny_newFunctionEnv hcell hloc (fun h₁ hns hsb => ⟨(hlim.keeps F.keep).fresh _ hsb, g_fun ?_⟩) hk
  have hk₁ : ∀ b o, s.heap.get? b = some o → h₁.get? b = some o := fun b o e => hsb.extBut b o (Nat.ne_of_lt (Heap.lt_size e)) (Heap.get?_push_of_some _ e)
  exact h _ s.heap.objs.size h₁ (fun b o e nb => hideAll_get _ e nb) ⟨hns, fun b o e => hk₁ b o (of_hideAll _ e), Nat.le_of_eq (hideAll_size _ _)⟩
    (fun p hp => ⟨hk₁ _ _ (N p hp).1, Nat.ne_of_lt (Heap.lt_size (N p hp).1), hideAll_none _ (List.mem_map_of_mem hp)⟩) BG st (fun p hp => Heap.lt_size (N p hp).1)

theorem a_def (B : Below A₀ base outer h₀) (F : Fr h₀ L s.heap m) (N : News h₀ L s.heap news) (hlim : h₀.NoLimit) (hA : A.frames = some (env :: outer)) (hf : env.frame = some L) (hke : env.scope.kind = .function)
    (ho : s.heap.get? f = some fo) (hd : fo.data = .func (fnX name qual params body scope cl dV kV doc pm an cdv ct)) (hcd : s.heap.CodeRec cdv qual) (hroom : A.depth < recursionLimit)
    (hbind : BindsTo s (fnX name qual params body scope cl dV kV doc pm an cdv ct) args binds) (hloc : ∀ y ∈ binds, scope.names.lookup y.1 = some .local)
    (h : ∀ g L' h₁, (∀ b o, s.heap.get? b = some o → b ∉ news.map (·.1) → g.get? b = some o) → Fr g L' h₁ (fun y => binds.reverse.lookup y) → News g L' h₁ news → Below A base (env :: outer) g → h₀.StaysIn g → (∀ p ∈ news, p.1 < L') →
      wpAny (model prog w) (A.deeper (envX qual scope L' f cdv cl)) (execs body (envX qual scope L' f cdv cl))
        (fun fl s' => R (.ok (.ret (match fl with | .ret v => v | _ => .none))) s') (fun _ _ => False) { s with heap := h₁, toks := s.toks + binds.length })
    (hcell : ∀ x ∈ scope.names, x.2 ≠ .cell) (hco : scope.isCoroutine = false := by rfl) (hgen : scope.isGenerator = false := by rfl) (hk : scope.kind = .function := by rfl) : codeAny (model prog w) A (.call (.ref f) args) R s := by
  obtain ⟨FG, BG, st, lv⟩ := groundX (R := R) B F N hA hf hke
  refine codeAny_call_def (fd := fnX name qual params body scope cl dV kV doc pm an cdv ct) (body := body) (binds := binds) hroom ho hd (hlim.keeps F.keep) hcd rfl hbind hcell hloc (fun h₁ hns hk₁ => ?_) hco hgen hk
  exact wpAny_mono (h _ s.heap.objs.size h₁ (fun b o e nb => hideAll_get _ e nb) ⟨hns, fun b o e => hk₁ b o (of_hideAll _ e), Nat.le_of_eq (hideAll_size _ _)⟩
    (fun p hp => ⟨hk₁ _ _ (N p hp).1, Nat.ne_of_lt (Heap.lt_size (N p hp).1), hideAll_none _ (List.mem_map_of_mem hp)⟩) BG st (fun p hp => Heap.lt_size (N p hp).1)) (fun _ _ x => x) fun _ _ x => x.elim
end
end Mine
end
section -- G2
open PySem PySem.W PyProof.Rows PySem.Calls
set_option maxRecDepth 100000
namespace Mine
theorem g_builtin {prog : Program} {w : World} {A : Around} {R : Result → Shared → Prop} {s : Shared} {id : String} {B : Builtin} {args : Args} (entry : entryFor table id = some B)
    (h : wpG (model prog w) (A.under (.builtin id args)) (B args) (fun fin s' => match fin with | .done f => R (.ok f) s' | .again c' => c'.quiet = true ∧ bad c' = false ∧ codeG (model prog w) A c' R s') (fun e s' => R (.error e) s') s) :
    codeG (model prog w) A (.builtin id args) R s := by
  refine g_tree ?_
  show wpG _ _ (match entryFor table id with | some b => b args | none => unsupported ((withoutEnding? id "#data").getD id)) _ _ s
  rw [entry]; exact h
def clsOk (K : Frag) (C : Addr) : Bool := match K.lookup C with
  | some ⟨_, _, .cls cd, _⟩ => !cd.abstract && !cd.hasDel && !cd.mro.isEmpty
  | _ => false
theorem clsOk_of {K : Frag} {h : Heap} (X : K.In h) {C : Addr} (e : clsOk K C = true) :
    ∃ oc od cd sl, h.get? C = some ⟨oc, od, .cls cd, sl⟩ ∧ cd.abstract = false ∧ cd.hasDel = false ∧ cd.mro.isEmpty = false := by
  unfold clsOk at e
  split at e
  · rename_i ho
    simp only [Bool.and_eq_true, Bool.not_eq_true'] at e
    exact ⟨_, _, _, _, X _ _ ho, e.1.1, e.1.2, e.2⟩
  · cases e

/-- what a class is that is made by a __new__ of the text's own, over object.__new__ -/
structure NewBy (M : Model) (h : Heap) (C : Addr) (fI : Addr) : Prop where
  obj : ∃ oc od cd sl, h.get? C = some ⟨oc, od, .cls cd, sl⟩ ∧ cd.abstract = false ∧ cd.hasDel = false ∧ cd.mro.isEmpty = false
  made : Looks M h (Bind.madeBy (.ref C)) none
  base : Looks M h (Bind.staticBase (.ref C)) (.type "object")
  root : Looks M h (Bind.madeBy (.type "object")) (some "object.__new__")
  self : Looks M h (isSubtype (.ref C) (.ref C)) true
  top : Looks M h (isSubtype (.ref C) (.type "object")) true
  call : Looks M h (specialOf (.ref C) "__call__") (some (.builtin "type.__call__"))
  typ : Looks M h (isInstance (.ref C) (.type "type")) true
  init : Looks M h (typeLookup (.ref C) "__init__") (some (.ref fI))
  bindI : ∀ self, Looks M h (bindSpecial (.ref fI) self) (.ref fI, [self])
  isTy : Looks M h (isType (.ref C)) true

theorem NewBy.keeps {M : Model} {h h' : Heap} {C fI : Addr} (Y : NewBy M h C fI) (k : ∀ b o, h.get? b = some o → h'.get? b = some o) : NewBy M h' C fI :=
  let ⟨oc, od, cd, sl, e, r⟩ := Y.obj
  ⟨⟨oc, od, cd, sl, k _ _ e, r⟩, Y.made.keeps k, Y.base.keeps k, Y.root.keeps k, Y.self.keeps k, Y.top.keeps k, Y.call.keeps k, Y.typ.keeps k, Y.init.keeps k, fun v => (Y.bindI v).keeps k, Y.isTy.keeps k⟩

section
variable {prog : Program} {w : World} {A : Around} {K : Frag} {C fI : Addr} {R : Result → Shared → Prop} {h : Heap} {g : Array GenState} {d : Drawn} {t : Nat} {os : OsState}

/-- object.__new__(C) for a class whose own __new__ calls it -/
theorem objnew_user (Y : NewBy (model prog w) h C fI)
    (hq : R (.ok (.ret (.ref (h.objs.size + 1)))) ⟨(h.push emptyDict).push (instObj C h.objs.size), g, d, t, os⟩) :
    codeAny (model prog w) A (.call (.builtin "object.__new__") ⟨[.ref C], []⟩) R ⟨h, g, d, t, os⟩ := by
  obtain ⟨⟨oc, od, cd, sl, hC, e1, e2, e4⟩, made, base, root, self, top, call, typ, init, bindI, isTy⟩ := Y
  have F := PySem.F.objNew
  refine codeAny_call_builtin_code (Code.quiet_builtin _ F.quiet) ?_
  simp only [checkBuiltinCall, F.kind, F.split, F.row]
  have here : Looks (model prog w) h (Bind.madeHere "object.__new__" (.ref C)) () := base.andThen (root.andThen (Looks.of_pure (by simp only [Option.map_some, bne_self_eq_false, Bool.false_eq_true, if_false])))
  have args : Bind.checkArgs "object.__new__" ⟨.hand, "object.__new__", "__new__", .cls, []⟩ ⟨[.ref C], []⟩ = pure () := by kernel_rfl
  rw [args]
  repeat (first | simp only [bne_self_eq_false, Bool.false_eq_true, if_false] | lk)
  refine codeAny_builtin F.entry ?_
  unfold Builtin.«object.__new__»
  have hC' := Heap.get?_push_of_some (instObj C (h.push emptyDict).objs.size.pred) (Heap.get?_push_of_some emptyDict hC)
  have fin : ∀ A', wpAny (model prog w) A' (do
      let d ← if typeHasDict (.ref C) then some <$> alloc { cls := .type "dict", data := .dict #[] } else pure none
      ret (← newObj (.ref C) .plain d)) (fun fin s' => match fin with | .done f => R (.ok f) s' | .again c' => c'.quiet = true ∧ codeAny (model prog w) A c' R s') (fun e s' => R (.error e) s') ⟨h, g, d, t, os⟩ := by
    intro A'
    show wpAny _ _ ((alloc emptyDict >>= fun x => pure (some x)) >>= _) _ _ _
    refine wpAny_bind (wpAny_bind (wpAny_alloc (wpAny_pure (wpAny_bind ?_))))
    show wpAny _ _ (newObjAsIs _ _ _) _ _ _
    unfold newObjAsIs classHasDel
    refine wpAny_bind (wpAny_alloc (wpAny_bind (wpAny_bind (wpAny_load (Heap.get?_push_of_some _ (Heap.get?_push_of_some _ hC)) (wpAny_pure ?_)))))
    rw [e2]
    refine wpAny_pure (wpAny_pure ?_)
    show R _ _
    rw [Heap.size_push]
    exact hq
  repeat (first | simp only [e1, Bool.false_eq_true, if_false] | exact fin _ | lk)


set_option maxHeartbeats 4000000 in
/-- the call of such a class, no argument; what the __new__ gives back, and the __init__ in good contexts -/
theorem make_userG {s : Shared} {fN : Addr} (Y : NewBy (model prog w) s.heap C fI)
    (hnew : wpAny (model prog w) (A.under (.builtin "type.__call__" ⟨[.ref C], []⟩)) (getAttr (.ref C) "__new__") (fun v s₁ => v = .ref fN ∧
        wpAny (model prog w) (A.under (.builtin "type.__call__" ⟨[.ref C], []⟩)) (call (.ref fN) [.ref C]) (fun v s' => ∃ x dx, v = .ref x ∧ s'.heap.get? x = some (instObj C dx) ∧ (∀ b o, s.heap.get? b = some o → s'.heap.get? b = some o) ∧
          codeG (model prog w) (A.under (.builtin "type.__call__" ⟨[.ref C], []⟩)) (.call (.ref fI) ⟨[.ref x], []⟩) (InitBack x R) s') (fun _ _ => False) s₁) (fun _ _ => False) s) :
    codeG (model prog w) A (.call (.ref C) ⟨[], []⟩) R s := by
  obtain ⟨⟨oc, od, cd, sl, hC, e1, e2, e4⟩, made, base, root, self, top, call, typ, init, bindI, isTy⟩ := Y
  refine g_tree ?_
  show wpG _ _ (callAny (.ref C) _) _ _ _
  refine lift ?_
  refine nd_load hC ?_
  show wpAny _ _ (callAny.viaDunder (.ref C) _) _ _ _
  unfold callAny.viaDunder
  refine wpAny_bind (call.at ?_)
  dsimp only
  rw [tc_bind]
  refine wpAny_bind (wpAny_pure (wpAny_bind (wpAny_pure ?_)))
  refine wpAny_pure (a := Fin.again (.call (.builtin "type.__call__") ⟨.ref C :: [], []⟩)) ⟨rfl, rfl, ?_⟩
  refine g_tree (lift ?_)
  show wpAny _ _ (callAny (.builtin "type.__call__") ⟨.ref C :: [], []⟩) _ _ _
  unfold callAny
  refine wpAny_bind (check_slot tc_kind tc_split typ (tc_args _ _ _) ?_)
  refine wpAny_pure ⟨Code.quiet_builtin _ (by decide +kernel), (show badIds.contains "type.__call__" = false from by decide +kernel), ?_⟩
  refine g_builtin entry_typeCall ?_
  unfold Builtin.«type.__call__»
  have hm : Looks (model prog w) s.heap (mroOf (.ref C)) cd.mro := ((Looks.ld (part := none) hC).andThen .now).andThen .now
  show wpG _ _ (mroOf (.ref C) >>= _) _ _ _
  refine g_step (hm.here ?_)
  simp only [e4, Bool.false_eq_true, if_false]
  refine g_step (made.here ?_)
  dsimp only
  refine g_step (wpAny_mono hnew (fun v s₁ hv => ?_) fun _ _ e => e.elim)
  obtain ⟨rfl, hv⟩ := hv
  refine g_bind (g_holding (lift (wpAny_mono hv (fun v s' hv' => ?_) fun _ _ e => e.elim)))
  obtain ⟨x, dx, rfl, hx, k, hq⟩ := hv'
  have t1 : Looks (model prog w) s'.heap (typeOf (.ref x)) (.ref C) := (Looks.ld hx).andThen .now
  have s1 := self.keeps k
  have i1 := init.keeps k
  have b1 := (bindI (.ref x)).keeps k
  refine g_step ((t1.andThen s1 : Looks (model prog w) s'.heap (isInstance (.ref x) (.ref C)) true).here ?_)
  simp only [Bool.not_true, Bool.false_eq_true, if_false]
  refine g_bind (g_holding ?_)
  unfold callSpecial?
  refine g_step ((t1.andThen i1 : Looks (model prog w) s'.heap (specialOf (.ref x) (Str.ofString "__init__")) (some (.ref fI))).here ?_)
  dsimp only
  refine g_holding (g_step (b1.here ?_))
  dsimp only
  refine g_bind (g_call (g_codeMono hq fun r s' z => ?_))
  rcases r with e | (v | _ | _ | _) <;> first | exact z | exact z.elim | skip
  obtain ⟨rfl, z⟩ := z
  exact g_pure (g_pure z)
end
end Mine
end
section -- G3
open PySem PySem.W PyProof.Rows PySem.Calls
set_option maxRecDepth 100000
namespace Mine

theorem emptyIn {h : Heap} : Frag.In [] h := fun _ _ e => nomatch e
theorem ba_mro {M : Model} {h : Heap} : Looks M h (mroOf (.type "bytearray")) [.type "bytearray", .type "object"] := Looks.of_peek emptyIn (by kernel_rfl)
theorem ba_made {M : Model} {h : Heap} : Looks M h (Bind.madeBy (.type "bytearray")) (some "bytearray.__new__") := Looks.of_peek emptyIn (by kernel_rfl)
theorem ba_sub {M : Model} {h : Heap} : Looks M h (isSubtype (.type "bytearray") (.type "bytearray")) true := Looks.of_peek emptyIn (by kernel_rfl)
theorem ba_init {M : Model} {h : Heap} : Looks M h (typeLookup (.type "bytearray") "__init__") (some (.builtin "bytearray.__init__")) := Looks.of_peek emptyIn (by kernel_rfl)
theorem ba_bind {M : Model} {h : Heap} (v : Value) : Looks M h (bindSpecial (.builtin "bytearray.__init__") v) (.builtin "bytearray.__init__", [v]) := Looks.of_peek emptyIn (by kernel_rfl)
theorem ba_tc {M : Model} {h : Heap} : Looks M h (checkTypeCall "bytearray" ⟨[], []⟩) () := Looks.of_peek emptyIn (by kernel_rfl)
theorem ba_can : ((Manifest.find? "bytearray").bind (·.mro.findSome? fun t => (Manifest.find? t).bind fun b => if b.noNew then some true else if b.attrs.any (·.1 == "__new__") then some false else none)).getD false = false := by decide +kernel
theorem ba_newCall : checkBuiltinCall "bytearray.__new__" ⟨[.type "bytearray"], []⟩ = pure () := by kernel_rfl
theorem ba_newPlain : plainId "bytearray.__new__" = true := by decide +kernel
theorem ba_newEntry : entryFor table "bytearray.__new__" = some Builtin.«list.__new__» := entryFor_alias (id' := "list.__new__") (by kernel_rfl) (by first | rfl | (unfold String.splitOn; simp +decide [String.splitOnAux])) (by decide +kernel) (by kernel_rfl)
theorem ba_initEntry : entryFor table "bytearray.__init__" = some Builtin.«bytearray.__init__» := entryFor_of_tree (by kernel_rfl)
set_option maxRecDepth 1000000 in
set_option maxHeartbeats 4000000 in
theorem ba_owner : ("bytearray.__new__".splitOn ".__new__").headD "" = "bytearray" := by simp +decide [String.splitOn, String.splitOnAux]
theorem ba_subEq : isSubtype (.type "bytearray") (.type "bytearray") = pure true := by rw [isSubtype_type]; kernel_rfl
theorem ba_release {M : Model} {h : Heap} : ∃ r, Looks M h (typeLookup (.type "bytearray") "__release_buffer__") r ∧ (r = some (.builtin "bytearray.__release_buffer__")) := ⟨_, Looks.of_peek emptyIn (by kernel_rfl), rfl⟩

abbrev baObj (b : Array UInt8) : Obj := { cls := .type "bytearray", data := .bytearray b }

theorem ba_initArgs (x : Addr) : argsOk "bytearray.__init__" ⟨[.ref x], []⟩ := by unfold argsOk; kernel_rfl
section
variable {M : Model} {A : Around} {E : Value → Shared → Prop} {s : Shared}
theorem ba_check {x : Addr} {b : Array UInt8} {R : Unit → Shared → Prop} (hx : s.heap.get? x = some (baObj b)) (h : R () s) : wpAny M A (checkBuiltinCall "bytearray.__init__" ⟨[.ref x], []⟩) R E s := by
  have t1 : Looks M s.heap (typeOf (.ref x)) (.type "bytearray") := (Looks.ld hx).andThen .now
  have t2 : Looks M s.heap (isInstance (.ref x) (.type "bytearray")) true := t1.andThen ba_sub
  have z := @check_slot M A E s "bytearray.__init__" "bytearray" "__init__" (.ref x) [] [] R
  have z1 := z (by decide +kernel)
  have z2 := z1 (by decide +kernel)
  have z3 := z2 t2
  have z4 := z3 (ba_initArgs _)
  exact z4 h
end

section
variable {prog : Program} {w : World} {A : Around} {E : Value → Shared → Prop} {s : Shared}
theorem ba_new {Q₁ : Value → Shared → Prop} (h : Q₁ (.ref s.heap.objs.size) { s with heap := s.heap.push (baObj #[]) }) :
    codeAny (model prog w) A (.call (.builtin "bytearray.__new__") ⟨[.type "bytearray"], []⟩) (wants Q₁ E) s := by
  refine codeAny_of_tree ?_
  show wpAny _ A.in1 (do checkBuiltinCall "bytearray.__new__" ⟨[.type "bytearray"], []⟩; again (.builtin "bytearray.__new__" ⟨[.type "bytearray"], []⟩)) _ _ s
  refine wpAny_bind (wpAny_of_eq ba_newCall (wpAny_pure ⟨plainId_quiet ba_newPlain _, codeAny_builtin_stack ba_newEntry rfl fun p st => ?_⟩))
  rw [Around.under_plainId ba_newPlain _]
  have hsub := ba_subEq
  have hown := ba_owner
  obtain ⟨hp, g, d, tk, os⟩ := s
  simp only [hown]
  wp_walk
  exact h

theorem g_exported {v : Value} {Q : Bool → Shared → Prop} (h : Q false s) : wpG (model prog w) A (Builtin.Bytes.exported v) Q E s := by
  intro Γ p hΓ g
  unfold Builtin.Bytes.exported
  rw [Sem.wp_bind']
  unfold stack
  rw [Sem.wp_stack, Sem.wp_pure, Sem.wp_pure']
  refine (congrArg (fun b => Q b s) ?_).mpr h
  rw [List.any_eq_false]
  intro x hx
  have hb : bad x.1 = false := by
    rcases List.mem_cons.mp hx with rfl | hx
    · exact g.1
    · exact g.2 x hx
  have hd : ∀ id, badIds.contains id = false → Builtin.Bytes.decodersThatHold.contains id = false := fun id e => by
    unfold badIds at e
    simp only [List.contains_eq_any_beq, List.any_append, Bool.or_eq_false_iff] at e ⊢
    exact e.1
  revert hb
  split <;> intro hb
  · exact absurd (show badIds.contains "bytearray.__contains__" = false from hb) (by decide +kernel)
  · exact absurd (show badIds.contains "bytearray.__mod__" = false from hb) (by decide +kernel)
  · exact absurd (show badIds.contains "bytearray.__rmod__" = false from hb) (by decide +kernel)
  · exact absurd (show badIds.contains "_struct.pack_into.held" = false from hb) (by decide +kernel)
  · exact absurd (show badIds.contains "bytearray.find.held" = false from hb) (by decide +kernel)
  · rename_i id v _ _ _ _ _ _ _ _ _
    intro e
    have := hd _ hb
    simp only [this, Bool.and_false, Bool.false_eq_true] at e
  · simp

theorem wpG_or {a b : Sem Bool} {Q : Bool → Shared → Prop} (h : wpG (model prog w) A a (fun x s' => if x then Q true s' else wpG (model prog w) A b Q E s') E s) : wpG (model prog w) A (a <||> b) Q E s := by
  refine g_bind (g_mono h (fun x s' hx => ?_) fun _ _ e => e)
  cases x
  · exact hx
  · exact g_pure hx

set_option maxHeartbeats 4000000 in
/-- bytearray(), in contexts where none holds one -/
theorem g_bytearray {R : Result → Shared → Prop} (h : ∀ h', (∀ b o, s.heap.get? b = some o → h'.get? b = some o) → h'.get? s.heap.objs.size = some (baObj #[]) → h'.objs.size = s.heap.objs.size + 1 →
      R (.ok (.ret (.ref s.heap.objs.size))) { s with heap := h' }) : codeG (model prog w) A (.call (.type "bytearray") ⟨[], []⟩) R s := by
  refine g_tree (lift ?_)
  show wpAny _ _ (callAny (.type "bytearray") _) _ _ _
  refine wpAny_pure ⟨Code.quiet_builtin _ (by decide +kernel), (show badIds.contains "type.__call__" = false from by decide +kernel), ?_⟩
  refine g_builtin entry_typeCall ?_
  unfold Builtin.«type.__call__»
  dsimp only
  refine g_eq (by rw [if_neg (by decide)]) ?_
  rw [if_neg (by rw [ba_can]; decide)]
  refine g_step (ba_tc.here ?_)
  refine g_step (ba_mro.here ?_)
  rw [if_neg (by decide)]
  refine g_step (ba_made.here ?_)
  dsimp only
  refine g_bind (g_pure ?_)
  refine g_bind (g_holding (lift (wpAny_call (codeAny_mono (ba_new (Q₁ := fun v s' => v = .ref s.heap.objs.size ∧ s' = { s with heap := s.heap.push (baObj #[]) }) (E := fun _ _ => False) ⟨rfl, rfl⟩) fun r s₁ hr => ?_))))
  rcases r with e | (v | _ | _ | _) <;> first | exact hr.elim | skip
  obtain ⟨rfl, rfl⟩ := hr
  let x := s.heap.objs.size
  have hx : (s.heap.push (baObj #[])).get? x = some (baObj #[]) := Heap.get?_push_size _ rfl
  have keep : ∀ b o, s.heap.get? b = some o → (s.heap.push (baObj #[])).get? b = some o := fun b o e => Heap.get?_push_of_some _ e
  have t1 : ∀ {M : Model}, Looks M (s.heap.push (baObj #[])) (typeOf (.ref x)) (.type "bytearray") := (Looks.ld hx).andThen .now
  refine g_step ((t1.andThen ba_sub : Looks (model prog w) _ (isInstance (.ref x) (.type "bytearray")) true).here ?_)
  simp only [Bool.not_true, Bool.false_eq_true, if_false]
  refine g_bind (g_holding ?_)
  unfold callSpecial?
  refine g_step ((t1.andThen ba_init : Looks (model prog w) _ (specialOf (.ref x) (Str.ofString "__init__")) _).here ?_)
  dsimp only
  refine g_holding (g_step ((ba_bind (.ref x)).here ?_))
  dsimp only
  refine g_bind (g_call ?_)
  refine g_tree (lift ?_)
  show wpAny _ _ (callAny (.builtin "bytearray.__init__") ⟨[.ref x], []⟩) _ _ _
  unfold callAny
  refine wpAny_bind (ba_check hx ?_)
  refine wpAny_pure ⟨Code.quiet_builtin _ (by decide +kernel), (show badIds.contains "bytearray.__init__" = false from by decide +kernel), ?_⟩
  refine g_builtin ba_initEntry ?_
  unfold Builtin.«bytearray.__init__»
  dsimp only
  have own : ∀ {M : Model}, Looks M (s.heap.push (baObj #[])) (Builtin.Bytes.ownRelease (.ref x)) false := by
    intro M
    unfold Builtin.Bytes.ownRelease Builtin.Bytes.slotIsOwn
    have r : Looks M (s.heap.push (baObj #[])) (typeLookup (.type "bytearray") (Str.ofString "__release_buffer__")) (some (.builtin "bytearray.__release_buffer__")) := Looks.of_peek emptyIn (by kernel_rfl)
    refine Looks.andThen (a := true) ?_ .now
    refine (t1.andThen r : Looks M _ (specialOf (.ref x) (Str.ofString "__release_buffer__")) _).andThen ?_
    dsimp only
    rw [if_neg (by decide +kernel)]
    exact t1.andThen (Looks.of_peek emptyIn (by kernel_rfl))
  refine g_step (own.here ?_)
  rw [if_neg (by decide)]
  refine g_eq (t' := _) (congrArg (· >>= _) (show Builtin.Bytes.bindOptional "bytearray.__init__" "bytearray" ["source", "encoding", "errors"] [] [] = pure [none, none, none] from by kernel_rfl)) ?_
  refine g_bind (g_pure ?_)
  dsimp only
  refine g_bind (g_pure ?_)
  refine g_bind (g_pure ?_)
  refine g_bind (wpG_or (g_exported ?_))
  rw [if_neg (by decide)]
  refine g_bind ?_
  unfold Builtin.Bytes.exportsOf
  refine g_step (wpAny_load hx (g_pure ?_))
  refine g_pure ?_
  rw [if_neg (by decide)]
  unfold Builtin.Bytes.write
  dsimp only
  unfold updateBytearray
  refine g_bind (g_step (wpAny_load hx ?_))
  dsimp only
  refine g_step (wpAny_update hx ?_)
  have hx₂ : ((s.heap.push (baObj #[])).update x (Obj.mapBytearray fun _ => #[])).get? x = some (baObj #[]) := Heap.get?_update_self _ hx rfl
  have keep₂ : ∀ b o, s.heap.get? b = some o → ((s.heap.push (baObj #[])).update x (Obj.mapBytearray fun _ => #[])).get? b = some o := fun b o e =>
    Heap.get?_update_of_ne _ (Nat.ne_of_gt (Heap.lt_size e)) (keep b o e)
  refine lift (wpAny_lookBehind hx₂ (by decide +kernel) ?_)
  refine g_bind (g_pure ?_)
  refine g_pure ?_
  refine g_pure ?_
  refine g_pure ?_
  exact h _ keep₂ hx₂ (by simp)
end
end Mine
end
section -- G4
open PySem PySem.W PyProof.Rows PySem.Calls
set_option maxRecDepth 100000
namespace Mine
theorem wpAny_of_eq' {α : Type} {M : Model} {A : Around} {t t' : Sem α} {Q : α → Shared → Prop} {E : Value → Shared → Prop} {s : Shared} (e : t = t') (h : wpAny M A t' Q E s) : wpAny M A t Q E s := e ▸ h
section
variable {prog : Program} {w : World} {A A₀ : Around} {s : Shared} {base h₀ : Heap} {outer : List Env} {L : Addr} {m : Str → Option Value} {env : Env} {news : List (Addr × Obj)} {E : Value → Shared → Prop}
  {R : Result → Shared → Prop} {name qual : Str} {params : Arguments} {body : List Stmt} {scope : Scope} {dV kV doc pm cdv ct : Value} {an : Option Addr} {K : Frag} {oc : Value} {od : Option Addr} {osl : Array (Option Value)} {f : Addr} {args : Args} {binds : List (Str × Value)}

/-- g_def for a def without a closure, in the words of the kit's engine -/
theorem g_defF (B : Below A₀ base outer h₀) (F : Fr h₀ L s.heap m) (N : News h₀ L s.heap news) (hlim : h₀.NoLimit) (hA : A.frames = some (env :: outer)) (hf : env.frame = some L) (hke : env.scope.kind = .function)
    (X : K.In s.heap) (ho : K.lookup f = some ⟨oc, od, .func (fnOf name qual params body scope dV kV doc pm an cdv ct), osl⟩) (hcd : codeIn K cdv qual = true) (hroom : A.depth < recursionLimit)
    (hbind : BindsTo s (fnOf name qual params body scope dV kV doc pm an cdv ct) args binds) (hloc : ∀ y ∈ binds, scope.names.lookup y.1 = some .local)
    (h : ∀ g L' h₁, (∀ b o, s.heap.get? b = some o → b ∉ news.map (·.1) → g.get? b = some o) → Fr g L' h₁ (fun y => binds.reverse.lookup y) → News g L' h₁ news → Below A base (env :: outer) g → h₀.StaysIn g → (∀ p ∈ news, p.1 < L') →
      wpG (model prog w) (A.deeper (envOf qual scope L' f cdv)) (execs body (envOf qual scope L' f cdv))
        (fun fl s' => R (.ok (.ret (match fl with | .ret v => v | _ => .none))) s') (fun _ _ => False) { s with heap := h₁, toks := s.toks + binds.length })
    (hcell : ∀ x ∈ scope.names, x.2 ≠ .cell) (hco : scope.isCoroutine = false := by rfl) (hgen : scope.isGenerator = false := by rfl) (hk : scope.kind = .function := by rfl) : codeG (model prog w) A (.call (.ref f) args) R s :=
  g_def (cl := []) B F N hlim hA hf hke (X _ _ ho) rfl (codeRec_of X hcd) hroom hbind hloc h hcell hco hgen hk

theorem a_defF (B : Below A₀ base outer h₀) (F : Fr h₀ L s.heap m) (N : News h₀ L s.heap news) (hlim : h₀.NoLimit) (hA : A.frames = some (env :: outer)) (hf : env.frame = some L) (hke : env.scope.kind = .function)
    (X : K.In s.heap) (ho : K.lookup f = some ⟨oc, od, .func (fnOf name qual params body scope dV kV doc pm an cdv ct), osl⟩) (hcd : codeIn K cdv qual = true) (hroom : A.depth < recursionLimit)
    (hbind : BindsTo s (fnOf name qual params body scope dV kV doc pm an cdv ct) args binds) (hloc : ∀ y ∈ binds, scope.names.lookup y.1 = some .local)
    (h : ∀ g L' h₁, (∀ b o, s.heap.get? b = some o → b ∉ news.map (·.1) → g.get? b = some o) → Fr g L' h₁ (fun y => binds.reverse.lookup y) → News g L' h₁ news → Below A base (env :: outer) g → h₀.StaysIn g → (∀ p ∈ news, p.1 < L') →
      wpAny (model prog w) (A.deeper (envOf qual scope L' f cdv)) (execs body (envOf qual scope L' f cdv))
        (fun fl s' => R (.ok (.ret (match fl with | .ret v => v | _ => .none))) s') (fun _ _ => False) { s with heap := h₁, toks := s.toks + binds.length })
    (hcell : ∀ x ∈ scope.names, x.2 ≠ .cell) (hco : scope.isCoroutine = false := by rfl) (hgen : scope.isGenerator = false := by rfl) (hk : scope.kind = .function := by rfl) : codeAny (model prog w) A (.call (.ref f) args) R s :=
  a_def (cl := []) B F N hlim hA hf hke (X _ _ ho) rfl (codeRec_of X hcd) hroom hbind hloc h hcell hco hgen hk

/-- a def whose binding lays something first (*args, **kwargs) -/
theorem a_defB {s₂ : Shared} (B : Below A₀ base outer h₀) (F : Fr h₀ L s₂.heap m) (N : News h₀ L s₂.heap news) (hlim : h₀.NoLimit) (hA : A.frames = some (env :: outer)) (hf : env.frame = some L) (hke : env.scope.kind = .function)
    (X : K.In s.heap) (ho : K.lookup f = some ⟨oc, od, .func (fnOf name qual params body scope dV kV doc pm an cdv ct), osl⟩) (hcd : codeIn K cdv qual = true) (hroom : A.depth < recursionLimit)
    (hbind : ∀ (M : Model) (A : Around) (E : Value → Shared → Prop) (Q : List (Str × Value) → Shared → Prop), Q binds s₂ → wpAny M A (bindArgs (fnOf name qual params body scope dV kV doc pm an cdv ct) args) Q E s) (hloc : ∀ y ∈ binds, scope.names.lookup y.1 = some .local)
    (h : ∀ g L' h₁, (∀ b o, s₂.heap.get? b = some o → b ∉ news.map (·.1) → g.get? b = some o) → Fr g L' h₁ (fun y => binds.reverse.lookup y) → News g L' h₁ news → Below A base (env :: outer) g → h₀.StaysIn g → (∀ p ∈ news, p.1 < L') → s₂.heap.objs.size ≤ L' →
      wpAny (model prog w) (A.deeper (envOf qual scope L' f cdv)) (execs body (envOf qual scope L' f cdv))
        (fun fl s' => R (.ok (.ret (match fl with | .ret v => v | _ => .none))) s') (fun _ _ => False) { s₂ with heap := h₁, toks := s₂.toks + binds.length })
    (hcell : ∀ x ∈ scope.names, x.2 ≠ .cell) (hco : scope.isCoroutine = false := by rfl) (hgen : scope.isGenerator = false := by rfl) (hk : scope.kind = .function := by rfl) : codeAny (model prog w) A (.call (.ref f) args) R s := by
  obtain ⟨FG, BG, st, lv⟩ := groundX (R := R) B F N hA hf hke
  refine codeAny_call_function (fd := fnOf name qual params body scope dV kV doc pm an cdv ct) (body := body) hroom (X _ _ ho) rfl hco hgen rfl (codeRec_of X hcd) (hbind _ _ _ _ ?_)
  refine wpAny_newFunctionEnv hcell hloc (fun h₁ hns hsb => ⟨(hlim.keeps F.keep).fresh _ hsb, codeAny_func ?_⟩) hk
  have hk₁ : ∀ b o, s₂.heap.get? b = some o → h₁.get? b = some o := fun b o e => hsb.extBut b o (Nat.ne_of_lt (Heap.lt_size e)) (Heap.get?_push_of_some _ e)
  show wpAny (model prog w) (A.deeper (envX qual scope s₂.heap.objs.size f cdv [])) (execs body (envX qual scope s₂.heap.objs.size f cdv [])) _ _ _
  exact wpAny_mono (h _ s₂.heap.objs.size h₁ (fun b o e nb => hideAll_get _ e nb) ⟨hns, fun b o e => hk₁ b o (of_hideAll _ e), Nat.le_of_eq (hideAll_size _ _)⟩
    (fun p hp => ⟨hk₁ _ _ (N p hp).1, Nat.ne_of_lt (Heap.lt_size (N p hp).1), hideAll_none _ (List.mem_map_of_mem hp)⟩) BG st (fun p hp => Heap.lt_size (N p hp).1) (Nat.le_refl _)) (fun _ _ x => x) fun _ _ x => x.elim
end

theorem frGrow {g h h' : Heap} {L : Addr} {m : Str → Option Value} (F : Fr g L h m) (k : ∀ b o, h.get? b = some o → h'.get? b = some o) : Fr g L h' m :=
  let ⟨oL, es, ep, hL, r⟩ := F.ns
  ⟨⟨oL, es, ep, k _ _ hL, r⟩, fun b o e => k _ _ (F.keep b o e), F.above⟩
theorem newsGrow {g h h' : Heap} {L : Addr} {news : List (Addr × Obj)} (N : News g L h news) (k : ∀ b o, h.get? b = some o → h'.get? b = some o) : News g L h' news :=
  fun p hp => ⟨k _ _ (N p hp).1, (N p hp).2⟩
theorem newsAdd {g h h' : Heap} {L y : Addr} {oy : Obj} {m : Str → Option Value} {news : List (Addr × Obj)} (F : Fr g L h m) (N : News g L h' news) (hy : h'.get? y = some oy) (f : h.objs.size ≤ y) : News g L h' ((y, oy) :: news) :=
  fun p hp => by
    rcases List.mem_cons.mp hp with rfl | hp
    · obtain ⟨oL, _, _, hL, _⟩ := F.ns
      refine ⟨hy, fun e => ?_, ?_⟩
      · have q : L < h.objs.size := Heap.lt_size hL
        exact absurd ((show y = L from e) ▸ q : y < h.objs.size) (Nat.not_lt.mpr f)
      · cases q : g.get? y with
        | none => rfl
        | some o => exact absurd (Heap.lt_size (F.keep _ _ q)) (Nat.not_lt.mpr f)
    · exact N p hp
theorem g_args0 {M : Model} {A : Around} {E : Value → Shared → Prop} {s : Shared} {f : Value} {Q : Args → Shared → Prop} (h : Q ⟨[], []⟩ s) : wpG M A (evalArgs f true [] []) Q E s := lift (evalArgs_nil3 h)

/-- a halt for the engine -/
def Stop (P : Prop) : Prop := P
theorem Stop.mk {P : Prop} (h : P) : Stop P := h
theorem Stop.out {P : Prop} (h : Stop P) : P := h

/-- the locals of a def are where a frame says, or the ledger's: what stays -/
theorem keepOf {s : Shared} {g h' : Heap} {L' : Addr} {m' : Str → Option Value} (hk : ∀ b o, s.heap.get? b = some o → b ∉ (([] : List (Addr × Obj)).map (·.1)) → g.get? b = some o) (F : Fr g L' h' m') :
    ∀ b o, s.heap.get? b = some o → h'.get? b = some o := fun b o e => F.keep b o (hk b o e (fun q => nomatch q))
end Mine
end
section -- G5
open PySem PySem.W PyProof.Rows PySem.Calls
set_option maxRecDepth 100000
namespace Mine

/- rows of pairs, by name -/
def look {α : Type} (S : List (Str × α)) (k : Str) : Option α := (S.find? fun p => p.1 = k).map (·.2)
def sd {α : Type} (S : List (Str × α)) (k : Str) (d : α) : List (Str × α) := if (look S k).isSome then S else S ++ [(k, d)]
theorem valueAt_look (S : List (Str × Value)) (k : Str) : valueAt S k = look S k := rfl
theorem sd_old {α : Type} {S : List (Str × α)} {k : Str} {d : α} (h : (look S k).isSome = true) : sd S k d = S := by unfold sd; rw [if_pos h]
theorem sd_new {α : Type} {S : List (Str × α)} {k : Str} {d : α} (h : look S k = none) : sd S k d = S ++ [(k, d)] := by unfold sd; rw [h]; rfl
theorem sd_len {α : Type} {S : List (Str × α)} {k : Str} {d : α} {n : Nat} (h : S.length ≤ n) : (sd S k d).length ≤ n + 1 := by
  unfold sd
  split
  · exact Nat.le_trans h (Nat.le_succ n)
  · rw [List.length_append]; exact Nat.succ_le_succ h
theorem look_append {α : Type} (S T : List (Str × α)) (k : Str) : look (S ++ T) k = (look S k).or (look T k) := by
  unfold look
  rw [List.find?_append]
  cases List.find? (fun p => decide (p.1 = k)) S <;> rfl
theorem look_sd {α : Type} (S : List (Str × α)) (k k' : Str) (d : α) : look (sd S k d) k' = if k' = k then some ((look S k).getD d) else look S k' := by
  unfold sd
  cases h : look S k with
  | some x =>
    simp only [Option.isSome_some, if_true, Option.getD_some]
    split
    · rename_i e; rw [e, h]
    · rfl
  | none =>
    simp only [Option.isSome_none, Bool.false_eq_true, if_false, Option.getD_none]
    rw [look_append]
    split
    · rename_i e
      subst e
      rw [h]
      simp [look]
    · rename_i e
      have : look [(k, d)] k' = none := by
        unfold look
        simp [show k ≠ k' from fun q => e q.symm]
      rw [this, Option.or_none]

/- what a value of an environ says -/
inductive D where
  | str (s : Str) | int (n : Int) | ver | obj (a : Addr)
  deriving DecidableEq
abbrev tupObj (items : Array Value) : Obj := { cls := .type "tuple", data := .seq items }
def DV (know : Addr → Obj → Prop) : Value → D → Prop
  | .str s _, .str s' => s = s'
  | .int n _, .int n' => n = n'
  | .ref a, .ver => ∃ t u, know a (tupObj #[.int 1 t, .int 0 u])
  | .ref a, .obj b => a = b ∧ ∃ C dx, know a (instObj C dx)
  | _, _ => False
theorem DV.mono {P Q : Addr → Obj → Prop} (h : ∀ a o, (∀ n ep, o.data ≠ .dict n ep) → P a o → Q a o) : ∀ {v : Value} {d : D}, DV P v d → DV Q v d := by
  intro v d x
  cases d <;> cases v <;> first | exact x | exact x.elim | skip
  · obtain ⟨t, u, k⟩ := x; exact ⟨t, u, h _ _ (fun _ _ e => nomatch e) k⟩
  · obtain ⟨e, C, dx, k⟩ := x; exact ⟨e, C, dx, h _ _ (fun _ _ e => nomatch e) k⟩

def Rel (know : Addr → Obj → Prop) : List (Str × Value) → List (Str × D) → Prop
  | [], [] => True
  | (k, v) :: r, (k', d) :: r' => k = k' ∧ DV know v d ∧ Rel know r r'
  | _, _ => False
theorem Rel.mono {P Q : Addr → Obj → Prop} (h : ∀ a o, (∀ n ep, o.data ≠ .dict n ep) → P a o → Q a o) : ∀ {l : List (Str × Value)} {S : List (Str × D)}, Rel P l S → Rel Q l S
  | [], [], _ => trivial
  | (_, _) :: _, (_, _) :: _, ⟨a, b, c⟩ => ⟨a, b.mono h, c.mono h⟩
theorem Rel.length {P : Addr → Obj → Prop} : ∀ {l : List (Str × Value)} {S : List (Str × D)}, Rel P l S → l.length = S.length
  | [], [], _ => rfl
  | (_, _) :: _, (_, _) :: _, ⟨_, _, c⟩ => by rw [List.length_cons, List.length_cons, c.length]
theorem Rel.append {P : Addr → Obj → Prop} : ∀ {l l' : List (Str × Value)} {S S' : List (Str × D)}, Rel P l S → Rel P l' S' → Rel P (l ++ l') (S ++ S')
  | [], _, [], _, _, h => h
  | (_, _) :: _, _, (_, _) :: _, _, ⟨a, b, c⟩, h => ⟨a, b, c.append h⟩
theorem Rel.look {P : Addr → Obj → Prop} {k : Str} : ∀ {l : List (Str × Value)} {S : List (Str × D)}, Rel P l S → match look l k, look S k with
    | some v, some d => DV P v d
    | none, none => True
    | _, _ => False
  | [], [], _ => trivial
  | (k₁, v) :: l, (k₂, d) :: S, ⟨a, b, c⟩ => by
    subst a
    by_cases h : k₁ = k
    · have e1 : Mine.look ((k₁, v) :: l) k = some v := by simp [Mine.look, h]
      have e2 : Mine.look ((k₁, d) :: S) k = some d := by simp [Mine.look, h]
      rw [e1, e2]; exact b
    · have e1 : Mine.look ((k₁, v) :: l) k = Mine.look l k := by simp [Mine.look, h]
      have e2 : Mine.look ((k₁, d) :: S) k = Mine.look S k := by simp [Mine.look, h]
      rw [e1, e2]; exact c.look
theorem Rel.isSome {P : Addr → Obj → Prop} {k : Str} {l : List (Str × Value)} {S : List (Str × D)} (h : Rel P l S) : (Mine.look l k).isSome = (Mine.look S k).isSome := by
  have := h.look (k := k)
  cases e1 : Mine.look l k <;> cases e2 : Mine.look S k <;> rw [e1, e2] at this <;> first | rfl | exact this.elim
theorem Rel.at {P : Addr → Obj → Prop} {k : Str} {l : List (Str × Value)} {S : List (Str × D)} {d : D} (h : Rel P l S) (e : Mine.look S k = some d) : ∃ v, Mine.look l k = some v ∧ DV P v d := by
  have := h.look (k := k)
  cases e1 : Mine.look l k <;> rw [e1, e] at this
  · exact this.elim
  · exact ⟨_, rfl, this⟩
theorem Rel.none {P : Addr → Obj → Prop} {k : Str} {l : List (Str × Value)} {S : List (Str × D)} (h : Rel P l S) (e : Mine.look S k = .none) : Mine.look l k = .none := by
  have := h.isSome (k := k)
  rw [e] at this
  cases q : Mine.look l k with
  | none => rfl
  | some _ => rw [q] at this; cases this
theorem Rel.sd {P : Addr → Obj → Prop} {k : Str} {l : List (Str × Value)} {S : List (Str × D)} {v : Value} {d : D} (h : Rel P l S) (b : DV P v d) : Rel P (sd l k v) (sd S k d) := by
  unfold Mine.sd
  rw [h.isSome]
  split
  · exact h
  · exact h.append ⟨rfl, b, trivial⟩

section
variable {prog : Program} {w : World} {A : Around} {E : Value → Shared → Prop} {s : Shared} {h₀ : Heap} {L d : Addr} {m : Str → Option Value} {news : List (Addr × Obj)} {u : Obj → List (Addr × Obj)} {o : Obj} {kvs : List (Str × Value)} {k : Str} {t : Tok} {dflt : Value}
theorem updF_self (U : UpdF d o news u) : u o = news := by
  obtain ⟨pre, post, rfl, hg, _, _⟩ := U.split
  exact hg o
theorem my_setdef {Q : Value → Shared → Prop} (F : Fr h₀ L s.heap m) (N : News h₀ L s.heap news) (U : UpdF d o news u) (hd : o.IsDictOf (strKind prog w) kvs) (lo : (d == sysModules) = false) (hsz : kvs.length ≤ sizeLine)
    (h : ∀ h' o' v', Fr h₀ L h' m → News h₀ L h' (u o') → o'.IsDictOf (strKind prog w) (sd kvs k dflt) → Q v' { s with heap := h', toks := s.toks + 1 }) :
    wpAny (model prog w) A (call (.builtin "dict.setdefault") [.ref d, .str k t, dflt]) Q E s := by
  have hp : (d, o) ∈ news := by
    obtain ⟨pre, post, rfl, hg, _, _⟩ := U.split
    exact List.mem_append_right _ (.head _)
  cases e : valueAt kvs k with
  | some v => exact kob_setdef_there N hp hd lo (strKind_is _ _ _ _) (PySem.F.args_dict_setdefault_3 _ _ _) e hsz (h _ o v F (by rw [updF_self U]; exact N) (by rw [sd_old (show (look kvs k).isSome = true from by rw [← valueAt_look, e]; rfl)]; exact hd))
  | none =>
    refine kob_setdef_new F N U hd lo (strKind_is _ _ _ _) (PySem.F.args_dict_setdefault_3 _ _ _) e hsz fun h' o' F' N' hd' => h h' o' _ F' N' ?_
    rw [sd_new (show look kvs k = none from e)]
    rw [stored_absent e] at hd'
    exact hd'
theorem dv_str {P : Addr → Obj → Prop} {x : Str} {t : Tok} : DV P (.str x t) (.str x) := rfl
theorem dv_int {P : Addr → Obj → Prop} {n : Int} {t : Tok} : DV P (.int n t) (.int n) := rfl
/-- setdefault, told by rows -/
theorem my_setdefR {Q : Value → Shared → Prop} {P : Addr → Obj → Prop} {S : List (Str × D)} {dv : D} {n : Nat} (F : Fr h₀ L s.heap m) (N : News h₀ L s.heap news) (U : UpdF d o news u) (hd : o.IsDictOf (strKind prog w) kvs) (lo : (d == sysModules) = false) (r : Rel P kvs S) (hv : DV P dflt dv)
    (hl : kvs.length ≤ n) (hn : n ≤ 1000)
    (h : ∀ h' o' v' kvs', Fr h₀ L h' m → News h₀ L h' (u o') → o'.IsDictOf (strKind prog w) kvs' → Rel P kvs' (sd S k dv) → kvs'.length ≤ n + 1 → Q v' { s with heap := h', toks := s.toks + 1 }) :
    wpAny (model prog w) A (call (.builtin "dict.setdefault") [.ref d, .str k t, dflt]) Q E s :=
  my_setdef F N U hd lo (Nat.le_trans hl (Nat.le_trans hn (by rw [sizeLine_eq]; decide))) fun h' o' v' F' N' hd' => h h' o' v' _ F' N' hd' (r.sd hv) (sd_len hl)

open PySem.SeqAt in
/-- None in a tuple of texts -/
theorem none_in_strs {a : Addr} {items : List Value} {Q : Value → Shared → Prop} (N : News h₀ L s.heap news) (hm : (a, tupObj items.toArray) ∈ news) (hs : ∀ y ∈ items, ∃ x t, y = .str x t) (h : Q (.bool false) s) :
    wpAny (model prog w) A (compareOp .In .none (.ref a)) Q E s := by
  refine in_tupleAt (fun _ => false) ⟨_, (N _ hm).1, rfl, _, rfl⟩ (fun y hy => ?_) ?_
  · obtain ⟨x, t, rfl⟩ := hs y (by simpa using hy)
    exact EqAt.str_none _ _
  · have e : items.toArray.any (fun _ => false) = false := by simp
    rw [e]; exact h
end
end Mine
end
section -- L2a
open PySem PySem.W PyProof.Rows PySem.Calls
set_option maxRecDepth 100000
namespace Mine
set_option maxHeartbeats 8000000
abbrev AR (dep : Nat) (outer : List Env) (gs : Option (List Code)) (un : Nat) : Around := ⟨none, dep, some outer, gs, un⟩
local macro_rules | `(tactic| k_room) => `(tactic| ((try simp only [depth_mark, depth_under_make, depth_under_kw, depth_in1, depth_deeper, depth_caller]); (show _ + _ < 1000); omega))

theorem newBy_329 {p : Program} {w : World} {h : Heap} (X : (hd.heap_39 w.params).In h) : NewBy (model p w) h 329 116 where
  obj := clsOk_of X (by kernel_rfl)
  made := Looks.of_peek X (by kernel_rfl)
  base := Looks.of_peek X (by kernel_rfl)
  root := Looks.of_peek X (by kernel_rfl)
  self := Looks.of_peek X (by kernel_rfl)
  top := Looks.of_peek X (by kernel_rfl)
  call := Looks.of_peek X (by kernel_rfl)
  typ := Looks.of_peek X (by kernel_rfl)
  init := Looks.of_peek X (by kernel_rfl)
  bindI := fun self => Looks.of_peek X (by kernel_rfl)
  isTy := Looks.of_peek X (by kernel_rfl)

theorem newIO {w : World} {p : Program} {loose : List Str} {mg mb : Str → Option Value} {A₀ : Around} {base h₀ : Heap} {outer : List Env} {L a : Addr} {m : Str → Option Value} {cn : Str} {ns : List (Str × NameKind)} {mo : List (Str × Const)} {mean : ExcName → Option Value} {ccd : Value} {s : Shared} {dep un : Nat} {gs : Option (List Code)}
    {Q : Value → Shared → Prop}
    (X : (hd.heap_39 w.params).In h₀) (T : Top p loose mean mg mb h₀) (TR : TopRead p loose mg mb h₀) (B : Below A₀ base outer h₀) (F : Fr h₀ L s.heap m) (N : News h₀ L s.heap []) (hdep : dep < 500) (hun : un < 1000)
    (post : ∀ x dx h' t', (∀ b o, s.heap.get? b = some o → h'.get? b = some o) → h'.get? x = some (instObj 329 dx) → h'.get? dx = some emptyDict → s.heap.objs.size ≤ dx → dx < x → Q (.ref x) { s with heap := h', toks := t' }) :
    wpAny (model PySem.Challenge.rw_kn0093_02.row.prog w) ((AR dep (envOf cn ⟨.function, ns, false, false, mo⟩ L a ccd :: outer) gs un).under (.builtin "type.__call__" ⟨[.ref 329], []⟩)) (getAttr (.ref 329) "__new__") (fun v s₁ => v = .ref 69 ∧ Stop (
      wpAny (model PySem.Challenge.rw_kn0093_02.row.prog w) ((AR dep (envOf cn ⟨.function, ns, false, false, mo⟩ L a ccd :: outer) gs un).under (.builtin "type.__call__" ⟨[.ref 329], []⟩)) (call (.ref 69) [.ref 329]) Q (fun _ _ => False) s₁)) (fun _ _ => False) s := by
  k_steps
  refine Stop.mk ?_
  refine wpAny_call ?_
  have X' := X.keeps F.keep
  refine' a_defB (s₂ := { s with heap := (s.heap.push { cls := .type "tuple", data := .seq ([] : List Value).toArray }).push (dictOf [] 0), toks := s.toks + 1 }) (news := []) (env := envOf cn ⟨.function, ns, false, false, mo⟩ L a ccd)
    (binds := [("cls", .ref 329), ("args", .ref s.heap.objs.size), ("kwargs", .ref (s.heap.push { cls := .type "tuple", data := .seq ([] : List Value).toArray }).objs.size)])
    B ((F.push _).push _) (fun _ hp => nomatch hp) T.nolimit ?hA ?hf ?hke X' ?ho ?hcd ?hroom (fun M A E Q hq => ?hb) ?hloc (fun g L' h₁ hk F₁ N₁ B₁ st _ hL => ?_) ?hcell ?c1 ?c2 ?c3
  case hA => rfl
  case hf => rfl
  case hke => rfl
  case ho => k_is
  case hcd => k_is
  case hroom => k_room
  case hloc => exact locs rfl
  case hcell => decide
  case c1 => rfl
  case c2 => rfl
  case c3 => rfl
  case hb =>
    refine wpAny_of_eq' (show _ = (do
      let C ← alloc { cls := .type "tuple", data := .seq ([] : List Value).toArray }
      let D ← alloc (dictOf [] 0)
      pure [(("cls" : Str), Value.ref 329), ("args", .ref C), ("kwargs", .ref D)]) from by kernel_rfl) ?_
    exact wpAny_bind (wpAny_alloc (wpAny_bind (wpAny_alloc (wpAny_pure hq))))
  have X₁ := X.keeps st
  have T₁ := T.keeps st
  have TR₁ := topRead_of T₁
  k_steps
  refine wpAny_call (objnew_user (newBy_329 (X₁.keeps F₁.keep)) ?_)
  have hx : ((h₁.push emptyDict).push (instObj 329 h₁.objs.size)).get? (h₁.objs.size + 1) = some (instObj 329 h₁.objs.size) := by heap_get
  have hd' : ((h₁.push emptyDict).push (instObj 329 h₁.objs.size)).get? h₁.objs.size = some emptyDict := by heap_get
  refine post _ _ _ _ (fun b o e => Heap.get?_push_of_some _ (Heap.get?_push_of_some _ (F₁.keep b o (hk b o (Heap.get?_push_of_some _ (Heap.get?_push_of_some _ e)) (fun q => nomatch q))))) hx hd' ?_ (Nat.lt_succ_self _)
  have := F₁.above
  obtain ⟨oL, _, _, hoL, _⟩ := F₁.ns
  have q : L' < h₁.objs.size := Heap.lt_size hoL
  simp only [Heap.size_push] at hL
  exact Nat.le_of_lt (Nat.lt_of_le_of_lt (Nat.le_trans (Nat.le_add_right _ 2) hL) q)

theorem newBy_576 {p : Program} {w : World} {h : Heap} (X : (hd.heap_39 w.params).In h) : NewBy (model p w) h 576 346 where
  obj := clsOk_of X (by kernel_rfl)
  made := Looks.of_peek X (by kernel_rfl)
  base := Looks.of_peek X (by kernel_rfl)
  root := Looks.of_peek X (by kernel_rfl)
  self := Looks.of_peek X (by kernel_rfl)
  top := Looks.of_peek X (by kernel_rfl)
  call := Looks.of_peek X (by kernel_rfl)
  typ := Looks.of_peek X (by kernel_rfl)
  init := Looks.of_peek X (by kernel_rfl)
  bindI := fun self => Looks.of_peek X (by kernel_rfl)
  isTy := Looks.of_peek X (by kernel_rfl)

theorem newSIO {w : World} {p : Program} {loose : List Str} {mg mb : Str → Option Value} {A₀ : Around} {base h₀ : Heap} {outer : List Env} {L a : Addr} {m : Str → Option Value} {cn : Str} {ns : List (Str × NameKind)} {mo : List (Str × Const)} {mean : ExcName → Option Value} {ccd : Value} {s : Shared} {dep un : Nat} {gs : Option (List Code)}
    {Q : Value → Shared → Prop}
    (X : (hd.heap_39 w.params).In h₀) (T : Top p loose mean mg mb h₀) (TR : TopRead p loose mg mb h₀) (B : Below A₀ base outer h₀) (F : Fr h₀ L s.heap m) (N : News h₀ L s.heap []) (hdep : dep < 500) (hun : un < 1000)
    (post : ∀ x dx h' t', (∀ b o, s.heap.get? b = some o → h'.get? b = some o) → h'.get? x = some (instObj 576 dx) → h'.get? dx = some emptyDict → s.heap.objs.size ≤ dx → dx < x → Q (.ref x) { s with heap := h', toks := t' }) :
    wpAny (model PySem.Challenge.rw_kn0093_02.row.prog w) ((AR dep (envOf cn ⟨.function, ns, false, false, mo⟩ L a ccd :: outer) gs un).under (.builtin "type.__call__" ⟨[.ref 576], []⟩)) (getAttr (.ref 576) "__new__") (fun v s₁ => v = .ref 69 ∧ Stop (
      wpAny (model PySem.Challenge.rw_kn0093_02.row.prog w) ((AR dep (envOf cn ⟨.function, ns, false, false, mo⟩ L a ccd :: outer) gs un).under (.builtin "type.__call__" ⟨[.ref 576], []⟩)) (call (.ref 69) [.ref 576]) Q (fun _ _ => False) s₁)) (fun _ _ => False) s := by
  k_steps
  refine Stop.mk ?_
  refine wpAny_call ?_
  have X' := X.keeps F.keep
  refine' a_defB (s₂ := { s with heap := (s.heap.push { cls := .type "tuple", data := .seq ([] : List Value).toArray }).push (dictOf [] 0), toks := s.toks + 1 }) (news := []) (env := envOf cn ⟨.function, ns, false, false, mo⟩ L a ccd)
    (binds := [("cls", .ref 576), ("args", .ref s.heap.objs.size), ("kwargs", .ref (s.heap.push { cls := .type "tuple", data := .seq ([] : List Value).toArray }).objs.size)])
    B ((F.push _).push _) (fun _ hp => nomatch hp) T.nolimit ?hA ?hf ?hke X' ?ho ?hcd ?hroom (fun M A E Q hq => ?hb) ?hloc (fun g L' h₁ hk F₁ N₁ B₁ st _ hL => ?_) ?hcell ?c1 ?c2 ?c3
  case hA => rfl
  case hf => rfl
  case hke => rfl
  case ho => k_is
  case hcd => k_is
  case hroom => k_room
  case hloc => exact locs rfl
  case hcell => decide
  case c1 => rfl
  case c2 => rfl
  case c3 => rfl
  case hb =>
    refine wpAny_of_eq' (show _ = (do
      let C ← alloc { cls := .type "tuple", data := .seq ([] : List Value).toArray }
      let D ← alloc (dictOf [] 0)
      pure [(("cls" : Str), Value.ref 576), ("args", .ref C), ("kwargs", .ref D)]) from by kernel_rfl) ?_
    exact wpAny_bind (wpAny_alloc (wpAny_bind (wpAny_alloc (wpAny_pure hq))))
  have X₁ := X.keeps st
  have T₁ := T.keeps st
  have TR₁ := topRead_of T₁
  k_steps
  refine wpAny_call (objnew_user (newBy_576 (X₁.keeps F₁.keep)) ?_)
  have hx : ((h₁.push emptyDict).push (instObj 576 h₁.objs.size)).get? (h₁.objs.size + 1) = some (instObj 576 h₁.objs.size) := by heap_get
  have hd' : ((h₁.push emptyDict).push (instObj 576 h₁.objs.size)).get? h₁.objs.size = some emptyDict := by heap_get
  refine post _ _ _ _ (fun b o e => Heap.get?_push_of_some _ (Heap.get?_push_of_some _ (F₁.keep b o (hk b o (Heap.get?_push_of_some _ (Heap.get?_push_of_some _ e)) (fun q => nomatch q))))) hx hd' ?_ (Nat.lt_succ_self _)
  have := F₁.above
  obtain ⟨oL, _, _, hoL, _⟩ := F₁.ns
  have q : L' < h₁.objs.size := Heap.lt_size hoL
  simp only [Heap.size_push] at hL
  exact Nat.le_of_lt (Nat.lt_of_le_of_lt (Nat.le_trans (Nat.le_add_right _ 2) hL) q)

end Mine
end
section -- L2b
open PySem PySem.W PyProof.Rows PySem.Calls
set_option maxRecDepth 100000
namespace Mine
set_option maxHeartbeats 8000000
local macro_rules | `(tactic| k_room) => `(tactic| ((try simp only [depth_mark, depth_under_make, depth_under_kw, depth_in1, depth_deeper, depth_caller]); (show _ + _ < 1000); omega))

theorem notNews {h : Heap} {x dx b : Addr} {o o₁ o₂ : Obj} (e : h.get? b = some o) (f1 : h.objs.size ≤ dx) (f2 : dx < x) : b ∉ [(x, o₁), (dx, o₂)].map (·.1) := fun q => by
  have e := ltN (Heap.lt_size e)
  rcases List.mem_cons.mp q with rfl | q
  · exact absurd (Nat.lt_of_le_of_lt f1 f2) (Nat.not_lt.mpr (Nat.le_of_lt e))
  · obtain rfl := List.mem_singleton.mp q
    exact absurd f1 (Nat.not_le.mpr e)

theorem bytesIO_call {w : World} {p : Program} {loose : List Str} {mg mb : Str → Option Value} {A₀ : Around} {base h₀ : Heap} {outer : List Env} {L a : Addr} {m : Str → Option Value} {cn : Str} {ns : List (Str × NameKind)} {mo : List (Str × Const)} {mean : ExcName → Option Value} {ccd : Value} {s : Shared} {dep un : Nat} {gs : Option (List Code)}
    {R : Result → Shared → Prop}
    (X : (hd.heap_39 w.params).In h₀) (T : Top p loose mean mg mb h₀) (B : Below A₀ base outer h₀) (F : Fr h₀ L s.heap m) (hdep : dep < 500) (hun : un < 1000)
    (post : ∀ x dx y t₁ t₂ t₃ h' t', (∀ b o, s.heap.get? b = some o → h'.get? b = some o) → h'.get? x = some (instObj 329 dx) → h'.get? dx = some (dictOf [⟨PyData.keyHash w.params "_BytesIO__buf", .str "_BytesIO__buf" t₁, .ref y⟩, ⟨PyData.keyHash w.params "_BytesIO__pos", .str "_BytesIO__pos" t₂, .int 0 t₃⟩] 2) →
      h'.get? y = some (baObj #[]) → s.heap.objs.size ≤ dx → dx < x → x < y → R (.ok (.ret (.ref x))) { s with heap := h', toks := t' }) :
    codeG (model PySem.Challenge.rw_kn0093_02.row.prog w) (AR dep (envOf cn ⟨.function, ns, false, false, mo⟩ L a ccd :: outer) gs un) (.call (.ref 329) ⟨[], []⟩) R s := by
  refine make_userG (newBy_329 (X.keeps F.keep)) (fN := 69) (newIO X T (topRead_of T) B F (fun _ hp => nomatch hp) hdep hun fun x dx h' t' hk₀ hx hdx f1 f2 => ⟨x, dx, rfl, hx, hk₀, ?_⟩)
  have F' := frGrow F hk₀
  have N' : News h₀ L h' [(x, instObj 329 dx), (dx, emptyDict)] := newsAdd F (newsAdd F (fun _ hp => nomatch hp) hdx f1) hx (Nat.le_of_lt (Nat.lt_of_le_of_lt f1 f2))
  have X' := X.keeps F'.keep
  have hne := ltN f2
  refine' g_defF (s := { s with heap := h', toks := t' }) (news := [(x, instObj 329 dx), (dx, emptyDict)]) (env := envOf cn ⟨.function, ns, false, false, mo⟩ L a ccd)
    B F' N' T.nolimit ?hA ?hf ?hke X' ?ho ?hcd ?hroom ?hb ?hloc (fun g L' h₁ hk F₁ N₁ B₁ st hlt => ?_) ?hcell ?c1 ?c2 ?c3
  case hA => rfl
  case hf => rfl
  case hke => rfl
  case ho => k_is
  case hcd => k_is
  case hroom => k_room
  case hb => first | exact BindsTo.of_eq rfl | exact binds_K X' rfl (by k_is) rfl rfl rfl
  case hloc => exact locs rfl
  case hcell => decide
  case c1 => rfl
  case c2 => rfl
  case c3 => rfl
  have X₁ := X.keeps st
  have T₁ := T.keeps st
  have TR₁ := topRead_of T₁
  refine g_execs (lift ?_)
  k_steps
  dsimp only
  refine g_execs (g_SetAttr (g_IfExp (lift ?_)))
  k_steps
  have Z := And.intro F₁ N₁
  refine g_CallName (lift ?_)
  k_steps
  obtain ⟨F₁, N₁⟩ := Z
  refine g_callWith rfl (g_args0 ⟨⟨_, .inr (.inl rfl), .now⟩, g_call (g_bytearray fun h₂ hk₂ hy hs₂ => ?_)⟩)
  dsimp only
  have F₂ := frGrow F₁ hk₂
  have N₂ : News g L' h₂ [(h₁.objs.size, baObj #[]), (x, instObj 329 dx), (dx, emptyDict)] := newsAdd F₁ (newsGrow N₁ hk₂) hy (Nat.le_refl _)
  have hn2 := ltN (Heap.lt_size (N₁ _ (.head _)).1)
  have hn3 := ltN (Heap.lt_size (N₁ _ (.tail _ (.head _))).1)
  dsimp only at hn2 hn3
  k_steps
  refine g_execs (lift ?_)
  k_steps
  dsimp only
  refine g_nil ?_
  rename Fr g L' _ _ => F₃
  rename News g L' _ _ => N₃
  refine ⟨rfl, ?_⟩
  exact post x dx h₁.objs.size _ _ _ _ _ (fun b o e => F₃.keep b o (hk b o (hk₀ b o e) (notNews e f1 f2))) (N₃ _ (.tail _ (.head _))).1 (N₃ _ (.tail _ (.tail _ (.head _)))).1 (N₃ _ (.head _)).1 f1 f2 hn2
end Mine
end
section -- L2c
open PySem PySem.W PyProof.Rows PySem.Calls
set_option maxRecDepth 100000
namespace Mine
set_option maxHeartbeats 8000000
local macro_rules | `(tactic| k_room) => `(tactic| ((try simp only [depth_mark, depth_under_make, depth_under_kw, depth_in1, depth_deeper, depth_caller]); (show _ + _ < 1000); omega))

theorem stringIO_call {w : World} {p : Program} {loose : List Str} {mg mb : Str → Option Value} {A₀ : Around} {base h₀ : Heap} {outer : List Env} {L a : Addr} {m : Str → Option Value} {cn : Str} {ns : List (Str × NameKind)} {mo : List (Str × Const)} {mean : ExcName → Option Value} {ccd : Value} {s : Shared} {dep un : Nat} {gs : Option (List Code)}
    {R : Result → Shared → Prop}
    (X : (hd.heap_39 w.params).In h₀) (T : Top p loose mean mg mb h₀) (B : Below A₀ base outer h₀) (F : Fr h₀ L s.heap m) (hdep : dep < 500) (hun : un < 1000)
    (post : ∀ x dx t₁ t₂ t₃ t₄ t₅ t₆ h' t', (∀ b o, s.heap.get? b = some o → h'.get? b = some o) → h'.get? x = some (instObj 576 dx) → h'.get? dx = some (dictOf [⟨PyData.keyHash w.params "_StringIO__newline", .str "_StringIO__newline" t₁, .str "\n" t₂⟩, ⟨PyData.keyHash w.params "_StringIO__buf", .str "_StringIO__buf" t₃, .str "" t₄⟩,
      ⟨PyData.keyHash w.params "_StringIO__pos", .str "_StringIO__pos" t₅, .int 0 t₆⟩] 3) → s.heap.objs.size ≤ dx → dx < x → R (.ok (.ret (.ref x))) { s with heap := h', toks := t' }) :
    codeG (model PySem.Challenge.rw_kn0093_02.row.prog w) (AR dep (envOf cn ⟨.function, ns, false, false, mo⟩ L a ccd :: outer) gs un) (.call (.ref 576) ⟨[], []⟩) R s := by
  refine make_userG (newBy_576 (X.keeps F.keep)) (fN := 69) (newSIO X T (topRead_of T) B F (fun _ hp => nomatch hp) hdep hun fun x dx h' t' hk₀ hx hdx f1 f2 => ⟨x, dx, rfl, hx, hk₀, ?_⟩)
  have F' := frGrow F hk₀
  have N' : News h₀ L h' [(x, instObj 576 dx), (dx, emptyDict)] := newsAdd F (newsAdd F (fun _ hp => nomatch hp) hdx f1) hx (Nat.le_of_lt (Nat.lt_of_le_of_lt f1 f2))
  have X' := X.keeps F'.keep
  have hne := ltN f2
  refine liftC ?_
  refine' a_defF (s := { s with heap := h', toks := t' }) (news := [(x, instObj 576 dx), (dx, emptyDict)]) (env := envOf cn ⟨.function, ns, false, false, mo⟩ L a ccd)
    B F' N' T.nolimit ?hA ?hf ?hke X' ?ho ?hcd ?hroom ?hb ?hloc (fun g L' h₁ hk F₁ N₁ B₁ st hlt => ?_) ?hcell ?c1 ?c2 ?c3
  case hA => rfl
  case hf => rfl
  case hke => rfl
  case ho => k_is
  case hcd => k_is
  case hroom => k_room
  case hb => first | exact BindsTo.of_eq rfl | exact binds_K X' rfl (by k_is) rfl rfl rfl
  case hloc => exact locs rfl
  case hcell => decide
  case c1 => rfl
  case c2 => rfl
  case c3 => rfl
  have X₁ := X.keeps st
  have T₁ := T.keeps st
  have TR₁ := topRead_of T₁
  k_steps
  rename Fr g L' _ _ => F₃
  rename News g L' _ _ => N₃
  exact post x dx _ _ _ _ _ _ _ _ (fun b o e => F₃.keep b o (hk b o (hk₀ b o e) (notNews e f1 f2))) (N₃ _ (.head _)).1 (N₃ _ (.tail _ (.head _))).1 f1 f2
end Mine
end
section -- L2d
open PySem PySem.W PyProof.Rows PySem.Calls
set_option maxRecDepth 100000
namespace Mine
set_option maxHeartbeats 8000000
local macro_rules | `(tactic| k_room) => `(tactic| ((try simp only [depth_mark, depth_under_make, depth_under_kw, depth_in1, depth_deeper, depth_caller]); (first | ((show _ + _ < 1000); omega) | ((show _ < 1000); omega))))

local macro_rules | `(tactic| walk_at "call builtin:dict.get") => `(tactic| (k_here; k_dflt (refine kdg_get1 (knd := PySem.strKind _ _) (by k_asm) (by k_mem) (by k_asm) (by k_asm) (strKind_is _ _ _ _) _ (by assumption) ?_); (try dsimp only [Option.getD])))
theorem strs_nil : ∀ y ∈ ([] : List Value), ∃ x t, y = .str x t := fun _ h => nomatch h
theorem strs_cons {x : Str} {t : Tok} {l : List Value} (h : ∀ y ∈ l, ∃ x t, y = .str x t) : ∀ y ∈ Value.str x t :: l, ∃ x t, y = .str x t := fun y hy => by
  rcases List.mem_cons.mp hy with rfl | hy
  · exact ⟨_, _, rfl⟩
  · exact h y hy
local macro_rules | `(tactic| walk_at "compareOp In none ref") => `(tactic| (k_here; k_dflt (refine' none_in_strs ?N ?hm ?hs ?_; (case N => k_asm); (case hm => k_mem); (case hs => first | exact strs_cons (strs_cons (strs_cons strs_nil)))))) 
theorem DV.isStr {P : Addr → Obj → Prop} {v : Value} {x : Str} (h : DV P v (.str x)) : ∃ t, v = .str x t := by
  cases v <;> first | exact h.elim | skip
  obtain rfl := (show _ = x from h)
  exact ⟨_, rfl⟩

def guessS (S : List (Str × D)) : Str := match look S "HTTPS" with
  | some (.str y) => if [("yes" : Str), "on", "1"].any (fun x => x == y) = true then ("https" : Str) else ("http" : Str)
  | _ => "http"

theorem keepOne {h g h' : Heap} {L' d : Addr} {od : Obj} {m' : Str → Option Value} {news : List (Addr × Obj)} (hk : ∀ b o, h.get? b = some o → b ∉ [(d, od)].map (·.1) → g.get? b = some o) (hd : h.get? d = some od) (F : Fr g L' h' m') (N : News g L' h' news) (hm : (d, od) ∈ news) :
    ∀ b o, h.get? b = some o → h'.get? b = some o := fun b o e => by
  by_cases q : b = d
  · subst q; rw [hd] at e; cases e; exact (N _ hm).1
  · exact F.keep _ _ (hk _ _ e (by simpa using q))

theorem guess_call {w : World} {p : Program} {loose : List Str} {mg mb : Str → Option Value} {A₀ : Around} {base h₀ : Heap} {outer : List Env} {L a d : Addr} {od : Obj} {m : Str → Option Value} {env : Env} {mean : ExcName → Option Value} {s : Shared} {dep un : Nat} {gs : Option (List Code)}
    {R : Result → Shared → Prop} {kvs : List (Str × Value)} {S : List (Str × D)} {P : Addr → Obj → Prop} (hf : env.frame = some L) (hke : env.scope.kind = .function)
    (X : (hd.heap_39 w.params).In h₀) (T : Top p loose mean mg mb h₀) (B : Below A₀ base outer h₀) (F : Fr h₀ L s.heap m) (N : News h₀ L s.heap [(d, od)]) (hdep : dep < 500) (hun : un < 1000)
    (lo : (d == sysModules) = false) (hod : od.IsDictOf (strKind PySem.Challenge.rw_kn0093_02.row.prog w) kvs) (hr : Rel P kvs S) (hH : ∀ x, look S "HTTPS" = some x → ∃ y, x = .str y)
    (post : ∀ h' t' tk, (∀ b o, s.heap.get? b = some o → h'.get? b = some o) → R (.ok (.ret (.str (guessS S) tk))) { s with heap := h', toks := t' }) :
    codeAny (model PySem.Challenge.rw_kn0093_02.row.prog w) (AR dep (env :: outer) gs un) (.call (.ref 28) ⟨[.ref d], []⟩) R s := by
  have X' := X.keeps F.keep
  refine' a_defF (news := [(d, od)]) (env := env)
    B F N T.nolimit ?hA hf hke X' ?ho ?hcd ?hroom ?hb ?hloc (fun g L' h₁ hk F₁ N₁ B₁ st hlt => ?_) ?hcell ?c1 ?c2 ?c3
  case hA => rfl
  case ho => k_is
  case hcd => k_is
  case hroom => k_room
  case hb => first | exact BindsTo.of_eq rfl | exact binds_K X' rfl (by k_is) rfl rfl rfl
  case hloc => exact locs rfl
  case hcell => decide
  case c1 => rfl
  case c2 => rfl
  case c3 => rfl
  have X₁ := X.keeps st
  have T₁ := T.keeps st
  have TR₁ := topRead_of T₁
  cases e : look S "HTTPS" with
  | none =>
    have e' : valueAt kvs "HTTPS" = none := hr.none e
    k_steps
    all_goals (
      dsimp only
      rename Fr g L' _ _ => F₂
      rename News g L' _ _ => N₂
      have hg : guessS S = "http" := by simp only [guessS, e]
      simp only [hg] at post
      exact post _ _ _ (keepOne hk (N _ (.head _)).1 F₂ N₂ (by k_mem)))
  | some x =>
    obtain ⟨y, rfl⟩ := hH x e
    obtain ⟨v, e', hv⟩ := hr.at e
    obtain ⟨t, rfl⟩ := hv.isStr
    have e'' : valueAt kvs "HTTPS" = some (.str y t) := e'
    clear e'
    k_steps
    all_goals (
      dsimp only
      rename Fr g L' _ _ => F₂
      rename News g L' _ _ => N₂
      rename (List.any _ _) = _ => hc
      have hg : guessS S = if [("yes" : Str), "on", "1"].any (fun x => x == y) = true then ("https" : Str) else ("http" : Str) := by unfold guessS; rw [e]
      rw [hc] at hg
      simp only [hg] at post
      exact post _ _ _ (keepOne hk (N _ (.head _)).1 F₂ N₂ (by k_mem)))
end Mine
end
section -- L2e
open PySem PySem.W PyProof.Rows PySem.Calls
set_option maxRecDepth 100000
namespace Mine
set_option maxHeartbeats 8000000
local macro_rules | `(tactic| k_room) => `(tactic| ((try simp only [depth_mark, depth_under_make, depth_under_kw, depth_in1, depth_deeper, depth_caller]); (first | ((show _ + _ < 1000); omega) | ((show _ < 1000); omega))))
local macro_rules | `(tactic| walk_at "call builtin:dict.setdefault") => `(tactic| (k_here; k_dflt (refine' my_setdefR ?F ?N ?U ?d ?lo ?r ?v ?l ?z ?_; (case F => k_asm); (case N => k_asm); (case U => k_updF); (case d => k_asm); (case lo => k_asm); (case r => k_asm); (case v => first | exact dv_str | exact dv_int | assumption); (case l => k_asm); (case z => decide)); intro h' o' v' kvs' F' N' hd' r' l'; (try dsimp only at N')))
local macro_rules | `(tactic| walk_at "getItem ref str") => `(tactic| (k_here; k_dflt (refine kdt_getItem (knd := PySem.strKind _ _) (by k_asm) (by k_mem) (by k_asm) (strKind_is _ _ _ _) (by assumption) ?_)))
local macro_rules | `(tactic| walk_at "subscriptTail") => `(tactic| (k_here; k_dflt (refine kda_item (knd := PySem.strKind _ _) (by k_asm) (by k_mem) (by k_asm) (strKind_is _ _ _ _) (by assumption) ?_)))
local macro_rules | `(tactic| walk_at "compareOp NotIn str ref") => `(tactic| (k_here; k_dflt (refine kdg_notin (knd := PySem.strKind _ _) (by k_asm) (by k_mem) (by k_asm) (by k_asm) (strKind_is _ _ _ _) _ (by assumption) ?_); (try dsimp only [Bool.not_true, Bool.not_false])))

def FreshB (P : Params) (h : Heap) (x dx y : Addr) (b : Array UInt8) (n : Int) : Prop :=
  h.get? x = some (instObj 329 dx) ∧ (∃ t₁ t₂ t₃, h.get? dx = some (dictOf [⟨PyData.keyHash P "_BytesIO__buf", .str "_BytesIO__buf" t₁, .ref y⟩, ⟨PyData.keyHash P "_BytesIO__pos", .str "_BytesIO__pos" t₂, .int n t₃⟩] 2)) ∧ h.get? y = some (baObj b)
def FreshS (P : Params) (h : Heap) (x dx : Addr) (b : Str) (n : Int) : Prop :=
  h.get? x = some (instObj 576 dx) ∧ ∃ t₁ t₂ t₃ t₄ t₅ t₆, h.get? dx = some (dictOf [⟨PyData.keyHash P "_StringIO__newline", .str "_StringIO__newline" t₁, .str "\n" t₂⟩, ⟨PyData.keyHash P "_StringIO__buf", .str "_StringIO__buf" t₃, .str b t₄⟩,
      ⟨PyData.keyHash P "_StringIO__pos", .str "_StringIO__pos" t₅, .int n t₆⟩] 3)

def setupS (S : List (Str × D)) (x sx : Addr) : List (Str × D) :=
  let S1 := sd S "SERVER_NAME" (.str "127.0.0.1")
  let S2 := sd S1 "SERVER_PROTOCOL" (.str "HTTP/1.0")
  let S3 := sd S2 "HTTP_HOST" ((look S "SERVER_NAME").getD (.str "127.0.0.1"))
  let S4 := sd S3 "REQUEST_METHOD" (.str "GET")
  let S5 := if (look S4 "SCRIPT_NAME").isSome || (look S4 "PATH_INFO").isSome then S4 else sd (sd S4 "SCRIPT_NAME" (.str "")) "PATH_INFO" (.str "/")
  let S6 := sd S5 "wsgi.version" .ver
  let S7 := sd S6 "wsgi.run_once" (.int 0)
  let S8 := sd S7 "wsgi.multithread" (.int 0)
  let S9 := sd S8 "wsgi.multiprocess" (.int 0)
  let S10 := sd S9 "wsgi.input" (.obj x)
  let S11 := sd S10 "wsgi.errors" (.obj sx)
  let S12 := sd S11 "wsgi.url_scheme" (.str (guessS S11))
  match look S12 "wsgi.url_scheme" with
  | some (.str y) => if y == "http" then sd S12 "SERVER_PORT" (.str "80") else if y == "https" then sd S12 "SERVER_PORT" (.str "443") else S12
  | _ => S12

theorem leN {a b : Nat} (h : a ≤ b) : a ≤ b := h
theorem setup_call {w : World} {p : Program} {loose : List Str} {mg mb : Str → Option Value} {A₀ : Around} {base h₀ : Heap} {outer : List Env} {L d : Addr} {od : Obj} {m : Str → Option Value} {env : Env} {mean : ExcName → Option Value} {s : Shared} {dep un : Nat} {gs : Option (List Code)}
    {R : Result → Shared → Prop} {kvs : List (Str × Value)} {S : List (Str × D)} (hf : env.frame = some L) (hke : env.scope.kind = .function)
    (X : (hd.heap_39 w.params).In h₀) (T : Top p loose mean mg mb h₀) (B : Below A₀ base outer h₀) (F : Fr h₀ L s.heap m) (N : News h₀ L s.heap [(d, od)]) (hdep : dep < 490) (hun : un < 900)
    (lo : (d == sysModules) = false) (hod : od.IsDictOf (strKind PySem.Challenge.rw_kn0093_02.row.prog w) kvs) (hr : Rel (fun a o => s.heap.get? a = some o) kvs S) (hlen : kvs.length ≤ 100) (hH : ∀ x, look S "HTTPS" = some x → ∃ y, x = .str y) (hU : ∀ x, look S "wsgi.url_scheme" = some x → ∃ y, x = .str y)
    (post : ∀ h' t' od' kvs' x dx y sx sdx, (∀ b o, b ≠ d → s.heap.get? b = some o → h'.get? b = some o) → h'.get? d = some od' → od'.IsDictOf (strKind PySem.Challenge.rw_kn0093_02.row.prog w) kvs' → Rel (fun a o => h'.get? a = some o) kvs' (setupS S x sx) → kvs'.length ≤ 115 →
      (∀ b o, s.heap.get? b = some o → b < dx) → dx < x → x < y → y < sdx → sdx < sx → FreshB w.params h' x dx y #[] 0 → FreshS w.params h' sx sdx "" 0 → R (.ok (.ret .none)) { s with heap := h', toks := t' }) :
    codeG (model PySem.Challenge.rw_kn0093_02.row.prog w) (AR dep (env :: outer) gs un) (.call (.ref 585) ⟨[.ref d], []⟩) R s := by
  have X' := X.keeps F.keep
  refine' g_defF (news := [(d, od)]) (env := env) (binds := [("environ", .ref d)])
    B F N T.nolimit ?hA hf hke X' ?ho ?hcd ?hroom ?hb ?hloc (fun g L' h₁ hk F₁ N₁ B₁ st hlt => ?_) ?hcell ?c1 ?c2 ?c3
  case hA => rfl
  case ho => k_is
  case hcd => k_is
  case hroom => k_room
  case hb => exact BindsTo.of_eq rfl
  case hloc => exact locs rfl
  case hcell => decide
  case c1 => rfl
  case c2 => rfl
  case c3 => rfl
  have X₁ := X.keeps st
  have T₁ := T.keeps st
  have TR₁ := topRead_of T₁
  have hd0 := (N _ (.head _)).1
  have r0 : Rel (fun a o => g.get? a = some o) kvs S := hr.mono fun a o hn e => hk a o e (fun q => by
    have q : a = d := by simpa using q
    subst q
    have hd0' : s.heap.get? a = some od := hd0
    rw [hd0'] at e; cases e
    obtain ⟨es, ep, _, hdd, _⟩ := hod
    exact hn _ _ hdd)
  obtain ⟨m', hm'⟩ : ∃ m' : Str → Option Value, m' = fun y => [(("environ" : Str), Value.ref d)].reverse.lookup y := ⟨_, rfl⟩
  generalize s.toks + List.length [(("environ" : Str), Value.ref d)] = tk0
  clear hr hd0
  -- SERVER_NAME, SERVER_PROTOCOL
  refine g_execs (lift ?_)
  k_steps
  dsimp only
  refine g_execs (lift ?_)
  k_steps
  dsimp only
  -- HTTP_HOST
  rename Rel _ _ (sd (sd _ _ _) _ _) => r2
  obtain ⟨vSN, eSN, hSN⟩ := r2.at (k := "SERVER_NAME") (by rw [look_sd, if_neg (by decide), look_sd, if_pos rfl])
  have eSN' := (valueAt_look _ _).trans eSN
  refine g_execs (lift ?_)
  k_steps
  dsimp only
  refine g_execs (lift ?_)
  k_steps
  dsimp only
  -- SCRIPT_NAME, PATH_INFO
  rename Rel _ _ (sd (sd (sd (sd _ _ _) _ _) _ _) _ _) => r4
  rename _ ≤ 100 + 1 + 1 + 1 + 1 => l4
  have hgS : (look S "SERVER_NAME").getD (.str "127.0.0.1") = (look S "SERVER_NAME").getD (.str "127.0.0.1") := rfl
  generalize hS4 : sd (sd (sd (sd S "SERVER_NAME" (.str "127.0.0.1")) "SERVER_PROTOCOL" (.str "HTTP/1.0")) "HTTP_HOST" ((look S "SERVER_NAME").getD (.str "127.0.0.1"))) "REQUEST_METHOD" (.str "GET") = S4 at r4
  refine g_execs (lift (wpAny_mono (Q := fun f s' => Stop (f = .next ∧ ∃ h' o' k' t', s' = { s with heap := h', toks := t' } ∧ Fr g L' h' (fun y => [(("environ" : Str), Value.ref d)].reverse.lookup y) ∧ News g L' h' [(d, o')] ∧ o'.IsDictOf (strKind PySem.Challenge.rw_kn0093_02.row.prog w) k' ∧
      Rel (fun a o => g.get? a = some o) k' (if (look S4 "SCRIPT_NAME").isSome || (look S4 "PATH_INFO").isSome then S4 else sd (sd S4 "SCRIPT_NAME" (.str "")) "PATH_INFO" (.str "/")) ∧ k'.length ≤ 106)) ?_ (fun f s' hq => ?_) fun _ _ e => e))
  · have b1 := (congrArg Option.isSome (valueAt_look _ _)).trans (r4.isSome (k := "SCRIPT_NAME"))
    have b2 := (congrArg Option.isSome (valueAt_look _ _)).trans (r4.isSome (k := "PATH_INFO"))
    cases c1 : (look S4 "SCRIPT_NAME").isSome <;> cases c2 : (look S4 "PATH_INFO").isSome <;> rw [c1] at b1 <;> rw [c2] at b2
    all_goals
      k_steps
      try dsimp only
      refine Stop.mk ⟨rfl, _, _, _, _, rfl, by k_asm, by k_asm, by k_asm, ?_, ?_⟩
      · first
        | exact r4
        | ((show Rel _ _ (sd (sd S4 _ _) _ _)); assumption)
      · first
        | exact Nat.le_trans l4 (by decide)
        | exact Nat.le_trans (by assumption : _ ≤ 100 + 1 + 1 + 1 + 1 + 1 + 1) (by decide)
  obtain ⟨rfl, h5, o5, k5, t5, rfl, F5, N5, d5, r5, l5⟩ := hq
  dsimp only
  -- wsgi.version
  have Z5 := And.intro F5 N5
  refine g_execs (g_Expr (g_CallMeth (lift ?_)))
  k_steps
  refine lift ?_
  k_steps
  refine g_callWith rfl (g_args (g_spliced (g_eq (if_neg Bool.false_ne_true) (lift ?_))))
  k_steps
  refine g_spliced (g_eq (if_neg Bool.false_ne_true) (lift ?_))
  k_steps
  refine g_spliced0 ?_
  refine ⟨⟨_, .inr (.inl rfl), .now⟩, lift (wpAny_mono ?_ (fun _ _ q => lift q) (fun _ _ e => e))⟩
  rename_i D6 h6 F6 N6 l6
  have P6 : Rel (fun a o => g.get? a = some o ∨ (a, o) ∈ [(D6, tupObj #[Value.int 1 (t5 + 1), Value.int 0 (t5 + 1 + 1)])]) k5 _ := r5.mono fun a o _ e => .inl e
  have l6' := ltN l6
  refine my_setdefR (dv := .ver) F6 N6 (.tail (Nat.ne_of_gt l6) (.head (List.forall_mem_nil _))) d5 lo P6 ⟨_, _, .inr (.head _)⟩ l5 (by decide) fun h7 o7 v7 k7 F7 N7 d7 r7 l7 => ?_
  generalize hS6 : sd _ "wsgi.version" D.ver = S6 at r7
  clear P6 r5 F6 N6 Z5
  refine wpAny_dropValue ?_
  dsimp only
  refine g_execs (lift ?_)
  k_steps
  dsimp only
  refine g_execs (lift ?_)
  k_steps
  dsimp only
  refine g_execs (lift ?_)
  k_steps
  dsimp only
  refine g_execs (lift ?_)
  k_steps
  dsimp only
  rename Obj.IsDictOf _ _ _ => d9
  rename Rel _ _ (sd (sd (sd S6 _ _) _ _) _ _) => r9
  rename News g L' _ _ => N9
  rename Fr g L' _ _ => F9
  rename _ ≤ 106 + 1 + 1 + 1 + 1 => l9
  generalize hS9 : sd (sd (sd S6 "wsgi.run_once" (.int 0)) "wsgi.multithread" (.int 0)) "wsgi.multiprocess" (.int 0) = S9 at r9
  have Z9 := And.intro F9 N9
  -- wsgi.input
  refine g_execs (g_Expr (g_CallMeth (lift ?_)))
  k_steps
  refine lift ?_
  k_steps
  refine g_callWith rfl (g_args (g_spliced (g_eq (if_neg Bool.false_ne_true) (lift ?_))))
  k_steps
  refine g_spliced (g_eq (if_neg Bool.false_ne_true) (g_CallName (lift ?_)))
  k_steps
  obtain ⟨F9, N9⟩ := Z9
  refine g_callWith rfl (g_args0 ⟨⟨_, .inr (.inl rfl), Looks.of_peek (X₁.keeps F9.keep) (by kernel_rfl)⟩, g_call (bytesIO_call X₁ T₁ B₁ F9 (show dep + 1 < 500 by omega) (show un + 3 < 1000 by omega) fun x dx y t₁ t₂ t₃ h10 t10 hk10 hx hdx hy f1 f2 f3 => ?_)⟩)
  dsimp only
  refine g_spliced0 ?_
  refine ⟨⟨_, .inr (.inl rfl), .now⟩, lift (wpAny_mono ?_ (fun _ _ q => lift q) (fun _ _ e => e))⟩
  have F10 := frGrow F9 hk10
  have f1' := leN f1
  have f2' := ltN f2
  have f3' := ltN f3
  have N10 := newsAdd F9 (newsAdd F9 (newsAdd F9 (newsGrow N9 hk10) hdx f1) hx (Nat.le_of_lt (Nat.lt_of_le_of_lt f1 f2))) hy (Nat.le_of_lt (Nat.lt_of_le_of_lt f1 (Nat.lt_trans f2 f3)))
  have hF9k := F9.keep
  have hd9 := ltN (Heap.lt_size (N9 _ (.tail _ (.head _))).1)
  have hD9 := ltN (Heap.lt_size (N9 _ (.head _)).1)
  dsimp only at hd9 hD9 f1'
  have r10 : Rel (fun a o => g.get? a = some o ∨ (a, o) ∈ [(x, instObj 329 dx), (D6, tupObj #[Value.int 1 (t5 + 1), Value.int 0 (t5 + 1 + 1)])]) _ S9 := r9.mono fun a o _ e => e.imp id (.tail _)
  refine my_setdefR (dv := .obj x) F10 N10 (.tail (neN (by omega)) (.tail (neN (by omega)) (.tail (neN (by omega)) (.tail (Nat.ne_of_gt l6) (.head (List.forall_mem_nil _)))))) d9 lo r10 ⟨rfl, _, _, .inr (.head _)⟩ l9 (by decide) fun h11 o11 v11 k11 F11 N11 d11 r11 l11 => ?_
  clear r10 r9 N10 F10 N9 F9
  refine wpAny_dropValue ?_
  dsimp only
  -- wsgi.errors
  have Z11 := And.intro F11 N11
  refine g_execs (g_Expr (g_CallMeth (lift ?_)))
  k_steps
  refine lift ?_
  k_steps
  refine g_callWith rfl (g_args (g_spliced (g_eq (if_neg Bool.false_ne_true) (lift ?_))))
  k_steps
  refine g_spliced (g_eq (if_neg Bool.false_ne_true) (g_CallName (lift ?_)))
  k_steps
  obtain ⟨F11, N11⟩ := Z11
  refine g_callWith rfl (g_args0 ⟨⟨_, .inr (.inl rfl), Looks.of_peek (X₁.keeps F11.keep) (by kernel_rfl)⟩, g_call (stringIO_call X₁ T₁ B₁ F11 (show dep + 1 < 500 by omega) (show un + 3 < 1000 by omega) fun sx sdx u₁ u₂ u₃ u₄ u₅ u₆ h12 t12 hk12 hsx hsdx e1 e2 => ?_)⟩)
  dsimp only
  refine g_spliced0 ?_
  refine ⟨⟨_, .inr (.inl rfl), .now⟩, lift (wpAny_mono ?_ (fun _ _ q => lift q) (fun _ _ e => e))⟩
  have F12 := frGrow F11 hk12
  have e1' := leN e1
  have e2' := ltN e2
  have N12 := newsAdd F11 (newsAdd F11 (newsGrow N11 hk12) hsdx e1) hsx (Nat.le_of_lt (Nat.lt_of_le_of_lt e1 e2))
  have hy11 := ltN (Heap.lt_size (N11 _ (.head _)).1)
  dsimp only at hy11 e1'
  have r12 : Rel (fun a o => g.get? a = some o ∨ (a, o) ∈ [(sx, instObj 576 sdx), (x, instObj 329 dx), (D6, tupObj #[Value.int 1 (t5 + 1), Value.int 0 (t5 + 1 + 1)])]) _ _ := r11.mono fun a o _ e => e.imp id (.tail _)
  refine my_setdefR (dv := .obj sx) F12 N12 (.tail (neN (by omega)) (.tail (neN (by omega)) (.tail (neN (by omega)) (.tail (neN (by omega)) (.tail (neN (by omega)) (.tail (Nat.ne_of_gt l6) (.head (List.forall_mem_nil _)))))))) d11 lo r12 ⟨rfl, _, _, .inr (.head _)⟩ l11 (by decide) fun h13 o13 v13 k13 F13 N13 d13 r13 l13 => ?_
  clear r12 r11 N12 F12 N11 F11
  refine wpAny_dropValue ?_
  dsimp only
  -- wsgi.url_scheme
  have eO : ∀ k : Str, k = "HTTPS" ∨ k = "wsgi.url_scheme" → look (sd (sd S9 "wsgi.input" (.obj x)) "wsgi.errors" (.obj sx)) k = look S k := by
    rintro k (rfl | rfl)
    all_goals
      rw [look_sd, if_neg (by decide), look_sd, if_neg (by decide), ← hS9, look_sd, if_neg (by decide), look_sd, if_neg (by decide), look_sd, if_neg (by decide), ← hS6, look_sd, if_neg (by decide)]
      split
      · rw [← hS4, look_sd, if_neg (by decide), look_sd, if_neg (by decide), look_sd, if_neg (by decide), look_sd, if_neg (by decide)]
      · rw [look_sd, if_neg (by decide), look_sd, if_neg (by decide), ← hS4, look_sd, if_neg (by decide), look_sd, if_neg (by decide), look_sd, if_neg (by decide), look_sd, if_neg (by decide)]
  generalize hS11 : sd (sd S9 "wsgi.input" (.obj x)) "wsgi.errors" (.obj sx) = S11 at r13 eO
  have Z13 := And.intro F13 N13
  refine g_execs (g_Expr (g_CallMeth (lift ?_)))
  k_steps
  refine lift ?_
  k_steps
  refine g_callWith rfl (g_args (g_spliced (g_eq (if_neg Bool.false_ne_true) (lift ?_))))
  k_steps
  refine g_spliced (g_eq (if_neg Bool.false_ne_true) (g_CallName (lift ?_)))
  k_steps
  refine g_callWith rfl (g_args (g_spliced (g_eq (if_neg Bool.false_ne_true) (lift ?_))))
  k_steps
  obtain ⟨F13, N13⟩ := Z13
  refine g_spliced0 ?_
  refine ⟨⟨_, .inl rfl, Looks.of_peek (X₁.keeps F13.keep) (by kernel_rfl)⟩, g_call (liftC (guess_call (a := d) (d := d) (od := o13) rfl rfl X₁ T₁ B₁ F13 (fun p hp => N13 p (by obtain rfl := List.mem_singleton.mp hp; simp)) (show dep + 1 < 500 by omega) (show un + 3 < 1000 by omega) lo d13 r13 (fun x e => hH x ((eO _ (.inl rfl)).symm.trans e)) fun h14 t14 tk hk14 => ?_))⟩
  dsimp only
  refine g_spliced0 ?_
  refine ⟨⟨_, .inr (.inl rfl), .now⟩, lift (wpAny_mono ?_ (fun _ _ q => lift q) (fun _ _ e => e))⟩
  have F14 := frGrow F13 hk14
  have N14 := newsGrow N13 hk14
  refine my_setdefR (dv := .str (guessS S11)) F14 N14 (.tail (neN (by omega)) (.tail (neN (by omega)) (.tail (neN (by omega)) (.tail (neN (by omega)) (.tail (neN (by omega)) (.tail (Nat.ne_of_gt l6) (.head (List.forall_mem_nil _)))))))) d13 lo r13 rfl l13 (by decide) fun h15 o15 v15 k15 F15 N15 d15 r15 l15 => ?_
  clear r13 N13 F13 N14 F14
  refine wpAny_dropValue ?_
  dsimp only
  have hu : ∃ yS, (look S11 "wsgi.url_scheme").getD (.str (guessS S11)) = .str yS := by
    rw [eO _ (.inr rfl)]
    cases q : look S "wsgi.url_scheme" with
    | none => exact ⟨_, rfl⟩
    | some v => obtain ⟨y, rfl⟩ := hU v q; exact ⟨y, rfl⟩
  obtain ⟨yS, hyS⟩ := hu
  obtain ⟨vU, eU, hvU⟩ := r15.at (k := "wsgi.url_scheme") (by rw [look_sd, if_pos rfl, hyS])
  obtain ⟨tU, rfl⟩ := hvU.isStr
  have eU' := (valueAt_look _ _).trans eU
  clear eU hvU
  generalize hS12 : sd S11 "wsgi.url_scheme" (D.str (guessS S11)) = S12 at r15
  refine g_execs (lift (wpAny_mono (Q := fun f s' => Stop (f = .next ∧ ∃ h' o' k' t', s' = { s with heap := h', toks := t' } ∧ Fr g L' h' (fun y => [(("environ" : Str), Value.ref d)].reverse.lookup y) ∧
      News g L' h' [(sx, instObj 576 sdx), (sdx, dictOf [⟨PyData.keyHash w.params "_StringIO__newline", .str "_StringIO__newline" u₁, .str "\n" u₂⟩, ⟨PyData.keyHash w.params "_StringIO__buf", .str "_StringIO__buf" u₃, .str "" u₄⟩, ⟨PyData.keyHash w.params "_StringIO__pos", .str "_StringIO__pos" u₅, .int 0 u₆⟩] 3), (y, baObj #[]), (x, instObj 329 dx),
        (dx, dictOf [⟨PyData.keyHash w.params "_BytesIO__buf", .str "_BytesIO__buf" t₁, .ref y⟩, ⟨PyData.keyHash w.params "_BytesIO__pos", .str "_BytesIO__pos" t₂, .int 0 t₃⟩] 2), (D6, tupObj #[Value.int 1 (t5 + 1), Value.int 0 (t5 + 1 + 1)]), (d, o')] ∧ o'.IsDictOf (strKind PySem.Challenge.rw_kn0093_02.row.prog w) k' ∧
      Rel (fun a o => g.get? a = some o ∨ (a, o) ∈ [(sx, instObj 576 sdx), (x, instObj 329 dx), (D6, tupObj #[Value.int 1 (t5 + 1), Value.int 0 (t5 + 1 + 1)])]) k' (if yS == "http" then sd S12 "SERVER_PORT" (.str "80") else if yS == "https" then sd S12 "SERVER_PORT" (.str "443") else S12) ∧ k'.length ≤ 115)) ?_ (fun f s' hq => ?_) fun _ _ e => e))
  · k_steps
    all_goals try dsimp only
    all_goals
      refine Stop.mk ⟨rfl, _, _, _, _, rfl, by k_asm, by k_asm, by k_asm, ?_, ?_⟩
      · first
        | (rw [if_pos (by assumption)]; assumption)
        | (rw [if_neg (by simp_all), if_pos (by assumption)]; assumption)
        | (rw [if_neg (by simp_all), if_neg (by simp_all)]; assumption)
      · first
        | exact Nat.le_trans l15 (by decide)
        | exact Nat.le_trans (by assumption : _ ≤ 106 + 1 + 1 + 1 + 1 + 1 + 1 + 1 + 1) (by decide)
  obtain ⟨rfl, h16, o16, k16, t16, rfl, F16, N16, d16, r16, l16⟩ := hq
  dsimp only
  refine g_nil ?_
  have hSN : look (sd (sd S "SERVER_NAME" (.str "127.0.0.1")) "SERVER_PROTOCOL" (.str "HTTP/1.0")) "SERVER_NAME" = some ((look S "SERVER_NAME").getD (.str "127.0.0.1")) := by rw [look_sd, if_neg (by decide), look_sd, if_pos rfl]
  have hS : setupS S x sx = if yS == "http" then sd S12 "SERVER_PORT" (.str "80") else if yS == "https" then sd S12 "SERVER_PORT" (.str "443") else S12 := by
    have q : look S12 "wsgi.url_scheme" = some (.str yS) := by rw [← hS12, look_sd, if_pos rfl, hyS]
    unfold setupS
    dsimp only
    rw [hS4, hS6, hS9, hS11, hS12, q]
  have m0 := N16 _ (.head _)
  have m1 := N16 _ (.tail _ (.head _))
  have m2 := N16 _ (.tail _ (.tail _ (.head _)))
  have m3 := N16 _ (.tail _ (.tail _ (.tail _ (.head _))))
  have m4 := N16 _ (.tail _ (.tail _ (.tail _ (.tail _ (.head _)))))
  have m5 := N16 _ (.tail _ (.tail _ (.tail _ (.tail _ (.tail _ (.head _))))))
  have m6 := N16 _ (.tail _ (.tail _ (.tail _ (.tail _ (.tail _ (.tail _ (.head _)))))))
  refine post h16 t16 o16 k16 x dx y sx sdx (fun b o hb e => F16.keep b o (hk b o e (by simpa using hb))) m6.1 d16 (hS ▸ r16.mono fun a o _ e => ?_) l16 (fun b o e => ?_) f2 f3 (Nat.lt_of_lt_of_le hy11 e1) e2 ⟨m3.1, ⟨_, _, _, m4.1⟩, m2.1⟩ ⟨m0.1, _, _, _, _, _, _, m1.1⟩
  · rcases e with e | e
    · exact F16.keep _ _ e
    · refine (N16 (a, o) ?_).1
      simp only [List.mem_cons, List.not_mem_nil, or_false] at e ⊢
      rcases e with e | e | e <;> simp [e]
  · by_cases q : b = d
    · subst q; exact Nat.lt_of_lt_of_le hd9 f1
    · exact Nat.lt_of_lt_of_le (Heap.lt_size (hF9k b o (hk b o e (by simpa using q)))) f1
end Mine
end
section -- G6
open PySem PySem.W PyProof.Rows PySem.Calls
set_option maxRecDepth 100000
namespace Mine

def isTupO (o : Obj) : Prop := o.cls = .type "tuple" ∧ ∃ its n, o.data = .seq its n
def TupKeep (h h' : Heap) : Prop := ∀ b o, isTupO o → h.get? b = some o → h'.get? b = some o
theorem TupKeep.trans {h h' h'' : Heap} (a : TupKeep h h') (b : TupKeep h' h'') : TupKeep h h'' := fun x o t e => b x o t (a x o t e)
theorem TupKeep.of {h h' : Heap} (k : ∀ b o, h.get? b = some o → h'.get? b = some o) : TupKeep h h' := fun b o _ e => k b o e
theorem TupKeep.but {h h' : Heap} {C : Addr} (k : ∀ b o, b ≠ C → h.get? b = some o → h'.get? b = some o) (n : ∀ o, h.get? C = some o → ¬ isTupO o) : TupKeep h h' := fun b o t e => k b o (fun q => n o (q ▸ e) t) e
/-- a list's items are pairs, as tuples -/
def PairAt (h : Heap) (v a b : Value) : Prop := ∃ t n, v = .ref t ∧ h.get? t = some { cls := .type "tuple", data := .seq #[a, b] n }
theorem PairAt.keep {h h' : Heap} {v a b : Value} (x : PairAt h v a b) (k : TupKeep h h') : PairAt h' v a b :=
  let ⟨t, n, e, g⟩ := x; ⟨t, n, e, k _ _ ⟨rfl, _, _, rfl⟩ g⟩
def TupMono (F : Heap → Value → Value → Prop) : Prop := ∀ h h' v y, TupKeep h h' → F h v y → F h' v y
theorem nsNot {h : Heap} {C : Addr} {m : Str → Option Value} (n : h.Ns C m) : ∀ o, h.get? C = some o → ¬ isTupO o := fun o e t => by
  obtain ⟨o', es, ep, ho, hd, _⟩ := n
  rw [ho] at e; cases e
  obtain ⟨_, its, k, q⟩ := t
  rw [hd] at q; cases q
theorem listNot {h : Heap} {D : Addr} {its : Array Value} (n : h.PlainList D its) : ∀ o, h.get? D = some o → ¬ isTupO o := fun o e t => by
  obtain ⟨k, ho⟩ := n
  rw [ho] at e; cases e
  exact absurd (show Value.type "list" = Value.type "tuple" from t.1) (by decide)
theorem iterNot {h : Heap} {I l : Addr} {i : Nat} (n : h.IsListIter I l i) : ∀ o, h.get? I = some o → ¬ isTupO o := fun o e t => by
  obtain ⟨o', ho, hc, hd⟩ := n
  rw [ho] at e; cases e
  exact absurd (hc.symm.trans t.1) (by decide)

section
variable {prog : Program} {w : World} {A : Around} {R : Result → Shared → Prop} {s : Shared}
theorem loopPairs {elt iter : Expr} {x x₂ : Str} {px px₂ tp : Pos} {tk1} {scope : Scope} {pos : Pos} {I l D : Addr} {items : Array Value} {cenv : Env} {m : Str → Option Value} (F : Heap → Value → Value → Prop) (hFm : TupMono F)
    (hh : A.handled = none) (hit : s.heap.IsListIter I l 0) (hl : s.heap.IsList l items)
    (hx : cenv.kindOf x = some .local) (hx₂ : cenv.kindOf x₂ = some .local) (hxx : x ≠ x₂) (hp : (cenv.scope.kind == .class || (cenv.scope.kind == .module && cenv.locals != cenv.globals)) = false)
    (hDC : D ≠ cenv.locals) (hDI : D ≠ I) (hDl : D ≠ l) (hCI : cenv.locals ≠ I) (hCl : cenv.locals ≠ l) (hIl : I ≠ l)
    (hacc : s.heap.PlainList D #[]) (hn : s.heap.Ns cenv.locals m) (hpair : ∀ v ∈ items.toList, ∃ a b, PairAt s.heap v a b)
    (helt : ∀ v a b s₂ m₂, v ∈ items.toList → PairAt s.heap v a b → s₂.heap.Ns cenv.locals m₂ → m₂ x = some a → m₂ x₂ = some b → (∀ b o, b ≠ cenv.locals → b ≠ I → b ≠ D → s.heap.get? b = some o → s₂.heap.get? b = some o) →
      (∃ h t, s₂ = { s with heap := h, toks := t }) →
      wpAny (model prog w) A (eval elt cenv) (fun y s₃ => F s₃.heap v y ∧ Keeps s₂ s₃) (notedBy (model prog w) A cenv fun e s' => R (.error e) s') s₂)
    (hR : ∀ (h' : Heap) (tk : Tok) (m' : Str → Option Value) (ys : List Value), h'.Ns cenv.locals m' → h'.PlainList D ys.toArray → ys.length = items.size → (∀ (i : Nat) (v y : Value), items[i]? = some v → ys[i]? = some y → F h' v y) →
      (∀ b o, b ≠ cenv.locals → b ≠ I → b ≠ D → s.heap.get? b = some o → h'.get? b = some o) → R (.ok .next) { s with heap := h', toks := tk })
    (hsz : items.size ≤ sizeLine) :
    codeAny (model prog w) A (.compLoop (.ListComp elt [⟨.Tuple [.Name x px, .Name x₂ px₂] tk1 tp, iter, [], 0⟩] scope pos) 0 (.ref I) (.ref D) cenv) R s := by
  refine LCp.codeAny_compLoop_pair
    (fun k s' => ∃ h' tk m' i, ∃ ys : List Value, s' = { s with heap := h', toks := tk } ∧ i ≤ items.size ∧ k = items.size + 1 - i ∧ ys.length = i ∧ h'.IsListIter I l i ∧ h'.IsList l items ∧ h'.Ns cenv.locals m' ∧ h'.PlainList D ys.toArray ∧
      (∀ (j : Nat) (v y : Value), items[j]? = some v → ys[j]? = some y → F h' v y) ∧ (∀ b o, b ≠ cenv.locals → b ≠ I → b ≠ D → s.heap.get? b = some o → h'.get? b = some o)) ?_ (items.size + 1)
    ⟨s.heap, s.toks, m, 0, [], rfl, Nat.zero_le _, rfl, rfl, hit, hl, hn, hacc, (fun _ _ _ _ e => nomatch e), fun _ _ _ _ _ e => e⟩
  rintro k s' ⟨H, tk, m', i, ys, rfl, hi, rfl, hyl, hit', hl', hn', hacc', hF, hk⟩
  have hst : ∀ b o, isTupO o → s.heap.get? b = some o → H.get? b = some o := fun b o t e => hk b o (fun q => nsNot hn o (q ▸ e) t) (fun q => iterNot hit o (q ▸ e) t) (fun q => listNot hacc o (q ▸ e) t) e
  by_cases hlt : i < items.size
  · have hv : items[i]? = some items[i] := Array.getElem?_eq_getElem hlt
    obtain ⟨a, b, hab⟩ := hpair items[i] (by simp)
    refine wpAny_pyNext_list_item hit' hl' hv fun h₁ hit₁ hs₁ => ?_
    have t₁ : TupKeep H h₁ := .but (fun b o hb e => hs₁.extBut b o hb e) (iterNot hit')
    obtain ⟨t, nt, et, gt⟩ := hab.keep (TupKeep.trans hst t₁)
    have hab' := hab
    rw [et] at hv hab' ⊢
    refine wpAny_letOwnedTupleGo_listiter hit₁ ?_
    refine assign_Tuple_tuple hh ⟨_, gt, rfl, nt, rfl⟩ rfl rfl fun h₅ he => ?_
    have he' : ∀ b o, h₁.get? b = some o → h₅.get? b = some o := fun b o e => he b o (Nat.ne_of_lt (Heap.lt_size e)) e
    have hn₁ : h₁.Ns cenv.locals m' := hn'.sameBut hs₁ hCI
    have hn₅ : h₅.Ns cenv.locals m' := hn₁.at' fun o e => he' _ o e
    refine assignInOrder_cons (wpAny_assign_Name (wpAny_storeName_local hx hn₅ (fun h₆ hn₆ hs₆ => ?_) hp))
    refine assignInOrder_cons (wpAny_assign_Name (wpAny_storeName_local hx₂ hn₆ (fun h₃ hn₃ hs₃ => ?_) hp))
    refine assignInOrder_nil ?_
    have up₃ : ∀ b o, b ≠ cenv.locals → b ≠ I → H.get? b = some o → h₃.get? b = some o := fun b o hbC hbI e => hs₃.extBut b o hbC (hs₆.extBut b o hbC (he' b o (hs₁.extBut b o hbI e)))
    have t₃ : TupKeep H h₃ := t₁.trans ((TupKeep.of he').trans ((TupKeep.but (fun b o hb e => hs₆.extBut b o hb e) (nsNot hn₅)).trans (.but (fun b o hb e => hs₃.extBut b o hb e) (nsNot hn₆))))
    refine wpAny_mono (helt (.ref t) a b _ _ (by rw [← et]; simp) hab' hn₃ (by simp [hxx]) (by simp) (fun b o hbC hbI hbD e => up₃ b o hbC hbI (hk b o hbC hbI hbD e)) ⟨h₃, _, rfl⟩) (fun y s₄ h₄ => ?_) fun _ _ e => e
    obtain ⟨hFy, h₄, tk₄, rfl, hk₄⟩ := h₄
    have hacc₄ : h₄.PlainList D ys.toArray := hacc'.at fun o e => hk₄ _ o (up₃ D o hDC hDI e)
    refine wpAny_list_append_plain (hsz := by rw [List.size_toArray, hyl]; exact Nat.le_trans hi hsz) hacc₄ fun h₇ hl₇ hs₇ => ?_
    have t₇ : TupKeep h₄ h₇ := .but (fun b o hb e => hs₇.extBut b o hb e) (listNot hacc₄)
    refine ⟨items.size + 1 - (i + 1), by omega, h₇, tk₄, _, i + 1, ys ++ [y], rfl, hlt, rfl, by rw [List.length_append, List.length_singleton, hyl], ?_, ?_, (hn₃.keeps hk₄).sameBut hs₇ (Ne.symm hDC), by simpa using hl₇, ?_, fun b o hbC hbI hbD e => hs₇.extBut b o hbD (hk₄ b o (up₃ b o hbC hbI (hk b o hbC hbI hbD e)))⟩
    · exact hit₁.at fun o e => hs₇.extBut I o (Ne.symm hDI) (hk₄ I o (hs₃.extBut I o (Ne.symm hCI) (hs₆.extBut I o (Ne.symm hCI) (he' I o e))))
    · exact hl'.at fun o e => hs₇.extBut l o (Ne.symm hDl) (hk₄ l o (up₃ l o (Ne.symm hCl) (Ne.symm hIl) e))
    · intro j v y' hj hy
      by_cases q : j < i
      · rw [List.getElem?_append_left (by omega)] at hy
        exact hFm _ _ _ _ (t₃.trans ((TupKeep.of hk₄).trans t₇)) (hF j v y' hj hy)
      · have hj' : j < (ys ++ [y]).length := (List.getElem?_eq_some_iff.mp hy).1
        rw [List.length_append, List.length_singleton, hyl] at hj'
        obtain rfl : j = i := by omega
        rw [hv] at hj; cases hj
        rw [List.getElem?_append_right (by omega)] at hy
        have : y' = y := by simpa [hyl] using hy.symm
        rw [this]
        exact hFm _ _ _ _ t₇ hFy
  · obtain rfl : i = items.size := Nat.le_antisymm hi (Nat.not_lt.mp hlt)
    refine wpAny_pyNext_list_end hh hit' hl' (by simp) fun h₁ he => ?_
    have up : ∀ b o, b ≠ I → H.get? b = some o → h₁.get? b = some o := fun b o hb e => he b o hb e
    exact hR h₁ _ m' ys (hn'.at' fun o e => up _ o hCI e) (hacc'.at fun o e => up _ o hDI e) hyl (fun j v y hj hy => hFm _ _ _ _ (.but up (iterNot hit')) (hF j v y hj hy)) fun b o hbC hbI hbD e => up b o hbI (hk b o hbC hbI hbD e)
end

section
variable {prog : Program} {w : World} {A : Around} {E : Value → Shared → Prop} {env : Env} {s : Shared}
/-- what a comprehension over pairs asks of its element -/
abbrev EltOn (prog : Program) (w : World) (A : Around) (env : Env) (scope : Scope) (cl : List (Str × Addr)) (x x₂ : Str) (elt : Expr) (items : Array Value) (F : Heap → Value → Value → Prop) (s₁ : Shared) : Prop :=
  ∀ (C : Addr) (v a b : Value) (s₃ : Shared) (m₃ : Str → Option Value) (E' : Value → Shared → Prop), s₁.heap.objs.size ≤ C → v ∈ items.toList → PairAt s₁.heap v a b → s₃.heap.Ns C m₃ → m₃ x = some a → m₃ x₂ = some b →
    (∀ b o, s₁.heap.get? b = some o → s₃.heap.get? b = some o) → (∃ h t, s₃ = { s₁ with heap := h, toks := t }) →
    wpAny (model prog w) A (eval elt (compEnvC scope cl C env)) (fun y s₄ => F s₄.heap v y ∧ Keeps s₃ s₄) E' s₃

theorem pairsBlock {elt iter : Expr} {x x₂ : Str} {px px₂ tp : Pos} {tk1} {scope : Scope} {cl : List (Str × Addr)} {pos : Pos} {s₁ : Shared} {l : Addr} {items : Array Value} (F : Heap → Value → Value → Prop) (hFm : TupMono F) {RR : Value → Addr → Result → Shared → Prop}
    (hh : A.handled = none) (hcell : ∀ y ∈ scope.names, y.2 ≠ .cell) (hkind : scope.kind = .function) (hx : scope.names.lookup x = some .local) (hx₂ : scope.names.lookup x₂ = some .local) (hxx : x ≠ x₂)
    (hl : s₁.heap.IsList l items) (hsz : items.size ≤ sizeLine) (hpair : ∀ v ∈ items.toList, ∃ a b, PairAt s₁.heap v a b) (helt : EltOn prog w A env scope cl x x₂ elt items F s₁)
    (hRR : ∀ (D C : Addr) (h' : Heap) (tk : Tok) (m' : Str → Option Value) (ys : List Value), s₁.heap.objs.size ≤ D → s₁.heap.get? C = none → D ≠ C → h'.Ns C m' → h'.PlainList D ys.toArray → ys.length = items.size → (∀ (i : Nat) (v y : Value), items[i]? = some v → ys[i]? = some y → F h' v y) →
      (∀ b o, s₁.heap.get? b = some o → h'.get? b = some o) → RR (.ref D) C (.ok .next) { s₁ with heap := h', toks := tk }) :
    wpAny (model prog w) A (pyIter (.ref l)) (fun it s₂ => wpAny (model prog w) A (newList []) (fun acc s₃ => wpAny (model prog w) A (newFunctionEnv scope env.globals cl [] env.qual none .none (some env)) (fun cenv s₄ =>
      codeAny (model prog w) A (.compStart (.ListComp elt [⟨.Tuple [.Name x px, .Name x₂ px₂] tk1 tp, iter, [], 0⟩] scope pos) 0 it acc { cenv with scope := relabel scope env }) (RR acc cenv.locals) s₄) E s₃) E s₂) E s₁ := by
  refine wpAny_pyIter_list hl ?_
  refine wpAny_newObj_type (wpAny_newFunctionEnv hcell (by intro y hy; simp at hy) (fun h₁ hns₁ hsb₁ => ?_) hkind)
  dsimp only at hns₁ hsb₁ ⊢
  generalize hH1 : s₁.heap.push { cls := .type "list_iterator", data := .fields #[.ref l, .int 0 0] } = H1 at hns₁ hsb₁ ⊢
  generalize hH2 : H1.push { cls := .type "list", dict := none, data := .seq ([] : List Value).toArray } = H2 at hns₁ hsb₁ ⊢
  have hI : H1.objs.size = s₁.heap.objs.size + 1 := by rw [← hH1, Heap.size_push]
  have hC : H2.objs.size = s₁.heap.objs.size + 2 := by rw [← hH2, Heap.size_push, hI]
  have lt : ∀ b o, s₁.heap.get? b = some o → b < s₁.heap.objs.size := fun b o e => Heap.lt_size e
  have old1 : ∀ b o, s₁.heap.get? b = some o → H1.get? b = some o := fun b o e => hH1 ▸ Heap.get?_push_of_some _ e
  have old2 : ∀ b o, H1.get? b = some o → h₁.get? b = some o := fun b o e => by
    have q := Heap.lt_size e
    exact hsb₁.extBut b o (by rw [hC]; rw [hI] at q; exact Nat.ne_of_lt (Nat.lt_of_lt_of_le q (Nat.le_succ _))) (Heap.get?_push_of_some _ (hH2 ▸ Heap.get?_push_of_some _ e))
  have old : ∀ b o, s₁.heap.get? b = some o → h₁.get? b = some o := fun b o e => old2 b o (old1 b o e)
  have hacc : h₁.PlainList H1.objs.size #[] := ⟨_, hsb₁.extBut _ _ (by rw [hC, hI]; exact Nat.ne_of_lt (Nat.lt_succ_self _)) (Heap.get?_push_of_some _ (hH2 ▸ Heap.get?_push_size _ rfl))⟩
  have hit : h₁.IsListIter s₁.heap.objs.size l 0 := ⟨_, old2 _ _ (hH1 ▸ Heap.get?_push_size _ rfl), rfl, rfl⟩
  have hl₁ : h₁.IsList l items := hl.at fun o e => old _ _ e
  have hlt : l < s₁.heap.objs.size := let ⟨o, ho, _⟩ := hl; Heap.lt_size ho
  have fresh : ∀ a, s₁.heap.objs.size ≤ a → s₁.heap.get? a = none := fun a ha => by
    cases e : s₁.heap.get? a with
    | none => rfl
    | some o' => exact absurd (Heap.lt_size e) (Nat.not_lt.mpr ha)
  have neC : ∀ b o, s₁.heap.get? b = some o → b ≠ H2.objs.size := fun b o e => Nat.ne_of_lt (Nat.lt_of_lt_of_le (lt b o e) (by rw [hC]; exact Nat.le_add_right _ 2))
  have neI : ∀ b o, s₁.heap.get? b = some o → b ≠ s₁.heap.objs.size := fun b o e => Nat.ne_of_lt (lt b o e)
  have neD : ∀ b o, s₁.heap.get? b = some o → b ≠ H1.objs.size := fun b o e => Nat.ne_of_lt (Nat.lt_of_lt_of_le (lt b o e) (by rw [hI]; exact Nat.le_succ _))
  have n1 : (H1.objs.size : Nat) ≠ H2.objs.size := by omega
  have n2 : (H1.objs.size : Nat) ≠ s₁.heap.objs.size := by omega
  have n3 : (H1.objs.size : Nat) ≠ l := Nat.ne_of_gt (Nat.lt_of_lt_of_le hlt (by rw [hI]; exact Nat.le_succ _))
  have n4 : (H2.objs.size : Nat) ≠ s₁.heap.objs.size := by omega
  have n5 : (H2.objs.size : Nat) ≠ l := Nat.ne_of_gt (Nat.lt_of_lt_of_le hlt (by rw [hC]; exact Nat.le_add_right _ 2))
  have n6 : (s₁.heap.objs.size : Nat) ≠ l := Nat.ne_of_gt hlt
  have loop : ∀ s₃ : Shared, s₃ = { s₁ with heap := h₁, toks := s₁.toks + ([] : List (Str × Value)).length } →
      codeAny (model prog w) A (.compLoop (.ListComp elt [⟨.Tuple [.Name x px, .Name x₂ px₂] tk1 tp, iter, [], 0⟩] scope pos) 0 (.ref s₁.heap.objs.size) (.ref H1.objs.size) (compEnvC scope cl H2.objs.size env))
        (RR (.ref H1.objs.size) H2.objs.size) s₃ := by
    rintro s₃ rfl
    refine loopPairs (cenv := compEnvC scope cl H2.objs.size env) F hFm hh hit hl₁ (lookup_relabel_local hx) (lookup_relabel_local hx₂) hxx (by simp [compEnvC, relabel, hkind]) n1 n2 n3 n4 n5 n6 hacc hns₁
      (fun v hv => let ⟨a, b, q⟩ := hpair v hv; ⟨a, b, q.keep (.of old)⟩)
      (fun v a b s₃ m₃ hv hab hn ha hb hk hs => ?_) (fun h' tk m' ys hn hd hlen hF hk => ?_) hsz
    · obtain ⟨a', b', q⟩ := hpair v hv
      have hab' : PairAt s₁.heap v a b := by
        obtain ⟨t, n, e, g⟩ := q
        obtain ⟨t₂, n₂, e₂, g₂⟩ := hab
        rw [e] at e₂; cases e₂
        have := old _ _ g
        dsimp only at g₂
        rw [this] at g₂; cases g₂
        exact ⟨t, _, e, g⟩
      obtain ⟨hp3, t3, rfl⟩ := hs
      exact helt _ v a b _ m₃ _ (by rw [hC]; exact Nat.le_add_right _ 2) hv hab' hn ha hb (fun b o e => hk b o (neC b o e) (neI b o e) (neD b o e) (old b o e)) ⟨_, _, rfl⟩
    · exact hRR _ _ h' tk m' ys (by rw [hI]; exact Nat.le_succ _) (fresh _ (by rw [hC]; exact Nat.le_add_right _ 2)) n1 hn hd hlen hF fun b o e =>
        hk b o (neC b o e) (neI b o e) (neD b o e) (old b o e)
  exact codeAny_compStart_list (loop _ rfl) (wpAny_pyIter_listiter hit (loop _ rfl))

/-- [elt for x, x₂ in iter], over a list of pairs -/
theorem ListComp_pairs {elt iter : Expr} {x x₂ : Str} {px px₂ tp : Pos} {tk1} {scope : Scope} {cl : List (Str × Addr)} {pos : Pos} {Q : Value → Shared → Prop} (F : Heap → Value → Value → Prop) (hFm : TupMono F) (hh : A.handled = none)
    (hclos : closureFor scope env = pure cl) (hcell : ∀ y ∈ scope.names, y.2 ≠ .cell) (hkind : scope.kind = .function)
    (hnames : ∀ y ∈ scope.names, y.2 = .local → scope.names.lookup y.1 = some .local) (hx : scope.names.lookup x = some .local) (hx₂ : scope.names.lookup x₂ = some .local) (hxx : x ≠ x₂)
    (h : wpAny (model prog w) A (eval iter env) (fun xv s₁ => ∃ l items, xv = .ref l ∧ s₁.heap.IsList l items ∧ items.size ≤ sizeLine ∧ (∀ v ∈ items.toList, ∃ a b, PairAt s₁.heap v a b) ∧ EltOn prog w A env scope cl x x₂ elt items F s₁ ∧
      (∀ (D : Addr) (h' : Heap) (tk : Tok) (ys : List Value), s₁.heap.objs.size ≤ D → h'.PlainList D ys.toArray → ys.length = items.size → (∀ (i : Nat) (v y : Value), items[i]? = some v → ys[i]? = some y → F h' v y) →
        (∀ b o, s₁.heap.get? b = some o → h'.get? b = some o) → Q (.ref D) { s₁ with heap := h', toks := tk })) E s)
    (hs : ∀ x, foldedSetIterable iter env x = pure x := by intro _; rfl) :
    wpAny (model prog w) A (eval (.ListComp elt [⟨.Tuple [.Name x px, .Name x₂ px₂] tk1 tp, iter, [], 0⟩] scope pos) env) Q E s := by
  rw [eval_ListComp]
  refine wpAny_comprehension_free (use := none) rfl hs hclos hkind hnames (wpAny_mono h (fun xv s₁ h₁ => ?_) fun _ _ e => e)
  obtain ⟨l, items, rfl, hl, hsz, hpair, helt, hQ⟩ := h₁
  refine pairsBlock (RR := fun acc C => compPost (model prog w) A E none Q acc C) F hFm hh hcell hkind hx hx₂ hxx hl hsz hpair helt ?_
  intro D C h' tk m' ys hD hC hDC hn hpl hlen hF hk
  refine ⟨m', hn, fun h'' hs'' => hQ D h'' tk ys hD (hpl.extBut hs''.extBut hDC) hlen (fun i v y hi hy => hFm _ _ _ _ (.but (fun b o hb e => hs''.extBut b o hb e) (nsNot hn)) (hF i v y hi hy)) fun b o e => hs''.extBut b o (by rintro rfl; rw [hC] at e; cases e) (hk b o e)⟩

/-- the same, stored under a local name -/
theorem Assign_pairs {elt iter : Expr} {x x₂ y : Str} {px px₂ py tp : Pos} {tk1} {scope : Scope} {cl : List (Str × Addr)} {pos spos : Pos} {Q : Flow → Shared → Prop} (F : Heap → Value → Value → Prop) (hFm : TupMono F) (hh : A.handled = none)
    (hsw : swapsWith (.ListComp elt [⟨.Tuple [.Name x px, .Name x₂ px₂] tk1 tp, iter, [], 0⟩] scope pos) (some (.Name y py)) spos.line env = pure true)
    (hclos : closureFor scope env = pure cl) (hcell : ∀ y ∈ scope.names, y.2 ≠ .cell) (hkind : scope.kind = .function)
    (hnames : ∀ y ∈ scope.names, y.2 = .local → scope.names.lookup y.1 = some .local) (hx : scope.names.lookup x = some .local) (hx₂ : scope.names.lookup x₂ = some .local) (hxx : x ≠ x₂)
    (hy : env.kindOf y = some .local) (hp : (env.scope.kind == .class || (env.scope.kind == .module && env.locals != env.globals)) = false)
    (h : wpAny (model prog w) A (eval iter env) (fun xv s₁ => ∃ l items m, xv = .ref l ∧ s₁.heap.IsList l items ∧ items.size ≤ sizeLine ∧ (∀ v ∈ items.toList, ∃ a b, PairAt s₁.heap v a b) ∧ s₁.heap.Ns env.locals m ∧ EltOn prog w A env scope cl x x₂ elt items F s₁ ∧
      (∀ (D : Addr) (h' : Heap) (tk : Tok) (ys : List Value), s₁.heap.objs.size ≤ D → h'.PlainList D ys.toArray → ys.length = items.size → (∀ (i : Nat) (v y : Value), items[i]? = some v → ys[i]? = some y → F h' v y) →
        h'.Ns env.locals (fun z => if z = y then some (.ref D) else m z) → (∀ b o, b ≠ env.locals → s₁.heap.get? b = some o → h'.get? b = some o) → Q .next { s₁ with heap := h', toks := tk })) E s)
    (hs : ∀ x, foldedSetIterable iter env x = pure x := by intro _; rfl) :
    wpAny (model prog w) A (exec (.Assign [.Name y py] (.ListComp elt [⟨.Tuple [.Name x px, .Name x₂ px₂] tk1 tp, iter, [], 0⟩] scope pos) spos) env) Q E s := by
  rw [exec_Assign_Name_used _ _ _ _ hsw]
  refine wpAny_bind (wpAny_standAt (wpAny_bind ?_))
  show wpAny _ A (do let _ ← comprehension (.ListComp elt [⟨.Tuple [.Name x px, .Name x₂ px₂] tk1 tp, iter, [], 0⟩] scope pos) scope env _ (newList []) false (eval iter env) (some (assign (.Name y py) env))) _ _ s
  refine wpAny_bind (wpAny_mono (wpAny_comprehension_free (use := some (assign (.Name y py) env)) (Q := fun _ s' => Q .next s') rfl hs hclos hkind hnames
    (wpAny_mono h (fun xv s₁ h₁ => ?_) fun _ _ e => e)) (fun _ s' hq => wpAny_pure (wpAny_pure hq)) fun _ _ e => e)
  obtain ⟨l, items, m, rfl, hl, hsz, hpair, hn, helt, hQ⟩ := h₁
  refine pairsBlock (RR := fun acc C => compPost (model prog w) A E (some (assign (.Name y py) env)) (fun _ s' => Q .next s') acc C) F hFm hh hcell hkind hx hx₂ hxx hl hsz hpair helt ?_
  intro D C h' tk m' ys hD hC hDC hnC hpl hlen hF hk
  have hLC : env.locals ≠ C := by rintro rfl; obtain ⟨o, _, _, ho, _⟩ := hn; rw [hC] at ho; cases ho
  have hLD : env.locals ≠ D := by rintro rfl; obtain ⟨o, _, _, ho, _⟩ := hn; exact absurd (Heap.lt_size ho) (Nat.not_lt.mpr hD)
  show wpAny _ A (assign (.Name y py) env (.ref D)) _ _ _
  have hn' : h'.Ns env.locals m := hn.at' fun o e => hk _ o e
  refine wpAny_assign_Name (wpAny_storeName_local hy hn' (fun h₂ hn₂ hs₂ => ?_) hp)
  have hnC₂ := hnC.sameBut hs₂ (Ne.symm hLC)
  refine ⟨m', hnC₂, fun h₃ hs₃ => ?_⟩
  exact hQ D h₃ _ ys hD ((hpl.extBut hs₂.extBut (Ne.symm hLD)).extBut hs₃.extBut hDC) hlen (fun i v y hi hy => hFm _ _ _ _ ((TupKeep.but (fun b o hb e => hs₂.extBut b o hb e) (nsNot hn')).trans (.but (fun b o hb e => hs₃.extBut b o hb e) (nsNot hnC₂))) (hF i v y hi hy))
    (hn₂.sameBut hs₃ hLC) fun b o hbL e => hs₃.extBut b o (by rintro rfl; rw [hC] at e; cases e) (hs₂.extBut b o hbL (hk b o e))
end
end Mine
end
section -- G7
open PySem PySem.W PyProof.Rows PySem.Calls
set_option maxRecDepth 100000
namespace Mine
theorem g_loop' {M : Model} {A : Around} {c : Code} {R : Result → Shared → Prop} (hq : c.quiet = true) (hb : bad c = false) (I : Nat → Shared → Prop)
    (turn : ∀ n s, I n s → wpG M (A.under c) (M.den c) (fun fin s' => match fin with
        | .done f => R (.ok f) s'
        | .again c' => (c' = c ∧ ∃ m, m < n ∧ I m s') ∨ (c'.quiet = true ∧ bad c' = false ∧ codeG M A c' R s')) (fun e s' => R (.error e) s') s)
    {s : Shared} (n : Nat) (h : I n s) : codeG M A c R s := by
  induction n using Nat.strongRecOn generalizing s with
  | ind n ih =>
    refine g_tree (g_mono (turn n s h) (fun fin s' hf => ?_) fun _ _ h' => h')
    cases fin with
    | done f => exact hf
    | again c' =>
      rcases hf with ⟨rfl, m, hm, hI⟩ | hf
      · exact ⟨hq, hb, ih m hm hI⟩
      · exact hf
section
variable {prog : Program} {w : World} {A : Around} {s : Shared} {env : Env}
/-- a for whose body stands in good contexts -/
theorem g_forLoop {R : Result → Shared → Prop} {target it body env} (I : Nat → Shared → Prop)
    (turn : ∀ n s, I n s → wpAny (model prog w) A (pyNext it) (fun r s₁ => match r with
      | none => R (.ok .next) s₁
      | some v => wpAny (model prog w) A (assign target env v) (fun _ s₂ => wpG (model prog w) A (execs body env) (fun f s₃ => match f with
          | .next | .cont => ∃ m, m < n ∧ I m s₃
          | .brk => R (.ok .next) s₃
          | .ret v => R (.ok (.ret v)) s₃) (fun _ _ => False) s₂) (fun _ _ => False) s₁) (fun _ _ => False) s)
    (n : Nat) (h : I n s) (ht : ∀ v, letOwnedTupleGo target it v = pure () := by intro _; rfl) : codeG (model prog w) A (.forLoop target it body [] env) R s := by
  refine g_loop' rfl rfl I (fun n s hI => ?_) n h
  show wpG _ A ((forTurn target it body [] env).onRaise (fun x => do noteFrame x env; theTreesLotGoes x)) _ _ s
  refine g_onRaise (g_mono (E := fun _ _ => False) ?_ (fun _ _ q => q) fun _ _ e => e.elim)
  simp only [forTurn]
  refine g_at (g_step (wpAny_onRaise (wpAny_mono (turn n s hI) (fun r s₁ h₁ => ?_) fun _ _ h' => h'.elim)))
  cases r with
  | none => exact g_pure (.inr ⟨rfl, rfl, liftC (codeAny_block (wpAny_pure h₁))⟩)
  | some v =>
    refine g_eq (congrArg (· >>= _) (ht v)) (g_bind (g_pure (g_step (wpAny_mono h₁ (fun _ s₂ h₂ => g_bind (g_mono h₂ (fun f s₃ h₃ => ?_) fun _ _ h' => h'.elim)) fun _ _ h' => h'.elim))))
    cases f with
    | next => exact g_pure (.inl ⟨rfl, h₃⟩)
    | cont => exact g_pure (.inl ⟨rfl, h₃⟩)
    | brk => exact g_pure h₃
    | ret v => exact g_pure h₃
theorem g_For {target iter body pos} {Q : Flow → Shared → Prop}
    (h : wpAny (model prog w) A (eval iter env) (fun x s₁ => wpAny (model prog w) A (pyIter x) (fun it s₂ =>
      codeG (model prog w) A (.forLoop target it body [] env) (fun r s' => match r with | .ok f => Q f s' | .error e => False) s₂) (fun _ _ => False) s₁) (fun _ _ => False) s)
    (hs : ∀ x, foldedSetIterable iter env x = pure x := by intro _; rfl) :
    wpG (model prog w) A (exec (.For target iter body [] pos) env) Q (fun _ _ => False) s := by
  rw [exec_For]
  refine g_at (g_step (wpAny_mono h (fun x s₁ h₁ => g_eq (congrArg (· >>= _) (hs x)) (g_bind (g_pure (g_at (g_bind (g_holding (lift (wpAny_mono h₁ (fun it s₂ h₂ => ?_) fun _ _ e => e)))))))) fun _ _ e => e))
  unfold runOwn
  exact g_onRaise (g_mono (g_run (E := fun _ _ => False) h₂) (fun _ _ q => q) fun _ _ e => e.elim)

/-- for x, x₂ in a list of pairs: a body that lays, and stores nothing but x and x₂ -/
theorem For_pairs {iter : Expr} {body : List Stmt} {x x₂ : Str} {px px₂ tp pos : Pos} {tk1} {Q : Flow → Shared → Prop} {E : Value → Shared → Prop} (hh : A.handled = none) (hx : env.kindOf x = some .local) (hx₂ : env.kindOf x₂ = some .local) (hxx : x ≠ x₂)
    (hp : (env.scope.kind == .class || (env.scope.kind == .module && env.locals != env.globals)) = false) (J : Nat → Prop)
    (h : wpAny (model prog w) A (eval iter env) (fun xv s₁ => ∃ l items m, xv = .ref l ∧ s₁.heap.IsList l items ∧ l ≠ env.locals ∧ (∀ v ∈ items.toList, ∃ a b, PairAt s₁.heap v a b) ∧ s₁.heap.Ns env.locals m ∧ J 0 ∧
      (∀ (i : Nat) (v a b : Value) (s₂ : Shared), items[i]? = some v → PairAt s₁.heap v a b → J i → s₂.heap.Ns env.locals (fun y => if y = x₂ then some b else if y = x then some a else m y) →
        (∀ b o, b ≠ env.locals → s₁.heap.get? b = some o → s₂.heap.get? b = some o) → (∃ h t, s₂ = { s₁ with heap := h, toks := t }) →
        wpAny (model prog w) A (execs body env) (fun f s₃ => match f with | .next => J (i + 1) ∧ Keeps s₂ s₃ | .ret v => Q (.ret v) s₃ | _ => False) (fun _ _ => False) s₂) ∧
      (J items.size → ∀ (h' : Heap) (tk : Tok), (∀ b o, b ≠ env.locals → s₁.heap.get? b = some o → h'.get? b = some o) → (∃ m', h'.Ns env.locals m' ∧ ∀ y, y ≠ x → y ≠ x₂ → m' y = m y) → Q .next { s₁ with heap := h', toks := tk })) (fun _ _ => False) s)
    (hs : ∀ x, foldedSetIterable iter env x = pure x := by intro _; rfl) :
    wpAny (model prog w) A (exec (.For (.Tuple [.Name x px, .Name x₂ px₂] tk1 tp) iter body [] pos) env) Q E s := by
  refine wpAny_mono (E := fun _ _ => False) (Q := Q) ?_ (fun _ _ q => q) fun _ _ e => e.elim
  refine wpAny_For (wpAny_mono h (fun xv s₁ h₁ => ?_) fun _ _ e => e.elim) hs
  obtain ⟨l, items, m, rfl, hl, hlL, hpair, hn, hJ, turn, done⟩ := h₁
  refine wpAny_pyIter_list hl ?_
  generalize hH1 : s₁.heap.push { cls := .type "list_iterator", data := .fields #[.ref l, .int 0 0] } = H1
  have old1 : ∀ b o, s₁.heap.get? b = some o → H1.get? b = some o := fun b o e => hH1 ▸ Heap.get?_push_of_some _ e
  have hit : H1.IsListIter s₁.heap.objs.size l 0 := ⟨_, hH1 ▸ Heap.get?_push_size _ rfl, rfl, rfl⟩
  have hlI : l ≠ s₁.heap.objs.size := let ⟨o, ho, _⟩ := hl; Nat.ne_of_lt (Heap.lt_size ho)
  have hLI : env.locals ≠ s₁.heap.objs.size := let ⟨o, _, _, ho, _⟩ := hn; Nat.ne_of_lt (Heap.lt_size ho)
  have neI : ∀ b o, s₁.heap.get? b = some o → b ≠ s₁.heap.objs.size := fun b o e => Nat.ne_of_lt (Heap.lt_size e)
  generalize hI : s₁.heap.objs.size = It at hit hlI hLI neI
  refine codeAny_forLoop_any (fun k s' => ∃ h' tk m' i, s' = { s₁ with heap := h', toks := tk } ∧ h'.IsListIter It l i ∧ h'.IsList l items ∧ h'.Ns env.locals m' ∧ (∀ y, y ≠ x → y ≠ x₂ → m' y = m y) ∧ J i ∧ i ≤ items.size ∧ k = items.size + 1 - i ∧
      ∀ b o, b ≠ env.locals → s₁.heap.get? b = some o → h'.get? b = some o) ?_ (items.size + 1)
    ⟨H1, s₁.toks, m, 0, rfl, hit, hl.at fun o e => old1 _ _ e, hn.at' fun o e => old1 _ _ e, fun _ _ _ => rfl, hJ, Nat.zero_le _, rfl, fun b o _ e => old1 b o e⟩
  rintro k s' ⟨H, tk, m', i, rfl, hit', hl', hn', hm', hJ', hi, rfl, hk⟩
  have hst : TupKeep s₁.heap H := .but hk (nsNot hn)
  by_cases hlt : i < items.size
  · have hv : items[i]? = some items[i] := Array.getElem?_eq_getElem hlt
    obtain ⟨a, b, hab⟩ := hpair items[i] (by simp)
    refine wpAny_pyNext_list_item hit' hl' hv fun h₁ hit₁ hs₁ => ?_
    obtain ⟨t, nt, et, gt⟩ := hab.keep (hst.trans (.but (fun b o hb e => hs₁.extBut b o hb e) (iterNot hit')))
    have hab' := hab
    rw [et] at hv hab' ⊢
    refine wpAny_letOwnedTupleGo_listiter hit₁ ?_
    refine assign_Tuple_tuple hh ⟨_, gt, rfl, nt, rfl⟩ rfl rfl fun h₅ he => ?_
    have he' : ∀ b o, h₁.get? b = some o → h₅.get? b = some o := fun b o e => he b o (Nat.ne_of_lt (Heap.lt_size e)) e
    have hn₅ : h₅.Ns env.locals m' := (hn'.sameBut hs₁ hLI).at' fun o e => he' _ o e
    refine assignInOrder_cons (wpAny_assign_Name (wpAny_storeName_local hx hn₅ (fun h₆ hn₆ hs₆ => ?_) hp))
    refine assignInOrder_cons (wpAny_assign_Name (wpAny_storeName_local hx₂ hn₆ (fun h₃ hn₃ hs₃ => ?_) hp))
    refine assignInOrder_nil ?_
    have up₃ : ∀ b o, b ≠ env.locals → b ≠ It → H.get? b = some o → h₃.get? b = some o := fun b o hbC hbI e => hs₃.extBut b o hbC (hs₆.extBut b o hbC (he' b o (hs₁.extBut b o hbI e)))
    have hn₃' : h₃.Ns env.locals (fun y => if y = x₂ then some b else if y = x then some a else m y) := by
      have e : (fun y => if y = x₂ then some b else if y = x then some a else m' y) = fun y => if y = x₂ then some b else if y = x then some a else m y := funext fun y => by
        by_cases q₂ : y = x₂
        · simp [q₂]
        · by_cases q : y = x
          · simp [q, hxx]
          · simp only [q, q₂, if_false]; exact hm' y q q₂
      exact e ▸ hn₃
    refine wpAny_mono (turn i (.ref t) a b _ hv hab' hJ' hn₃' (fun b o hbC e => up₃ b o hbC (neI b o e) (hk b o hbC e)) ⟨h₃, _, rfl⟩) (fun f s₄ h₄ => ?_) fun _ _ e => e.elim
    cases f with
    | next =>
      obtain ⟨hJ₄, h₄, tk₄, rfl, hk₄⟩ := h₄
      have hLt : env.locals ≠ It := hLI
      exact ⟨items.size + 1 - (i + 1), by omega, h₄, tk₄, _, i + 1, rfl, hit₁.at fun o e => hk₄ It o (hs₃.extBut It o (Ne.symm hLI) (hs₆.extBut It o (Ne.symm hLI) (he' It o e))), hl'.at fun o e => hk₄ l o (up₃ l o hlL hlI e), hn₃'.keeps hk₄,
        fun y q q₂ => by simp [q, q₂], hJ₄, hlt, rfl, fun b o hbC e => hk₄ b o (up₃ b o hbC (neI b o e) (hk b o hbC e))⟩
    | ret v => exact h₄
    | brk => exact h₄.elim
    | cont => exact h₄.elim
  · obtain rfl : i = items.size := Nat.le_antisymm hi (Nat.not_lt.mp hlt)
    refine wpAny_pyNext_list_end hh hit' hl' (by simp) fun h₁ he => ?_
    exact wpAny_pure (done hJ' h₁ tk (fun b o hbC e => he b o (neI b o e) (hk b o hbC e)) ⟨m', hn'.at' fun o e => he _ o hLI e, hm'⟩)
end
end Mine
end
section -- G8
open PySem PySem.W PyProof.Rows PySem.Calls
set_option maxRecDepth 100000
namespace Mine
theorem a_execs {M : Model} {A : Around} {E : Value → Shared → Prop} {s : Shared} {env : Env} {st : Stmt} {rest : List Stmt} {Q : Flow → Shared → Prop}
    (h : wpAny M A (exec st env) (fun f s' => match f with | .next => wpAny M A (execs rest env) Q E s' | f => Q f s') E s) : wpAny M A (execs (st :: rest) env) Q E s := by
  rw [execs_cons]
  refine wpAny_bind (wpAny_mono h (fun f s' h' => ?_) fun _ _ e => e)
  cases f <;> first | exact h' | exact wpAny_pure h'

/-- a row: tuples of a text and a value -/
def PairOf (know : Addr → Obj → Prop) (h : Heap) (v : Value) (p : Str × D) : Prop := ∃ t val, PairAt h v (.str p.1 t) val ∧ DV know val p.2
def RowOf (know : Addr → Obj → Prop) (h : Heap) : List Value → List (Str × D) → Prop
  | [], [] => True
  | v :: r, p :: S => PairOf know h v p ∧ RowOf know h r S
  | _, _ => False
section
variable {P P' : Addr → Obj → Prop} {h h' : Heap}
theorem PairOf.mono {v : Value} {p : Str × D} (x : PairOf P h v p) (k : TupKeep h h') (q : ∀ a o, (∀ n ep, o.data ≠ .dict n ep) → P a o → P' a o) : PairOf P' h' v p :=
  let ⟨t, val, a, b⟩ := x; ⟨t, val, a.keep k, b.mono q⟩
theorem RowOf.mono (k : TupKeep h h') (q : ∀ a o, (∀ n ep, o.data ≠ .dict n ep) → P a o → P' a o) : ∀ {l : List Value} {S : List (Str × D)}, RowOf P h l S → RowOf P' h' l S
  | [], [], _ => trivial
  | _ :: _, _ :: _, ⟨a, b⟩ => ⟨a.mono k q, b.mono k q⟩
theorem RowOf.length : ∀ {l : List Value} {S : List (Str × D)}, RowOf P h l S → l.length = S.length
  | [], [], _ => rfl
  | _ :: _, _ :: _, ⟨_, b⟩ => by rw [List.length_cons, List.length_cons, b.length]
theorem RowOf.append : ∀ {l l' : List Value} {S S' : List (Str × D)}, RowOf P h l S → RowOf P h l' S' → RowOf P h (l ++ l') (S ++ S')
  | [], _, [], _, _, x => x
  | _ :: _, _, _ :: _, _, ⟨a, b⟩, x => ⟨a, b.append x⟩
theorem RowOf.at : ∀ {l : List Value} {S : List (Str × D)} {i : Nat} {v : Value}, RowOf P h l S → l[i]? = some v → ∃ p, S[i]? = some p ∧ PairOf P h v p
  | _ :: _, _ :: _, 0, _, ⟨a, _⟩, e => by cases e; exact ⟨_, rfl, a⟩
  | _ :: r, _ :: S, i + 1, v, ⟨_, b⟩, e => by
    obtain ⟨p, e', q⟩ := RowOf.at (i := i) b (by simpa using e)
    exact ⟨p, by simpa using e', q⟩
theorem RowOf.of {l : List Value} {S : List (Str × D)} (hl : l.length = S.length) (x : ∀ (i : Nat) (v : Value) (p : Str × D), l[i]? = some v → S[i]? = some p → PairOf P h v p) : RowOf P h l S := by
  induction l generalizing S with
  | nil => cases S with
    | nil => trivial
    | cons _ _ => cases hl
  | cons v r ih => cases S with
    | nil => cases hl
    | cons p S => exact ⟨x 0 v p rfl rfl, ih (by simpa using hl) fun i v' p' a b => x (i + 1) v' p' (by simpa using a) (by simpa using b)⟩
theorem RowOf.pairs {l : List Value} {S : List (Str × D)} (x : RowOf P h l S) : ∀ v ∈ l.toArray.toList, ∃ a b, PairAt h v a b := fun v hv => by
  obtain ⟨i, hi, e⟩ := List.mem_iff_getElem.mp (by simpa using hv : v ∈ l)
  obtain ⟨p, _, t, val, q, _⟩ := x.at (i := i) (v := v) (by rw [List.getElem?_eq_getElem hi, e])
  exact ⟨_, _, q⟩
/-- the pair that stands there is the row's -/
theorem PairOf.same {v a b : Value} {p : Str × D} (x : PairOf P h v p) (y : PairAt h v a b) : ∃ t, a = .str p.1 t ∧ DV P b p.2 := by
  obtain ⟨t, val, ⟨t₁, n₁, e₁, g₁⟩, d⟩ := x
  obtain ⟨t₂, n₂, e₂, g₂⟩ := y
  rw [e₁] at e₂; cases e₂
  rw [g₁] at g₂; cases g₂
  exact ⟨t, rfl, d⟩
end
theorem look_none_of {α : Type} {S : List (Str × α)} {k : Str} (h : ∀ (i : Nat) (p : Str × α), S[i]? = some p → p.1 ≠ k) : look S k = none := by
  unfold look
  have : S.find? (fun p => decide (p.1 = k)) = none := List.find?_eq_none.mpr fun p hp => by
    obtain ⟨i, hi, e⟩ := List.mem_iff_getElem.mp hp
    simpa using h i p (by rw [List.getElem?_eq_getElem hi, e])
  rw [this]; rfl
theorem look_some_of {α : Type} : ∀ {S : List (Str × α)} {k : Str} {i : Nat} {d : α}, S[i]? = some (k, d) → (∀ (j : Nat) (p : Str × α), j < i → S[j]? = some p → p.1 ≠ k) → look S k = some d
  | p :: S, k, 0, d, e, _ => by
    cases e
    simp [look]
  | p :: S, k, i + 1, d, e, h => by
    have h0 : p.1 ≠ k := h 0 p (Nat.succ_pos i) rfl
    have := look_some_of (S := S) (k := k) (i := i) (d := d) (by simpa using e) fun j q hj hq => h (j + 1) q (Nat.succ_lt_succ hj) (by simpa using hq)
    unfold look at this ⊢
    rw [List.find?_cons_of_neg (by simpa using h0)]
    exact this
end Mine
end
section -- L2f
open PySem PySem.W PyProof.Rows PySem.Calls
set_option maxRecDepth 100000
namespace Mine
set_option maxHeartbeats 8000000
local macro_rules | `(tactic| k_room) => `(tactic| ((try simp only [depth_mark, depth_under_make, depth_under_kw, depth_in1, depth_deeper, depth_caller]); (first | ((show _ + _ < 1000); omega) | ((show _ < 1000); omega))))

/-- what _law_value gives back -/
def ValOf (P : Addr → Obj → Prop) (v : Value) : Option D → Prop
  | some d => DV P v d
  | none => v = .none

theorem value_call {w : World} {p : Program} {loose : List Str} {mg mb : Str → Option Value} {A₀ : Around} {base h₀ : Heap} {outer : List Env} {L : Addr} {m : Str → Option Value} {env : Env} {mean : ExcName → Option Value} {s : Shared} {dep un : Nat} {gs : Option (List Code)}
    {R : Result → Shared → Prop} {rl : Addr} {items : List Value} {S : List (Str × D)} {P : Addr → Obj → Prop} {k : Str} {t : Tok} (hf : env.frame = some L) (hke : env.scope.kind = .function)
    (X : (hd.heap_39 w.params).In h₀) (T : Top p loose mean mg mb h₀) (B : Below A₀ base outer h₀) (F : Fr h₀ L s.heap m) (hdep : dep < 500) (hun : un < 1000)
    (hl : s.heap.IsList rl items.toArray) (hr : RowOf P s.heap items S)
    (post : ∀ v h' t', (∀ b o, s.heap.get? b = some o → h'.get? b = some o) → ValOf P v (look S k) → R (.ok (.ret v)) { s with heap := h', toks := t' }) :
    codeAny (model PySem.Challenge.rw_kn0093_02.row.prog w) (AR dep (env :: outer) gs un) (.call (.ref 592) ⟨[.ref rl, .str k t], []⟩) R s := by
  have X' := X.keeps F.keep
  refine' a_defF (news := []) (env := env) (binds := [("row", .ref rl), ("name", .str k t)])
    B F (fun _ hp => nomatch hp) T.nolimit ?hA hf hke X' ?ho ?hcd ?hroom ?hb ?hloc (fun g L' h₁ hk F₁ N₁ B₁ st hlt => ?_) ?hcell ?c1 ?c2 ?c3
  case hA => rfl
  case ho => k_is
  case hcd => k_is
  case hroom => k_room
  case hb => exact BindsTo.of_eq rfl
  case hloc => exact locs rfl
  case hcell => decide
  case c1 => rfl
  case c2 => rfl
  case c3 => rfl
  have X₁ := X.keeps st
  have T₁ := T.keeps st
  have TR₁ := topRead_of T₁
  have k₁ : ∀ b o, s.heap.get? b = some o → h₁.get? b = some o := keepOf hk F₁
  have hL₀ : ∀ b o, s.heap.get? b = some o → b ≠ L' := fun b o e q => by
    obtain ⟨oL, _, _, hL, _⟩ := F₁.ns
    have := F₁.above
    have q₂ := Heap.lt_size (hk b o e (fun z => nomatch z))
    exact absurd (Nat.lt_of_lt_of_le q₂ this) (q ▸ Nat.lt_irrefl _)
  refine a_execs (For_pairs rfl rfl rfl (by decide) rfl (fun i => ∀ j p, j < i → S[j]? = some p → p.1 ≠ k) ?_)
  refine wpAny_mono (Q := fun xv s₁ => Stop (xv = .ref rl ∧ ∃ t₁, s₁ = { s with heap := h₁, toks := t₁ })) ?_ (fun xv s₁ hq => ?_) fun _ _ e => e
  · k_steps
    exact Stop.mk ⟨rfl, _, rfl⟩
  obtain ⟨rfl, t₁, rfl⟩ := hq
  have hlb := hr.length
  refine ⟨rl, items.toArray, _, rfl, hl.at fun o e => k₁ _ _ e, let ⟨o, ho, _⟩ := hl; hL₀ _ _ ho, (hr.mono (P' := P) (.of k₁) fun _ _ _ e => e).pairs, F₁.ns, (fun j p hj => absurd hj (Nat.not_lt_zero j)), ?_, ?_⟩
  · rintro i v a b s₂ hv hab hJ hn₂ hk₂ ⟨h₂, t₂, rfl⟩
    have hv' : items[i]? = some v := by simpa using hv
    obtain ⟨pr, hS, hp⟩ := hr.at hv'
    obtain ⟨ta, rfl, hd⟩ := (hp.mono (P' := P) (.of k₁) fun _ _ _ e => e).same hab
    have F₂ : Fr g L' h₂ _ := ⟨hn₂, fun b o e => hk₂ b o (fun q => by
      have q₂ := Heap.lt_size e
      exact absurd (Nat.lt_of_lt_of_le q₂ F₁.above) (q ▸ Nat.lt_irrefl _)) (F₁.keep b o e), F₁.above⟩
    have N₂ : News g L' h₂ [] := fun _ hp => nomatch hp
    have Z := F₂
    dsimp only at hk₂ ⊢
    clear F₁ N₁
    k_steps
    · rename (pr.fst == k) = true => hc
      dsimp only
      have hk' : pr.1 = k := by simpa using hc
      refine post b _ _ (fun b o e => hk₂ b o (hL₀ b o e) (k₁ b o e)) ?_
      have e : look S k = some pr.2 := look_some_of (i := i) (by rw [hS, ← hk']) hJ
      rw [e]; exact hd
    · rename (pr.fst == k) = false => hc
      rename_i j q hj hq
      rcases Nat.lt_succ_iff_lt_or_eq.mp hj with hj | hj
      · exact hJ j q hj hq
      · subst hj
        rw [hS] at hq; cases hq
        simpa using hc
    · exact ⟨_, _, rfl, fun _ _ e => e⟩
  · rintro hJ h₂ t₂ hk₂ ⟨m₂, hn₂, hm₂⟩
    dsimp only at hk₂ ⊢
    have F₂ : Fr g L' h₂ m₂ := ⟨hn₂, fun b o e => hk₂ b o (fun q => by
      have q₂ := Heap.lt_size e
      exact absurd (Nat.lt_of_lt_of_le q₂ F₁.above) (q ▸ Nat.lt_irrefl _)) (F₁.keep b o e), F₁.above⟩
    have N₂ : News g L' h₂ [] := fun _ hp => nomatch hp
    have e : look S k = none := look_none_of fun i q hq => hJ i q (by
      have := (List.getElem?_eq_some_iff.mp hq).1
      rw [← hlb] at this; simpa using this) hq
    rw [e] at post
    k_steps
    dsimp only
    exact post .none _ _ (fun b o e => hk₂ b o (hL₀ b o e) (k₁ b o e)) rfl
end Mine
end
section -- G9
open PySem PySem.W PyProof.Rows PySem.Calls
set_option maxRecDepth 100000
namespace Mine
section
variable {prog : Program} {w : World} {A A₀ : Around} {s : Shared} {base h₀ : Heap} {outer : List Env} {L : Addr} {m : Str → Option Value} {env : Env} {news : List (Addr × Obj)} {E : Value → Shared → Prop}
  {R : Result → Shared → Prop} {name qual : Str} {params : Arguments} {body : List Stmt} {scope : Scope} {dV kV doc pm cdv ct : Value} {an : Option Addr} {K : Frag} {oc : Value} {od : Option Addr} {osl : Array (Option Value)} {f : Addr} {args : Args} {binds : List (Str × Value)}
/-- a def with cells -/
theorem g_defCell (B : Below A₀ base outer h₀) (F : Fr h₀ L s.heap m) (N : News h₀ L s.heap news) (hlim : h₀.NoLimit) (hA : A.frames = some (env :: outer)) (hf : env.frame = some L) (hke : env.scope.kind = .function)
    (X : K.In s.heap) (ho : K.lookup f = some ⟨oc, od, .func (fnOf name qual params body scope dV kV doc pm an cdv ct), osl⟩) (hcd : codeIn K cdv qual = true) (hroom : A.depth < recursionLimit)
    (hbind : BindsTo s (fnOf name qual params body scope dV kV doc pm an cdv ct) args binds)
    (hkind : (binds.all fun y => scope.names.lookup y.1 == some .local || scope.names.lookup y.1 == some .cell) = true) (hnd : ((cellsFrom 0 scope.names []).map (·.1)).Nodup)
    (h : ∀ g L' h₁ tk cells, (∀ b o, s.heap.get? b = some o → b ∉ news.map (·.1) → g.get? b = some o) → Fr g L' h₁ (bindL (envOfC qual scope L' f cdv).kindOf binds fun _ => none) → News g L' h₁ (cells ++ news) →
      CellsAre (bindC (envOfC qual scope L' f cdv).kindOf binds fun _ => none) (cellsFrom (L' + 1) scope.names []) cells → Below A base (env :: outer) g → h₀.StaysIn g → (∀ p ∈ news, p.1 < L') →
      wpG (model prog w) (A.deeper (envOfC qual scope L' f cdv)) (execs body (envOfC qual scope L' f cdv))
        (fun fl s' => R (.ok (.ret (match fl with | .ret v => v | _ => .none))) s') (fun _ _ => False) { s with heap := h₁, toks := tk })
    (hco : scope.isCoroutine = false := by rfl) (hgen : scope.isGenerator = false := by rfl) (hk : scope.kind = .function := by rfl) : codeG (model prog w) A (.call (.ref f) args) R s := by
  obtain ⟨FG, BG, st, lv⟩ := groundX (R := R) B F N hA hf hke
  refine g_callFunction (fd := fnOf name qual params body scope dV kV doc pm an cdv ct) (body := body) hroom (X _ _ ho) rfl hco hgen rfl (codeRec_of X hcd) (hbind _ _ _ _ ?_)
  refine wpAny_newFunctionEnv_cells hk (kindsX hkind _) fun env' he s' x => ?_
  subst he
  refine ⟨(hlim.keeps F.keep).keeps x.toInCall.keep, g_fun ?_⟩
  obtain ⟨h₁, tk, rfl, _⟩ := x.done
  have hk₁ := x.toInCall.keep
  obtain ⟨cells, NC, Y⟩ := Cl.news (h₀ := s.heap) (Nat.le_refl _) fun n c hm => ⟨x.cell n c (lookup_of_mem_nodup (cellsFrom_names scope.names 0 (s.heap.objs.size + 1) [] [] rfl ▸ hnd) hm), x.above n c hm⟩
  refine h _ s.heap.objs.size h₁ tk cells (fun b o e nb => hideAll_get _ e nb) ⟨x.toInCall.ns, fun b o e => hk₁ b o (of_hideAll _ e), Nat.le_of_eq (hideAll_size _ _)⟩ (fun p hp => ?_) Y BG st (fun p hp => Heap.lt_size (N p hp).1)
  rcases List.mem_append.mp hp with hp | hp
  · refine ⟨(NC p hp).1, (NC p hp).2.1, ?_⟩
    cases q : (hideAll s.heap (news.map (·.1))).get? p.1 with
    | none => rfl
    | some o => have := of_hideAll _ q; rw [(NC p hp).2.2] at this; cases this
  · exact ⟨hk₁ _ _ (N p hp).1, Nat.ne_of_lt (Heap.lt_size (N p hp).1), hideAll_none _ (List.mem_map_of_mem hp)⟩
end

/-- the first parts of the pairs -/
def keyF (h : Heap) (v y : Value) : Prop := ∃ b, PairAt h v y b
theorem keyF_mono : TupMono keyF := fun _ _ _ _ k ⟨b, q⟩ => ⟨b, q.keep k⟩
section
variable {prog : Program} {w : World} {A : Around} {E : Value → Shared → Prop} {env : Env} {s : Shared}
theorem ListComp_pairsS {elt iter : Expr} {x x₂ : Str} {px px₂ tp : Pos} {tk1} {scope : Scope} {cl : List (Str × Addr)} {pos : Pos} {Q : Value → Shared → Prop} (F : Heap → Value → Value → Prop) (hFm : TupMono F) (hh : A.handled = none)
    (hclos : closureFor scope env = pure cl) (hcell : ∀ y ∈ scope.names, y.2 ≠ .cell) (hkind : scope.kind = .function)
    (hnames : ∀ y ∈ scope.names, y.2 = .local → scope.names.lookup y.1 = some .local) (hx : scope.names.lookup x = some .local) (hx₂ : scope.names.lookup x₂ = some .local) (hxx : x ≠ x₂)
    (h : wpAny (model prog w) A (eval iter env) (fun xv s₁ => Stop (∃ l items, xv = .ref l ∧ s₁.heap.IsList l items ∧ items.size ≤ sizeLine ∧ (∀ v ∈ items.toList, ∃ a b, PairAt s₁.heap v a b) ∧ EltOn prog w A env scope cl x x₂ elt items F s₁ ∧
      (∀ (D : Addr) (h' : Heap) (tk : Tok) (ys : List Value), s₁.heap.objs.size ≤ D → h'.PlainList D ys.toArray → ys.length = items.size → (∀ (i : Nat) (v y : Value), items[i]? = some v → ys[i]? = some y → F h' v y) →
        (∀ b o, s₁.heap.get? b = some o → h'.get? b = some o) → Q (.ref D) { s₁ with heap := h', toks := tk }))) E s)
    (hs : ∀ x, foldedSetIterable iter env x = pure x := by intro _; rfl) :
    wpAny (model prog w) A (eval (.ListComp elt [⟨.Tuple [.Name x px, .Name x₂ px₂] tk1 tp, iter, [], 0⟩] scope pos) env) Q E s :=
  ListComp_pairs F hFm hh hclos hcell hkind hnames hx hx₂ hxx h hs
theorem a_AssignName {x : Str} {pos' pos : Pos} {value : Expr} {Q : Flow → Shared → Prop} {M : Model} (h : wpAny M A (eval value env) (fun v s₁ => wpAny M A (storeName env x v) (fun _ s₂ => Q .next s₂) E s₁) E s)
    (hs : swapsWith value (some (.Name x pos')) pos.line env = pure false) : wpAny M A (exec (.Assign [.Name x pos'] value pos) env) Q E s := by
  have e : exec (.Assign [.Name x pos'] value pos) env = (do
      standAt pos
      if ← swapsWith value (some (.Name x pos')) pos.line env then
        evalThenUse value env (assign (.Name x pos') env)
        return .next
      let v ← eval value env
      standAt pos'
      bindName env x v
      pure .next) := rfl
  rw [e, hs]
  exact wpAny_bind (wpAny_standAt (wpAny_bind (wpAny_pure (wpAny_bind (wpAny_mono h (fun v s₁ h₁ => wpAny_bind (wpAny_standAt (wpAny_bind (wpAny_bindName (wpAny_mono h₁ (fun _ _ q => wpAny_pure q) fun _ _ e => e))))) fun _ _ e => e)))))
/-- the element that is the key -/
theorem elt_key {scope : Scope} {cl : List (Str × Addr)} {x x₂ : Str} {px : Pos} {items : Array Value} (hx : scope.names.lookup x = some .local) (hkind : scope.kind = .function) (hd : (x == ("__debug__" : Str)) = false := by decide) : EltOn prog w A env scope cl x x₂ (.Name x px) items keyF s := by
  rintro C v a b s₃ m₃ E' hC hv hab hn ha hb hk ⟨h, t, rfl⟩
  refine wpAny_Name (wpAny_loadName_local (by simp [compEnvC, relabel, hkind]) (lookup_relabel_local hx) hn ha ?_) hd
  exact ⟨⟨b, hab.keep (.of hk)⟩, h, t, rfl, fun _ _ e => e⟩
/-- the names of a row, told as a list -/
def ToldIs (ys : List Value) (S : List (Str × D)) : Prop := ys.length = S.length ∧ ∀ (i : Nat) (y : Value), ys[i]? = some y → ∃ p t, S[i]? = some p ∧ y = .str p.1 t
theorem ToldIs.of {P : Addr → Obj → Prop} {h : Heap} {items ys : List Value} {S : List (Str × D)} (hr : RowOf P h items S) (hlen : ys.length = items.toArray.size) (hF : ∀ (i : Nat) (v y : Value), items.toArray[i]? = some v → ys[i]? = some y → keyF h v y) : ToldIs ys S := by
  have hlen : ys.length = items.length := by simpa using hlen
  refine ⟨by rw [hlen, hr.length], fun i y hy => ?_⟩
  have hi : i < items.length := by rw [← hlen]; exact (List.getElem?_eq_some_iff.mp hy).1
  obtain ⟨p, hS, hp⟩ := hr.at (i := i) (v := items[i]) (List.getElem?_eq_getElem hi)
  obtain ⟨b, q⟩ := hF i items[i] y (by simp [hi]) hy
  obtain ⟨t, rfl, _⟩ := hp.same q
  exact ⟨p, t, hS, rfl⟩
theorem ToldIs.any {ys : List Value} {S : List (Str × D)} (x : ToldIs ys S) (k : Str) : ys.any (fun y => match y with | .str a _ => a == k | _ => false) = (look S k).isSome := by
  obtain ⟨hl, hx⟩ := x
  cases e : look S k with
  | none =>
    simp only [Option.isSome_none]
    rw [List.any_eq_false]
    intro y hy
    obtain ⟨i, hi, e'⟩ := List.mem_iff_getElem.mp hy
    obtain ⟨p, t, hp, rfl⟩ := hx i y (by rw [List.getElem?_eq_getElem hi, e'])
    simp only [beq_iff_eq]
    intro q
    unfold look at e
    have : S.find? (fun p => decide (p.1 = k)) = none := by cases z : S.find? (fun p => decide (p.1 = k)) <;> rw [z] at e <;> first | rfl | cases e
    have := List.find?_eq_none.mp this p (List.mem_iff_getElem?.mpr ⟨i, hp⟩)
    simp [q] at this
  | some d =>
    simp only [Option.isSome_some]
    rw [List.any_eq_true]
    unfold look at e
    obtain ⟨p, hp, rfl⟩ := Option.map_eq_some_iff.mp e
    have hm := List.mem_of_find?_eq_some hp
    have hk := List.find?_some hp
    obtain ⟨i, hi⟩ := List.mem_iff_getElem?.mp hm
    have hil : i < ys.length := by rw [hl]; exact (List.getElem?_eq_some_iff.mp hi).1
    obtain ⟨p', t, hp', e'⟩ := hx i ys[i] (List.getElem?_eq_getElem hil)
    rw [hi] at hp'; cases hp'
    refine ⟨ys[i], List.getElem_mem hil, ?_⟩
    rw [e']
    simpa using hk
open PySem.SeqAt in
theorem told_eq {ys : List Value} {S : List (Str × D)} (x : ToldIs ys S) (k : Str) (t : Tok) (A : Around) : ∀ y, y ∈ ys.toArray → EqAt A s y (.str k t) (match y with | .str a _ => a == k | _ => false) := fun y hy => by
  obtain ⟨i, hi, e'⟩ := List.mem_iff_getElem.mp (by simpa using hy : y ∈ ys)
  obtain ⟨p, u, hp, rfl⟩ := x.2 i y (by rw [List.getElem?_eq_getElem hi, e'])
  exact EqAt.str_str _ _ _ _
open PySem.SeqAt in
theorem in_told {tl : Addr} {ys : List Value} {S : List (Str × D)} {k : Str} {t : Tok} {b : Bool} {Q : Value → Shared → Prop} (hl : s.heap.IsList tl ys.toArray) (x : ToldIs ys S) (hb : (look S k).isSome = b) (h : Q (.bool b) s) :
    wpAny (model prog w) A (compareOp .In (.str k t) (.ref tl)) Q E s := by
  refine in_listAt _ hl (told_eq x k t _) ?_
  rw [← Array.any_toList, x.any k, hb]; exact h
open PySem.SeqAt in
theorem notIn_told {tl : Addr} {ys : List Value} {S : List (Str × D)} {k : Str} {t : Tok} {b : Bool} {Q : Value → Shared → Prop} (hl : s.heap.IsList tl ys.toArray) (x : ToldIs ys S) (hb : (look S k).isSome = b) (h : Q (.bool (!b)) s) :
    wpAny (model prog w) A (compareOp .NotIn (.str k t) (.ref tl)) Q E s := by
  refine notIn_listAt _ hl (told_eq x k t _) ?_
  rw [← Array.any_toList, x.any k, hb]; exact h
end
end Mine
end
section -- G10
open PySem PySem.W PyProof.Rows PySem.Calls
set_option maxRecDepth 100000
namespace Mine
section
variable {prog : Program} {w : World} {A : Around} {E : Value → Shared → Prop} {s : Shared} {l b : Addr} {items items2 : Array Value} {n n2 : Nat}
theorem iseq_list_add : seqSlot? (.type "list") (dunderI "add") = pure (some (.builtin "list.__iadd__")) := by
  simp only [seqSlot?, F.slot_list_iadd.lookup, pure_bind, show isSeqSlot (some (Value.builtin "list.__iadd__")) = true from by decide +kernel]
  rfl
theorem ifill_list_add : fillsInplaceSlot (.type "list") "add" (Operator.Add == .Add) = pure false := by
  unfold fillsInplaceSlot
  show (typeLookup (.type "list") (dunderI "add") >>= fun fi => pure (fi.isSome && !isSeqSlot fi)) = pure false
  rw [F.slot_list_iadd.lookup]
  show (pure (true && !isSeqSlot (some (Value.builtin "list.__iadd__"))) : Sem Bool) = pure false
  rw [show isSeqSlot (some (Value.builtin "list.__iadd__")) = true from by decide +kernel]; rfl
/-- a list grown in place by a list -/
theorem list_iadd {Q : Value → Shared → Prop} (hl : IsL s.heap l items n) (hb : IsL s.heap b items2 n2) (hz : items.size + items2.size ≤ 1000)
    (h : Q (.ref l) { s with heap := s.heap.update l (Obj.mapSeq fun x => x ++ items2) }) : wpAny (model prog w) A (inplaceOp .Add (.ref l) (.ref b)) Q E s := by
  unfold inplaceOp
  refine wpAny_holding ?_
  have ha : s.TypeIs (.ref l) "list" := ⟨_, hl, rfl⟩
  have hb' : s.TypeIs (.ref b) "list" := ⟨_, hb, rfl⟩
  refine wpAny_bind (wpAny_typeOf ha (wpAny_bind (wpAny_of_eq ifill_list_add ?_)))
  show wpAny (model prog w) A (if false = true then _ else _) Q E s
  rw [if_neg Bool.false_ne_true]
  refine wpAny_bind (wpAny_binaryOp1_none (nm := "add") ha hb' noFill_list_add ?_)
  refine wpAny_bind (wpAny_of_eq iseq_list_add ?_)
  refine wpAny_bind (wpAny_rule ?_)
  refine call_meets F.slot_list_iadd ha F.entry_list_iadd (F.args_list_iadd_2 _ _) (AutoSeq1.list___iadd___list_list_0 l items n b items2 n2 ?_ ?_ ?_) ⟨hl, hb, ?_⟩
  · show ¬(_ && decide (_ > sizeLine)) = true
    rw [sizeLine_eq]
    have : ¬ (items.size + items2.size > 16777216) := by omega
    simp [this]
  · rw [sizeLine_eq]; omega
  · rw [sizeLine_eq]; omega
  · exact h
abbrev listO (items : Array Value) (n : Nat) : Obj := { cls := .type "list", data := .seq items n }
theorem iadd_news {h₀ : Heap} {L : Addr} {m : Str → Option Value} {news : List (Addr × Obj)} {u : Obj → List (Addr × Obj)} {Q : Value → Shared → Prop} (F : Fr h₀ L s.heap m) (N : News h₀ L s.heap news) (U : UpdF l (listO items n) news u)
    (hb : (b, listO items2 n2) ∈ news) (hz : items.size + items2.size ≤ 1000)
    (h : ∀ h' n', Fr h₀ L h' m → News h₀ L h' (u (listO (items ++ items2) n')) → Q (.ref l) { s with heap := h' }) : wpAny (model prog w) A (inplaceOp .Add (.ref l) (.ref b)) Q E s := by
  obtain ⟨pre, post, rfl, hg, h1, h2⟩ := U.split
  refine list_iadd (N _ (List.mem_append_right _ (.head _))).1 (N _ hb).1 hz ?_
  obtain ⟨F', N'⟩ := news_upd (f := Obj.mapSeq fun x => x ++ items2) (o' := listO (items ++ items2) (if (items ++ items2).size == items.size then n else n + 1)) F N h1 h2 rfl rfl
  exact h _ _ F' (by rw [hg]; exact N')
end

/-- pairs, as tuples of a ledger -/
def TupsOf (P : Addr → Obj → Prop) (nw : List (Addr × Obj)) : List Value → List (Str × D) → Prop
  | [], [] => True
  | v :: r, p :: T => (∃ t n tk val, v = .ref t ∧ (t, ({ cls := .type "tuple", data := .seq #[.str p.1 tk, val] n } : Obj)) ∈ nw ∧ DV (fun a o => P a o ∨ (a, o) ∈ nw) val p.2) ∧ TupsOf P nw r T
  | _, _ => False
theorem TupsOf.mono {P : Addr → Obj → Prop} {nw nw' : List (Addr × Obj)} (k : ∀ p ∈ nw, p ∈ nw') : ∀ {vs : List Value} {T : List (Str × D)}, TupsOf P nw vs T → TupsOf P nw' vs T
  | [], [], _ => trivial
  | _ :: _, _ :: _, ⟨⟨t, n, tk, val, e, hm, hd⟩, r⟩ => ⟨⟨t, n, tk, val, e, k _ hm, hd.mono fun a o _ q => q.imp id (k _)⟩, r.mono k⟩
theorem TupsOf.length {P : Addr → Obj → Prop} {nw : List (Addr × Obj)} : ∀ {vs : List Value} {T : List (Str × D)}, TupsOf P nw vs T → vs.length = T.length
  | [], [], _ => rfl
  | _ :: _, _ :: _, ⟨_, r⟩ => by rw [List.length_cons, List.length_cons, r.length]
theorem TupsOf.append {P : Addr → Obj → Prop} {nw : List (Addr × Obj)} : ∀ {vs vs' : List Value} {T T' : List (Str × D)}, TupsOf P nw vs T → TupsOf P nw vs' T' → TupsOf P nw (vs ++ vs') (T ++ T')
  | [], _, [], _, _, x => x
  | _ :: _, _, _ :: _, _, ⟨a, r⟩, x => ⟨a, r.append x⟩
theorem TupsOf.row {P : Addr → Obj → Prop} {nw news : List (Addr × Obj)} {g h : Heap} {L : Addr} (N : News g L h news) (k : ∀ p ∈ nw, p ∈ news) : ∀ {vs : List Value} {T : List (Str × D)}, TupsOf P nw vs T → RowOf (fun a o => P a o ∨ (a, o) ∈ nw) h vs T
  | [], [], _ => trivial
  | _ :: _, _ :: _, ⟨⟨t, n, tk, val, e, hm, hd⟩, r⟩ => ⟨⟨tk, val, ⟨t, n, e, (N _ (k _ hm)).1⟩, hd⟩, r.row N k⟩
theorem tups_nil {P : Addr → Obj → Prop} {nw : List (Addr × Obj)} : TupsOf P nw [] [] := trivial
theorem tups_cons {P : Addr → Obj → Prop} {nw : List (Addr × Obj)} {t : Addr} {n : Nat} {k : Str} {tk : Tok} {val : Value} {dv : D} {vs : List Value} {T : List (Str × D)} (hm : (t, ({ cls := .type "tuple", data := .seq #[.str k tk, val] n } : Obj)) ∈ nw)
    (hd : DV (fun a o => P a o ∨ (a, o) ∈ nw) val dv) (r : TupsOf P nw vs T) : TupsOf P nw (.ref t :: vs) ((k, dv) :: T) := ⟨⟨t, n, tk, val, rfl, hm, hd⟩, r⟩
end Mine
end
section -- G11
open PySem PySem.W PyProof.Rows PySem.Calls
set_option maxRecDepth 100000
namespace Mine
section
variable {M : Model} {A : Around} {E : Value → Shared → Prop} {s : Shared} {env : Env}
theorem a_test {l r : Expr} {op : CmpOp} {pos : Pos} {whole : Sem Value} {Q : Bool → Shared → Prop}
    (h : wpAny M A (eval l env) (fun a s₁ => wpAny M A (eval r env) (fun b s₂ => wpAny M A (compareOp op a b) (fun c s₃ => wpAny M A (truthy c) Q E s₃) E s₂) E s₁) E s)
    (hm : behindInMarks op r = false := by with_unfolding_all rfl) : wpAny M A (isTrue (.Compare l [op] [r] pos) env whole) Q E s := by
  rw [isTrue_Compare1]
  refine wpAny_bind (wpAny_mono h (fun a s₁ h₁ => ?_) fun _ _ e => e)
  rw [markedBehindIn_of_false hm]
  exact wpAny_bind (wpAny_holding (wpAny_mono h₁ (fun b s₂ h₂ => wpAny_bind (wpAny_standAt (wpAny_bind (wpAny_operateT (wpAny_mono h₂ (fun c s₃ h₃ => wpAny_holding h₃) fun _ _ e => e))))) fun _ _ e => e))
end
def keyAt (h : Heap) : Value → Option Str
  | .ref t => match h.get? t with
    | some o => (match o.data with
      | .seq its _ => (match (its[0]? : Option Value) with
        | some (Value.str k _) => some k
        | _ => none)
      | _ => none)
    | none => none
  | _ => none
theorem keyAt_of {h : Heap} {v b : Value} {k : Str} {t : Tok} (x : PairAt h v (.str k t) b) : keyAt h v = some k := by
  obtain ⟨a, n, rfl, g⟩ := x
  simp only [keyAt, g]
  rfl
def firstIs (h : Heap) (f : Str → Bool) (v : Value) : Bool := match keyAt h v with
  | some k => f k
  | none => false
theorem RowOf.filter {P : Addr → Obj → Prop} {h h₁ : Heap} {f : Str → Bool} (k : TupKeep h₁ h) : ∀ {vs : List Value} {T : List (Str × D)}, RowOf P h₁ vs T → RowOf P h (vs.filter (firstIs h₁ f)) (T.filter fun q => f q.1)
  | [], [], _ => trivial
  | v :: r, p :: T, ⟨a, b⟩ => by
    obtain ⟨t, val, q, d⟩ := a
    have e : firstIs h₁ f v = f p.1 := by unfold firstIs; rw [keyAt_of q]
    rw [List.filter_cons, List.filter_cons, e]
    split
    · exact ⟨⟨t, val, q.keep k, d⟩, RowOf.filter k b⟩
    · exact RowOf.filter k b
theorem RowOf.firsts {P : Addr → Obj → Prop} {h : Heap} {vs : List Value} {T : List (Str × D)} (x : RowOf P h vs T) : ∀ v ∈ vs, ∃ k t b, PairAt h v (.str k t) b := fun v hv => by
  obtain ⟨i, hi, e⟩ := List.mem_iff_getElem.mp hv
  obtain ⟨p, _, t, val, q, _⟩ := x.at (i := i) (v := v) (by rw [List.getElem?_eq_getElem hi, e])
  exact ⟨_, _, _, q⟩
section
variable {prog : Program} {w : World} {A : Around} {E : Value → Shared → Prop} {env : Env} {s : Shared}
theorem paired_eq : ∀ {a b : List Value}, Paired (fun v y => y = v) a b → b = a
  | _, _, .nil => rfl
  | _, _, .cons h t => by rw [h, paired_eq t]
/-- [x for x in iter if x[0] op r], over a list of pairs whose first part is a text -/
theorem ListComp_first {iter r : Expr} {op : CmpOp} {x : Str} {px p1 p2 p3 p4 p5 : Pos} {scope : Scope} {cl : List (Str × Addr)} {pos : Pos} {Q : Value → Shared → Prop} (f : Str → Bool) (hh : A.handled = none)
    (hclos : closureFor scope env = pure cl) (hcell : ∀ y ∈ scope.names, y.2 ≠ .cell) (hkind : scope.kind = .function)
    (hnames : ∀ y ∈ scope.names, y.2 = .local → scope.names.lookup y.1 = some .local) (hx : scope.names.lookup x = some .local) (hd : (x == ("__debug__" : Str)) = false) (hm : behindInMarks op r = false)
    (h : wpAny (model prog w) A (eval iter env) (fun xv s₁ => Stop (∃ (l : Addr) (vs : List Value), xv = .ref l ∧ s₁.heap = s.heap ∧ s₁.heap.IsList l vs.toArray ∧ vs.length ≤ sizeLine ∧ (∀ v ∈ vs, ∃ k t b, PairAt s₁.heap v (.str k t) b) ∧
      (∀ (C : Addr) (k : Str) (t : Tok) (s₃ : Shared) (E' : Value → Shared → Prop), s₁.heap.objs.size ≤ C → (∀ b o, s₁.heap.get? b = some o → s₃.heap.get? b = some o) →
        wpAny (model prog w) A (eval r (compEnvC scope cl C env)) (fun b s₄ => wpAny (model prog w) A (compareOp op (.str k t) b) (fun c s₅ => wpAny (model prog w) A (truthy c) (fun ok s₆ => ok = f k ∧ Keeps s₃ s₆) E' s₅) E' s₄) E' s₃) ∧
      (∀ (D : Addr) (h' : Heap) (tk : Tok) (n : Nat), s₁.heap.get? D = none → h'.get? D = some (listO (vs.filter (firstIs s.heap f)).toArray n) →
        (∀ b o, s₁.heap.get? b = some o → h'.get? b = some o) → Q (.ref D) { s₁ with heap := h', toks := tk }))) E s)
    (hs : ∀ x, foldedSetIterable iter env x = pure x := by intro _; rfl) :
    wpAny (model prog w) A (eval (.ListComp (.Name x p1) [⟨.Name x px, iter, [.Compare (.Subscript (.Name x p2) (.Constant (.int 0) 0 p3) p4) [op] [r] p5], 0⟩] scope pos) env) Q E s := by
  refine wpAny_ListComp_free (firstIs s.heap f) (fun v y => y = v) hclos hcell hkind hnames hx (wpAny_mono h (fun xv s₁ h₁ => ?_) fun _ _ e => e) hs
  obtain ⟨l, vs, rfl, hs₁, hl, hz, hpair, hr, hQ⟩ := h₁
  refine wpAny_pyIter_list hl ?_
  have hlI : l ≠ s₁.heap.objs.size := let ⟨o, ho, _⟩ := hl; Nat.ne_of_lt (Heap.lt_size ho)
  refine ⟨_, _, _, _, _, _, rfl, Walks.list hh s₁.heap.objs.size l hlI vs.toArray, by simpa using hz, ⟨⟨_, Heap.get?_push_size _ rfl, rfl, rfl⟩, hl.push _⟩, ?_, ⟨?_, ?_⟩, ?_⟩
  · intro b hb
    simp only [Heap.size_push, List.mem_cons, List.not_mem_nil, or_false] at hb ⊢
    rcases hb with rfl | rfl
    · exact Nat.lt_succ_self _
    · exact Nat.lt_succ_of_lt (let ⟨o, ho, _⟩ := hl; Heap.lt_size ho)
  · intro C i v s₃ m₃ E' hC hP hn hv hk htk
    have hvm : v ∈ vs := by
      obtain ⟨hi, e⟩ := Array.getElem?_eq_some_iff.mp hP
      rw [← e]; simp
    obtain ⟨k, t, b, a, n, rfl, g⟩ := hpair v hvm
    have hp : firstIs s.heap f (.ref a) = f k := by unfold firstIs; rw [← hs₁, keyAt_of ⟨a, n, rfl, g⟩]
    rw [hp]
    have kk : ∀ b o, s₁.heap.get? b = some o → s₃.heap.get? b = some o := fun b o e => hk b o (by simpa using Nat.ne_of_lt (Heap.lt_size e)) (Heap.get?_push_of_some _ e)
    have g₃ := kk _ _ g
    refine wpAny_tests_one (a_test ?_ hm)
    refine wpAny_Subscript_Constant_late (wpAny_Name (wpAny_loadName_local (by simp [compEnvC, relabel, hkind]) (lookup_relabel_local hx) hn hv ?_) hd)
    refine wpAny_Constant_int ?_
    refine ⟨"tuple", _, slot_tuple_getitem.lookup, ⟨_, g₃, rfl⟩, ?_⟩
    refine getItem_tuple (j := 0) ⟨_, g₃, rfl, _, rfl⟩ (by decide) (by decide) (by rfl) (by rfl) ?_
    have z := hr C k t { s₃ with toks := s₃.toks + 1 } E' (Nat.le_trans (by rw [Heap.size_push]; exact Nat.le_succ _) hC) kk
    refine wpAny_mono z (fun b s₄ z => wpAny_mono z (fun c s₅ z => wpAny_mono z (fun ok s₆ z => ?_) fun _ _ e => e) fun _ _ e => e) fun _ _ e => e
    obtain ⟨e, h', tk, rfl, k'⟩ := z
    exact ⟨e, h', tk, rfl, k'⟩
  · intro C i v s₃ m₃ E' hC hP hpv hn hv hk htk
    refine wpAny_Name (wpAny_loadName_local (by simp [compEnvC, relabel, hkind]) (lookup_relabel_local hx) hn hv ?_) hd
    exact ⟨rfl, _, _, rfl, fun _ _ e => e⟩
  · intro D h' tk ys vs' hD hl' hpl hlen hP hF hk
    have e : vs' = vs := by
      refine List.ext_getElem (by simpa using hlen) fun i h1 h2 => ?_
      have := hP i vs'[i] (List.getElem?_eq_getElem h1)
      simpa [List.getElem?_eq_getElem h2] using this.symm
    have ey := paired_eq hF
    rw [e] at ey
    obtain ⟨n, hn⟩ := hpl
    have k₁ : ∀ b o, s₁.heap.get? b = some o → h'.get? b = some o := fun b o e => hk b o (by simpa using Nat.ne_of_lt (Heap.lt_size e)) (Heap.get?_push_of_some _ e)
    refine hQ D h' tk n ?_ (by rw [← ey]; exact hn) k₁
    cases q : s₁.heap.get? D with
    | none => rfl
    | some o => have := Heap.get?_push_of_some { cls := .type "list_iterator", data := .fields #[.ref l, .int 0 0] } q; exact absurd (this.symm.trans hD) (by simp)
end
end Mine
end
section -- L2g
open PySem PySem.W PyProof.Rows PySem.Calls
set_option maxRecDepth 100000
namespace Mine
set_option maxHeartbeats 4000000
local macro_rules | `(tactic| k_room) => `(tactic| ((try simp only [depth_mark, depth_under_make, depth_under_kw, depth_in1, depth_deeper, depth_caller]); (first | ((show _ + _ < 1000); omega) | ((show _ < 1000); omega))))

theorem value_callG {w : World} {p : Program} {loose : List Str} {mg mb : Str → Option Value} {A₀ : Around} {base h₀ : Heap} {outer : List Env} {L : Addr} {m : Str → Option Value} {env : Env} {mean : ExcName → Option Value} {s : Shared} {dep un : Nat} {gs : Option (List Code)} {news : List (Addr × Obj)}
    {Q : Value → Shared → Prop} {E : Value → Shared → Prop} {rl : Addr} {items : List Value} {S : List (Str × D)} {P : Addr → Obj → Prop} {k : Str} {t : Tok} (hf : env.frame = some L) (hke : env.scope.kind = .function)
    (X : (hd.heap_39 w.params).In h₀) (T : Top p loose mean mg mb h₀) (B : Below A₀ base outer h₀) (F : Fr h₀ L s.heap m) (N : News h₀ L s.heap news) (hdep : dep < 500) (hun : un < 1000)
    (hl : h₀.IsList rl items.toArray) (hr : RowOf P h₀ items S)
    (post : ∀ v h' t', Fr h₀ L h' m → News h₀ L h' news → ValOf P v (look S k) → Q v { s with heap := h', toks := t' }) :
    wpAny (model PySem.Challenge.rw_kn0093_02.row.prog w) (AR dep (env :: outer) gs un) (call (.ref 592) [.ref rl, .str k t]) Q E s :=
  wpAny_call (value_call (s := s) (m := m) hf hke X T B F hdep hun (hl.at fun o e => F.keep _ _ e) (hr.mono (TupKeep.of F.keep) fun _ _ _ e => e) fun v h' t' hk hv => post v h' t' (frGrow F hk) (newsGrow N hk) hv)
theorem value_callN {w : World} {p : Program} {loose : List Str} {mg mb : Str → Option Value} {A₀ : Around} {base h₀ : Heap} {outer : List Env} {L : Addr} {m : Str → Option Value} {env : Env} {mean : ExcName → Option Value} {s : Shared} {dep un : Nat} {gs : Option (List Code)} {news : List (Addr × Obj)}
    {Q : Value → Shared → Prop} {E : Value → Shared → Prop} {rl : Addr} {items : List Value} {S : List (Str × D)} {P : Addr → Obj → Prop} {k : Str} {t : Tok} (hf : env.frame = some L) (hke : env.scope.kind = .function)
    (X : (hd.heap_39 w.params).In h₀) (T : Top p loose mean mg mb h₀) (B : Below A₀ base outer h₀) (F : Fr h₀ L s.heap m) (N : News h₀ L s.heap news) (hdep : dep < 500) (hun : un < 1000)
    (hl : h₀.IsList rl items.toArray) (hr : RowOf P h₀ items S) (c : look S k = none)
    (post : ∀ h' t', Fr h₀ L h' m → News h₀ L h' news → Q .none { s with heap := h', toks := t' }) :
    wpAny (model PySem.Challenge.rw_kn0093_02.row.prog w) (AR dep (env :: outer) gs un) (call (.ref 592) [.ref rl, .str k t]) Q E s :=
  value_callG hf hke X T B F N hdep hun hl hr fun v h' t' F' N' hv => by rw [c] at hv; obtain rfl : v = .none := hv; exact post h' t' F' N'
theorem value_callS {w : World} {p : Program} {loose : List Str} {mg mb : Str → Option Value} {A₀ : Around} {base h₀ : Heap} {outer : List Env} {L : Addr} {m : Str → Option Value} {env : Env} {mean : ExcName → Option Value} {s : Shared} {dep un : Nat} {gs : Option (List Code)} {news : List (Addr × Obj)}
    {Q : Value → Shared → Prop} {E : Value → Shared → Prop} {rl : Addr} {items : List Value} {S : List (Str × D)} {P : Addr → Obj → Prop} {k y : Str} {t : Tok} (hf : env.frame = some L) (hke : env.scope.kind = .function)
    (X : (hd.heap_39 w.params).In h₀) (T : Top p loose mean mg mb h₀) (B : Below A₀ base outer h₀) (F : Fr h₀ L s.heap m) (N : News h₀ L s.heap news) (hdep : dep < 500) (hun : un < 1000)
    (hl : h₀.IsList rl items.toArray) (hr : RowOf P h₀ items S) (c : look S k = some (.str y))
    (post : ∀ h' t' u, Fr h₀ L h' m → News h₀ L h' news → Q (.str y u) { s with heap := h', toks := t' }) :
    wpAny (model PySem.Challenge.rw_kn0093_02.row.prog w) (AR dep (env :: outer) gs un) (call (.ref 592) [.ref rl, .str k t]) Q E s :=
  value_callG hf hke X T B F N hdep hun hl hr fun v h' t' F' N' hv => by rw [c] at hv; obtain ⟨u, rfl⟩ := DV.isStr hv; exact post h' t' u F' N'
theorem frCongr {g h : Heap} {L : Addr} {m m' : Str → Option Value} (F : Fr g L h m) (e : ∀ y, m y = m' y) : Fr g L h m' := (funext e : m = m') ▸ F
theorem frOver {g h : Heap} {L : Addr} {k : Str} {a b : Option Value} {f : Str → Option Value} (F : Fr g L h (fun y => if y = k then a else if y = k then b else f y)) : Fr g L h (fun y => if y = k then a else f y) :=
  frCongr F fun y => by by_cases q : y = k <;> simp [q]
theorem frSwap {g h : Heap} {L : Addr} {k k' : Str} {a b c : Option Value} {f : Str → Option Value} (F : Fr g L h (fun y => if y = k then a else if y = k' then b else if y = k then c else f y)) (ne : k ≠ k') : Fr g L h (fun y => if y = k' then b else if y = k then a else f y) :=
  frCongr F fun y => by
    by_cases q : y = k
    · subst q; simp [ne]
    · simp [q]
def mB (rl d : Addr) : Str → Option Value := fun y => if y = "environ" then some (.ref d) else if y = "row" then some (.ref rl) else none
local macro_rules | `(tactic| walk_at "call ref") => `(tactic| (k_here; k_dflt (first
  | (refine' value_callN ?f ?ke ?X ?T ?B ?F ?N ?hd ?hu ?hl ?hr ?c ?_; (case c => assumption); (case f => rfl); (case ke => rfl); (case X => k_asm); (case T => k_asm); (case B => k_asm); (case F => k_asm); (case N => k_asm); (case hd => (dsimp only [AR, Around.deeper]; omega)); (case hu => (dsimp only [AR, Around.deeper]; omega)); (case hl => assumption); (case hr => assumption); intro h' t' F' N')
  | (refine' value_callS ?f ?ke ?X ?T ?B ?F ?N ?hd ?hu ?hl ?hr ?c ?_; (case c => assumption); (case f => rfl); (case ke => rfl); (case X => k_asm); (case T => k_asm); (case B => k_asm); (case F => k_asm); (case N => k_asm); (case hd => (dsimp only [AR, Around.deeper]; omega)); (case hu => (dsimp only [AR, Around.deeper]; omega)); (case hl => assumption); (case hr => assumption); intro h' t' u' F' N')
  | (refine' value_callG ?f ?ke ?X ?T ?B ?F ?N ?hd ?hu ?hl ?hr ?_; (case f => rfl); (case ke => rfl); (case X => k_asm); (case T => k_asm); (case B => k_asm); (case F => k_asm); (case N => k_asm); (case hd => (dsimp only [AR, Around.deeper]; omega)); (case hu => (dsimp only [AR, Around.deeper]; omega)); (case hl => assumption); (case hr => assumption); intro v h' t' F' N' hv'))))
local macro_rules | `(tactic| walk_at "compareOp In none ref") => `(tactic| (k_here; k_dflt (refine' none_in_strs ?N ?hm ?hs ?_; (case N => k_asm); (case hm => k_mem); (case hs => first | exact strs_cons (strs_cons (strs_cons strs_nil))))))
local macro_rules | `(tactic| walk_at "compareOp In str ref") => `(tactic| (k_here; k_dflt (refine in_told (News.isList (by k_asm) (by news_mem)) (by with_reducible assumption) (by assumption) ?_)))
local macro_rules | `(tactic| walk_at "compareOp NotIn str ref") => `(tactic| (k_here; k_dflt (refine notIn_told (News.isList (by k_asm) (by news_mem)) (by assumption) (by assumption) ?_); (try dsimp only [Bool.not_true, Bool.not_false])))
local macro_rules | `(tactic| k_all) => `(tactic| assumption)
local macro_rules | `(tactic| walk_at "inplaceOp Add ref ref") => `(tactic| (k_here; k_dflt (refine' iadd_news ?F ?N ?U ?b ?z ?_; (case F => k_asm); (case N => k_asm); (case U => k_updF); (case b => k_mem); (case z => first | (simp; done) | (simp; omega))); intro h' n' F' N'; (try dsimp only at N')))
local macro_rules | `(tactic| walk_at "inplaceOp") => `(tactic| (k_here; k_dflt (refine' iadd_news ?F ?N ?U ?b ?z ?_; (case F => k_asm); (case N => k_asm); (case U => k_updF); (case b => k_mem); (case z => first | (simp; done) | (simp; omega))); intro h' n' F' N'; (try dsimp only at N')))
def dSN (S : List (Str × D)) : D := (look S "SERVER_NAME").getD (.str "127.0.0.1")
def planA (S : List (Str × D)) : List (Str × D) := [("SERVER_NAME", dSN S), ("SERVER_PROTOCOL", .str "HTTP/1.0"), ("HTTP_HOST", dSN S), ("REQUEST_METHOD", .str "GET")]
def planBB : List (Str × D) := [("SCRIPT_NAME", .str ""), ("PATH_INFO", .str "/")]
def planB (S : List (Str × D)) : List (Str × D) := if (look S "SCRIPT_NAME").isSome || (look S "PATH_INFO").isSome then [] else planBB
def planC : List (Str × D) := [("wsgi.version", .ver), ("wsgi.run_once", .int 0), ("wsgi.multithread", .int 0), ("wsgi.multiprocess", .int 0)]
def planD (S : List (Str × D)) (dI dE : D) : List (Str × D) := [("wsgi.input", dI), ("wsgi.errors", dE), ("wsgi.url_scheme", .str (guessS S))]
def schS (S : List (Str × D)) : Str := match look S "wsgi.url_scheme" with
  | some (.str y) => y
  | _ => guessS S
def planE1 : List (Str × D) := [("SERVER_PORT", .str "80")]
def planF1 : List (Str × D) := [("SERVER_PORT", .str "443")]
def planE (S : List (Str × D)) : List (Str × D) := if (schS S == ("http" : Str)) = true then planE1 else []
def planE2 (S : List (Str × D)) : List (Str × D) := if (schS S == ("https" : Str)) = true then planF1 else []
def planS (S : List (Str × D)) (dI dE : D) : List (Str × D) := planA S ++ planB S ++ planC ++ planD S dI dE ++ planE S ++ planE2 S

def laidS (S : List (Str × D)) (dI dE : D) : List (Str × D) := S ++ (planS S dI dE).filter fun q => (look S q.1).isNone
def PlanS (P : Addr → Obj → Prop) (g : Heap) (L' : Addr) (s : Shared) (mm : Str → Option Value) (tl : Addr) (oTl : Obj) (oT : Obj) (d : Addr) (od : Obj) (T : List (Str × D)) (s' : Shared) : Prop :=
  ∃ h' t' pl n vsA vs nw, s' = { s with heap := h', toks := t' } ∧ Fr g L' h' (fun y => if y = "plan" then some (.ref pl) else mm y) ∧ News g L' h' ((pl, listO vsA n) :: (tl, oTl) :: (L' + 1, oT) :: (d, od) :: nw) ∧ (∀ q ∈ nw, q.1 ≠ pl) ∧ (@LT.lt Nat _ tl pl ∧ @LT.lt Nat _ (L' + 1) pl ∧ @LT.lt Nat _ d pl) ∧ vsA.toList = vs ∧ TupsOf P nw vs T
theorem PlanS.fold {P : Addr → Obj → Prop} {g h' : Heap} {L' tl d pl : Addr} {s : Shared} {mm : Str → Option Value} {oTl oT od : Obj} {T : List (Str × D)} {t' n : Nat} {vsA : Array Value} {vs : List Value} {news : List (Addr × Obj)}
    (F : Fr g L' h' (fun y => if y = "plan" then some (.ref pl) else mm y)) (N : News g L' h' news) (hp : (pl, listO vsA n) ∈ news) (h1 : (tl, oTl) ∈ news) (h2 : (L' + 1, oT) ∈ news) (h3 : (d, od) ∈ news) (lt : @LT.lt Nat _ tl pl ∧ @LT.lt Nat _ (L' + 1) pl ∧ @LT.lt Nat _ d pl) (hv : vsA.toList = vs)
    (hT : TupsOf P (news.filter fun q => decide (q.1 ≠ pl)) vs T) : PlanS P g L' s mm tl oTl oT d od T { s with heap := h', toks := t' } := by
  refine ⟨h', t', pl, n, vsA, vs, _, rfl, F, fun p q => ?_, fun q hq => by simpa using (List.mem_filter.mp hq).2, lt, hv, hT⟩
  rcases List.mem_cons.mp q with rfl | q
  · exact N _ hp
  · rcases List.mem_cons.mp q with rfl | q
    · exact N _ h1
    · rcases List.mem_cons.mp q with rfl | q
      · exact N _ h2
      · rcases List.mem_cons.mp q with rfl | q
        · exact N _ h3
        · exact N _ (List.mem_filter.mp q).1
theorem tups_consF {P : Addr → Obj → Prop} {news : List (Addr × Obj)} {pl t : Addr} {n : Nat} {k : Str} {tk : Tok} {val : Value} {dv : D} {vs : List Value} {T : List (Str × D)} (hm : (t, ({ cls := .type "tuple", data := .seq #[.str k tk, val] n } : Obj)) ∈ news) (ne : t ≠ pl)
    (hd : DV (fun a o => P a o ∨ (a, o) ∈ news.filter fun q => decide (q.1 ≠ pl)) val dv) (r : TupsOf P (news.filter fun q => decide (q.1 ≠ pl)) vs T) : TupsOf P (news.filter fun q => decide (q.1 ≠ pl)) (.ref t :: vs) ((k, dv) :: T) :=
  tups_cons (List.mem_filter.mpr ⟨hm, by simpa using ne⟩) hd r
theorem tups_moreF {P : Addr → Obj → Prop} {nw news : List (Addr × Obj)} {pl : Addr} {vs : List Value} {T : List (Str × D)} (hn : ∀ q ∈ nw, q.1 ≠ pl) (k : ∀ p ∈ nw, p ∈ news) (x : TupsOf P nw vs T) : TupsOf P (news.filter fun q => decide (q.1 ≠ pl)) vs T :=
  x.mono fun p hp => List.mem_filter.mpr ⟨k p hp, by simpa using hn p hp⟩
local macro_rules | `(tactic| walk_at "subscriptTail") => `(tactic| (k_here; k_dflt (refine kda_item (knd := PySem.strKind _ _) (by k_asm) (by k_mem) (by k_asm) (strKind_is _ _ _ _) (by assumption) ?_)))
local macro_rules | `(tactic| walk_at "getItem ref str") => `(tactic| (k_here; k_dflt (refine kdt_getItem (knd := PySem.strKind _ _) (by k_asm) (by k_mem) (by k_asm) (strKind_is _ _ _ _) (by assumption) ?_)))
local macro_rules | `(tactic| walk_at "eval ListComp") => `(tactic| (k_here; refine Stop.out ?_))
theorem laid_call {w : World} {p : Program} {loose : List Str} {mg mb : Str → Option Value} {A₀ : Around} {base h₀ : Heap} {outer : List Env} {L : Addr} {m : Str → Option Value} {env : Env} {mean : ExcName → Option Value} {s : Shared} {dep un : Nat} {gs : Option (List Code)}
    {R : Result → Shared → Prop} {rl d : Addr} {od : Obj} {items : List Value} {kvs : List (Str × Value)} {S S' : List (Str × D)} {P : Addr → Obj → Prop} (hf : env.frame = some L) (hke : env.scope.kind = .function)
    (X : (hd.heap_39 w.params).In h₀) (T : Top p loose mean mg mb h₀) (B : Below A₀ base outer h₀) (F : Fr h₀ L s.heap m) (N : News h₀ L s.heap [(d, od)]) (hdep : dep < 490) (hun : un < 900)
    (lo : (d == sysModules) = false) (hod : od.IsDictOf (strKind PySem.Challenge.rw_kn0093_02.row.prog w) kvs) (hrk : Rel P kvs S')
    (hpl₀ : s.heap.PlainList rl items.toArray) (hrd : rl ≠ d) (hr : RowOf P s.heap items S) (hlen : S.length ≤ 100) (hH : ∀ x, look S "HTTPS" = some x → ∃ y, x = .str y) (hU : ∀ x, look S "wsgi.url_scheme" = some x → ∃ y, x = .str y) {dI dE : D} (hI : look S' "wsgi.input" = some dI) (hE : look S' "wsgi.errors" = some dE) (hP : ∀ a o, P a o → s.heap.get? a = some o)
    (post : ∀ (res : Addr) (h' : Heap) (t' : Tok) (items' : List Value) (n : Nat), (∀ b o, s.heap.get? b = some o → h'.get? b = some o) → s.heap.get? res = none → h'.get? res = some (listO items'.toArray n) → RowOf (fun a o => h'.get? a = some o) h' items' (laidS S dI dE) →
      R (.ok (.ret (.ref res))) { s with heap := h', toks := t' }) :
    codeG (model PySem.Challenge.rw_kn0093_02.row.prog w) (AR dep (env :: outer) gs un) (.call (.ref 597) ⟨[.ref rl, .ref d], []⟩) R s := by
  have X' := X.keeps F.keep
  have hl := hpl₀.isList
  refine' g_defCell (news := [(d, od)]) (env := env) (binds := [("row", .ref rl), ("environ", .ref d)])
    B F N T.nolimit ?hA hf hke X' ?ho ?hcd ?hroom ?hb ?hloc ?hnd (fun g L' h₁ tk₁ cells hk F₁ N₁ Y₁ B₁ st hlt => ?_) ?c1 ?c2 ?c3
  case hA => rfl
  case ho => k_is
  case hcd => k_is
  case hroom => k_room
  case hb => exact BindsTo.of_eq rfl
  case hloc => exact rfl
  case hnd => decide
  case c1 => rfl
  case c2 => rfl
  case c3 => rfl
  have X₁ := X.keeps st
  have T₁ := T.keeps st
  have TR₁ := topRead_of T₁
  obtain ⟨oT, rfl, dT0⟩ := CellsAre.one Y₁
  have N₂ : News g L' h₁ [(L' + 1, oT), (d, od)] := N₁
  have F₁ : Fr g L' h₁ (mB rl d) := frCongr F₁ fun y => by
    unfold bindL
    rw [if_pos (by rfl)]
    unfold bindL
    rw [if_pos (by rfl)]
    rfl
  clear Y₁ N₁
  have hdL := ltN (hlt _ (.head _))
  dsimp only at hdL
  have k₁ := keepOne hk (N _ (.head _)).1 F₁ N₂ (.tail _ (.head _))
  have hlg : g.IsList rl items.toArray := hl.at fun o e => hk _ _ e (by simpa using hrd)
  have hrg : RowOf P g items S := hr.mono (fun b o t e => hk _ _ e (by
    simp only [List.map_cons, List.map_nil, List.mem_singleton]
    rintro rfl
    have z := (N _ (.head _)).1
    dsimp only at z
    rw [z] at e; cases e
    obtain ⟨es, ep, _, q, _⟩ := hod
    obtain ⟨_, _, _, q'⟩ := t
    rw [q] at q'; cases q')) fun _ _ _ e => e
  have hdg := (N _ (.head _)).1
  have Z2 := And.intro F₁ N₂
  -- told
  refine g_execs (lift (a_AssignName (ListComp_pairsS keyF keyF_mono rfl (by with_unfolding_all rfl) (by decide) rfl (by decide) (by rfl) (by rfl) (by decide) ?_) (by with_unfolding_all rfl)))
  k_steps
  refine Stop.mk ⟨rl, items.toArray, rfl, hlg.at fun o e => F₁.keep _ _ e, ?_, ?_, elt_key (by rfl) rfl, ?_⟩
  · have := hr.length
    rw [List.size_toArray, this, sizeLine_eq]; omega
  · exact (hr.mono (P' := P) (.of k₁) fun _ _ _ e => e).pairs
  intro tl h₃ tk₃ ys hD hpl hlen' hF hk₃
  have hTold : ToldIs ys S := ToldIs.of (hr.mono (P' := P) (TupKeep.of fun b o e => hk₃ b o (k₁ b o e)) fun _ _ _ e => e) hlen' hF
  clear hF hlen' hr
  have F₃ := frGrow F₁ hk₃
  obtain ⟨nT, hplT⟩ := hpl
  have N₃ : News g L' h₃ [(tl, { cls := .type "list", data := .seq ys.toArray nT }), (L' + 1, oT), (d, od)] := newsAdd F₁ (newsGrow N₂ hk₃) hplT hD
  have htl := leN hD
  have hLs : L' + 1 < h₁.objs.size := ltN (Heap.lt_size (N₂ _ (.head _)).1)
  have hdl : d < h₁.objs.size := ltN (Heap.lt_size (N₂ _ (.tail _ (.head _))).1)
  dsimp only at htl
  refine storeX_C (cl := cellsFrom (L' + 1) _ []) F₃ N₃ (by rfl) (.tail (Nat.ne_of_gt (Nat.lt_of_lt_of_le hLs hD)) (.head (List.forall_mem_cons.mpr ⟨Nat.ne_of_lt (Nat.lt_succ_of_lt hdL), List.forall_mem_nil _⟩))) dT0 fun h₄ oT F₄ N₄ dT => ?_
  dsimp only
  clear N₃ F₃ N₂ F₁ dT0
  -- server
  refine g_execs (lift ?_)
  k_steps
  dsimp only
  rename Fr g L' _ _ => F5
  rename News g L' _ _ => N5
  refine g_execs (lift (wpAny_mono (Q := fun f s' => Stop (f = .next ∧ ∃ h' t' vS, s' = { s with heap := h', toks := t' } ∧ Fr g L' h' (fun y => if y = "server" then some vS else mB rl d y) ∧ News g L' h' [(tl, { cls := .type "list", data := .seq ys.toArray nT }), (L' + 1, oT), (d, od)] ∧
      DV P vS ((look S "SERVER_NAME").getD (.str "127.0.0.1")))) ?_ (fun f s' hq => ?_) fun _ _ e => e))
  · cases c : look S "SERVER_NAME" with
    | none =>
      have c' : (look S "SERVER_NAME").isSome = false := by rw [c]; rfl
      k_steps
      exact Stop.mk ⟨rfl, _, _, _, rfl, F5, N5, rfl⟩
    | some dv =>
      have c' : (look S "SERVER_NAME").isSome = true := by rw [c]; rfl
      k_steps
      rename ValOf _ _ _ => hv
      rename Fr g L' _ _ => F5'
      rename News g L' _ _ => N5'
      rw [c] at hv
      exact Stop.mk ⟨rfl, _, _, _, rfl, frOver F5', N5', hv⟩
  obtain ⟨rfl, h6, t6, vS, rfl, F6, N6, dS⟩ := hq
  dsimp only
  -- scheme
  refine g_execs (lift ?_)
  k_steps
  dsimp only
  rename Fr g L' _ _ => F7
  rename News g L' _ _ => N7
  refine g_execs (lift (wpAny_mono (Q := fun f s' => Stop (f = .next ∧ ∃ h' t' u, s' = { s with heap := h', toks := t' } ∧ Fr g L' h' (fun y => if y = "scheme" then some (.str (guessS S) u) else if y = "server" then some vS else mB rl d y) ∧ News g L' h' [(tl, { cls := .type "list", data := .seq ys.toArray nT }), (L' + 1, oT), (d, od)])) ?_ (fun f s' hq => ?_) fun _ _ e => e))
  · cases c : look S "HTTPS" with
    | none =>
      have hg : guessS S = "http" := by unfold guessS; rw [c]
      rw [hg]
      k_steps
      rename Fr g L' _ _ => F8
      rename News g L' _ _ => N8
      exact Stop.mk ⟨rfl, _, _, _, rfl, F8, fun p hp => N8 p (.tail _ hp)⟩
    | some dv =>
      obtain ⟨y, rfl⟩ := hH _ c
      have hg : guessS S = if [("yes" : Str), "on", "1"].any (fun x => x == y) = true then ("https" : Str) else ("http" : Str) := by unfold guessS; rw [c]
      k_steps
      all_goals
        rename Fr g L' _ _ => F8
        rename News g L' _ _ => N8
        rename (List.any _ _) = _ => hc
        rw [hc] at hg
      · rw [if_pos rfl] at hg
        rw [hg]
        exact Stop.mk ⟨rfl, _, _, _, rfl, frOver F8, fun p hp => N8 p (.tail _ hp)⟩
      · rw [if_neg Bool.false_ne_true] at hg
        rw [hg]
        exact Stop.mk ⟨rfl, _, _, _, rfl, F8, fun p hp => N8 p (.tail _ hp)⟩
  obtain ⟨rfl, h8, t8, u8, rfl, F8, N8⟩ := hq
  dsimp only
  -- plan
  refine g_execs (lift ?_)
  k_steps
  dsimp only
  rename News g L' _ _ => N9
  rename Fr g L' _ _ => F9
  -- SCRIPT_NAME, PATH_INFO
  refine g_execs (lift (wpAny_mono (Q := fun f s' => Stop (f = .next ∧ PlanS P g L' s (fun y => if y = "scheme" then some (.str (guessS S) u8) else if y = "server" then some vS else mB rl d y) tl { cls := .type "list", data := .seq ys.toArray nT } oT d od (planA S ++ planB S) s')) ?_ (fun f s' hq => ?_) fun _ _ e => e))
  · cases c1 : (look S "SCRIPT_NAME").isSome <;> cases c2 : (look S "PATH_INFO").isSome
    all_goals
      k_steps
      rename News g L' _ _ => Na
      rename Fr g L' _ _ => Fa
      have dS' := fun (Q : Addr → Obj → Prop) => dS.mono (Q := fun a o => P a o ∨ Q a o) fun _ _ _ e => .inl e
    · have hB : planB S = planBB := by unfold planB; rw [c1, c2]; rfl
      rw [hB]
      refine Stop.mk ⟨rfl, PlanS.fold (frOver Fa) Na (by k_mem) (by k_mem) (by k_mem) (by k_mem) (by omega) rfl ?_⟩
      exact tups_consF (by k_mem) (by k_ne) (dS' _) (tups_consF (by k_mem) (by k_ne) dv_str (tups_consF (by k_mem) (by k_ne) (dS' _) (tups_consF (by k_mem) (by k_ne) dv_str (tups_consF (by k_mem) (by k_ne) dv_str (tups_consF (by k_mem) (by k_ne) dv_str tups_nil)))))
    all_goals
      have hB : planB S = [] := by unfold planB; rw [c1, c2]; rfl
      rw [hB]
      refine Stop.mk ⟨rfl, PlanS.fold Fa Na (by k_mem) (by k_mem) (by k_mem) (by k_mem) (by omega) rfl ?_⟩
      exact tups_consF (by k_mem) (by k_ne) (dS' _) (tups_consF (by k_mem) (by k_ne) dv_str (tups_consF (by k_mem) (by k_ne) (dS' _) (tups_consF (by k_mem) (by k_ne) dv_str tups_nil)))
  obtain ⟨rfl, h10, t10, pl, n10, vsA, vs, nw, rfl, F10, N10, hnw, hlt10, hvs, hT10⟩ := hq
  dsimp only
  have hz10 : vsA.size ≤ 10 := by
    have := hT10.length
    rw [← Array.length_toList, hvs, this]
    unfold planA planB planBB
    split <;> simp
  clear F9 N9
  refine g_execs (lift ?_)
  k_steps
  dsimp only
  obtain ⟨vI, eI, dvI⟩ := hrk.at hI
  obtain ⟨vE, eE, dvE⟩ := hrk.at hE
  have eI' := (valueAt_look _ _).trans eI
  have eE' := (valueAt_look _ _).trans eE
  clear eI eE
  refine g_execs (lift (wpAny_mono (Q := fun f s' => Stop (f = .next ∧ PlanS P g L' s (fun y => if y = "scheme" then some (.str (guessS S) u8) else if y = "server" then some vS else mB rl d y) tl { cls := .type "list", data := .seq ys.toArray nT } oT d od (planA S ++ planB S ++ planC ++ planD S dI dE) s')) ?_ (fun f s' hq => ?_) fun _ _ e => e))
  · k_steps
    rename News g L' _ _ => Na
    rename Fr g L' _ _ => Fa
    have up : ∀ (Q : Addr → Obj → Prop) {v : Value} {x : D}, DV P v x → DV (fun a o => P a o ∨ Q a o) v x := fun Q _ _ e => e.mono fun a o _ e => .inl e
    refine Stop.mk ⟨trivial, PlanS.fold (frOver (frOver Fa)) Na (by k_mem) (by k_mem) (by k_mem) (by k_mem) (by omega) (by simp only [Array.toList_append, hvs]; rfl) (TupsOf.append (TupsOf.append (tups_moreF hnw (fun p hp => by repeat (first | exact hp | apply List.mem_cons_of_mem)) hT10) ?_) ?_)⟩
    · refine' tups_consF ?hm ?ne ?hd (tups_consF (by k_mem) (by k_ne) dv_int (tups_consF (by k_mem) (by k_ne) dv_int (tups_consF (by k_mem) (by k_ne) dv_int tups_nil)))
      case hm => k_mem
      case ne => k_ne
      case hd => exact ⟨_, _, .inr (List.mem_filter.mpr ⟨by k_mem, decide_eq_true (by k_ne)⟩)⟩
    · exact tups_consF (by k_mem) (by k_ne) (up _ dvI) (tups_consF (by k_mem) (by k_ne) (up _ dvE) (tups_consF (by k_mem) (by k_ne) dv_str tups_nil))
  obtain ⟨rfl, h12, t12, pl₂, n12, vsB, vs₂, nw₂, rfl, F12, N12, hnw₂, hlt12, hvs₂, hT12⟩ := hq
  dsimp only
  have hz12 : vsB.size ≤ 20 := by
    have := hT12.length
    rw [← Array.length_toList, hvs₂, this]
    unfold planA planB planBB planC planD
    split <;> simp
  clear hT10 hnw hlt10 hvs
  -- scheme, as the row has it
  refine g_execs (lift (wpAny_mono (Q := fun f s' => Stop (f = .next ∧ ∃ h' t' u, s' = { s with heap := h', toks := t' } ∧ Fr g L' h' (fun y => if y = "plan" then some (.ref pl₂) else if y = "scheme" then some (.str (schS S) u) else if y = "server" then some vS else mB rl d y) ∧ News g L' h' ((pl₂, listO vsB n12) :: (tl, { cls := .type "list", data := .seq ys.toArray nT }) :: (L' + 1, oT) :: (d, od) :: nw₂))) ?_ (fun f s' hq => ?_) fun _ _ e => e))
  · cases c : look S "wsgi.url_scheme" with
    | none =>
      have c' : (look S "wsgi.url_scheme").isSome = false := by rw [c]; rfl
      have hsch : schS S = guessS S := by unfold schS; rw [c]
      rw [hsch]
      k_steps
      exact Stop.mk ⟨rfl, _, _, _, rfl, F12, N12⟩
    | some dv =>
      obtain ⟨yv, rfl⟩ := hU _ c
      have c' : (look S "wsgi.url_scheme").isSome = true := by rw [c]; rfl
      have hsch : schS S = yv := by unfold schS; rw [c]
      rw [hsch]
      k_steps
      rename News g L' _ _ => Na
      rename Fr g L' _ _ => Fa
      exact Stop.mk ⟨rfl, _, _, _, rfl, frSwap Fa (by decide), Na⟩
  obtain ⟨rfl, h13, t13, u13, rfl, F13, N13⟩ := hq
  dsimp only
  have hz13 : vsB.size ≤ 20 := hz12
  have hlt13 := hlt12
  -- http
  refine g_execs (lift (wpAny_mono (Q := fun f s' => Stop (f = .next ∧ PlanS P g L' s (fun y => if y = "scheme" then some (.str (schS S) u13) else if y = "server" then some vS else mB rl d y) tl { cls := .type "list", data := .seq ys.toArray nT } oT d od (planA S ++ planB S ++ planC ++ planD S dI dE ++ planE S) s')) ?_ (fun f s' hq => ?_) fun _ _ e => e))
  · k_steps
    · rename (schS S == "http") = true => hc
      rename News g L' _ _ => Na
      rename Fr g L' _ _ => Fa
      have hP : planE S = planE1 := by unfold planE; rw [if_pos hc]
      rw [hP]
      exact Stop.mk ⟨rfl, PlanS.fold Fa Na (by k_mem) (by k_mem) (by k_mem) (by k_mem) (by omega) (by rw [Array.toList_push, hvs₂]) (TupsOf.append (tups_moreF hnw₂ (fun p hp => by repeat (first | exact hp | apply List.mem_cons_of_mem)) hT12) (tups_consF (by k_mem) (by k_ne) dv_str tups_nil))⟩
    · rename (schS S == "http") = false => hc
      have hP : planE S = [] := by unfold planE; rw [hc]; rfl
      rw [hP, List.append_nil]
      exact Stop.mk ⟨rfl, PlanS.fold F13 N13 (by k_mem) (by k_mem) (by k_mem) (by k_mem) (by omega) hvs₂ (tups_moreF hnw₂ (fun p hp => by repeat (first | exact hp | apply List.mem_cons_of_mem)) hT12)⟩
  obtain ⟨rfl, h14, t14, pl₃, n14, vsC, vs₃, nw₃, rfl, F14, N14, hnw₃, hlt14, hvs₃, hT14⟩ := hq
  dsimp only
  have hz14 : vsC.size ≤ 25 := by
    have := hT14.length
    rw [← Array.length_toList, hvs₃, this]
    unfold planA planB planBB planC planD planE planE1
    split <;> split <;> simp
  clear hT12 hnw₂ hlt12 hvs₂ hlt13 hz13
  -- https
  refine g_execs (lift (wpAny_mono (Q := fun f s' => Stop (f = .next ∧ PlanS P g L' s (fun y => if y = "scheme" then some (.str (schS S) u13) else if y = "server" then some vS else mB rl d y) tl { cls := .type "list", data := .seq ys.toArray nT } oT d od (planA S ++ planB S ++ planC ++ planD S dI dE ++ planE S ++ planE2 S) s')) ?_ (fun f s' hq => ?_) fun _ _ e => e))
  · k_steps
    · rename (schS S == "https") = true => hc
      rename News g L' _ _ => Na
      rename Fr g L' _ _ => Fa
      have hP : planE2 S = planF1 := by unfold planE2; rw [if_pos hc]
      rw [hP]
      exact Stop.mk ⟨rfl, PlanS.fold Fa Na (by k_mem) (by k_mem) (by k_mem) (by k_mem) (by omega) (by rw [Array.toList_push, hvs₃]) (TupsOf.append (tups_moreF hnw₃ (fun p hp => by repeat (first | exact hp | apply List.mem_cons_of_mem)) hT14) (tups_consF (by k_mem) (by k_ne) dv_str tups_nil))⟩
    · rename (schS S == "https") = false => hc
      have hP : planE2 S = [] := by unfold planE2; rw [hc]; rfl
      rw [hP, List.append_nil]
      exact Stop.mk ⟨rfl, PlanS.fold F14 N14 (by k_mem) (by k_mem) (by k_mem) (by k_mem) (by omega) hvs₃ (tups_moreF hnw₃ (fun p hp => by repeat (first | exact hp | apply List.mem_cons_of_mem)) hT14)⟩
  obtain ⟨rfl, h15, t15, pl₄, n15, vsD, vs₄, nw₄, rfl, F15, N15, hnw₄, hlt15, hvs₄, hT15⟩ := hq
  dsimp only
  have hz15 : vsD.size ≤ 30 := by
    have := hT15.length
    rw [← Array.length_toList, hvs₄, this]
    unfold planA planB planBB planC planD planE planE1 planE2 planF1
    split <;> split <;> split <;> simp
  clear hT14 hnw₃ hlt14 hvs₃
  refine g_execs (lift ?_)
  k_steps
  refine Stop.mk (ListComp_first (fun k => (look S k).isNone) rfl (by with_unfolding_all rfl) (by decide) rfl (by decide) (by rfl) (by decide) (by with_unfolding_all rfl) ?_)
  have hRow := hT15.row N15 (fun p hp => by repeat (first | exact hp | apply List.mem_cons_of_mem))
  have Z15 := And.intro F15 N15
  k_steps
  obtain ⟨F15, N15⟩ := Z15
  refine Stop.mk ⟨pl₄, vs₄, rfl, rfl, ⟨_, (N15 _ (.head _)).1, rfl, _, by rw [← hvs₄]⟩, by rw [← hvs₄, Array.length_toList, sizeLine_eq]; omega, hRow.firsts, ?_, ?_⟩
  · intro C k t s₃ E' hC hk₃
    refine wpAny_Name (wpAny_loadName_cell (c := L' + 1) (v := .ref tl) (by rfl) (by rfl) (by rfl) ⟨oT, hk₃ _ _ (N15 _ (.tail _ (.tail _ (.head _)))).1, dT⟩ ?_) (by decide)
    refine notIn_told ⟨_, hk₃ _ _ (N15 _ (.tail _ (.head _))).1, rfl, _, rfl⟩ hTold rfl ?_
    refine wpAny_pure ⟨?_, _, _, rfl, fun _ _ e => e⟩
    cases look S k <;> rfl
  · intro Dr h16 t16 n16 hD16 hDo hk16
    dsimp only at hk16 hD16 hDo ⊢
    have ks15 := keepOne hk hdg F15 N15 (.tail _ (.tail _ (.tail _ (.head _))))
    obtain ⟨nR, hRl⟩ := hpl₀
    have hlenR := hrg.length
    have hfl : (vs₄.filter (firstIs h15 fun k => (look S k).isNone)).length ≤ 30 := Nat.le_trans (List.length_filter_le _ _) (by rw [← hvs₄, Array.length_toList]; exact hz15)
    have kp : ∀ b o, h16.get? b = some o → (h16.push { cls := .type "list", data := .seq (items.toArray ++ (vs₄.filter (firstIs h15 fun k => (look S k).isNone)).toArray) }).get? b = some o := fun b o e => Heap.get?_push_of_some _ e
    refine PySem.P.add_list (hk16 _ _ (ks15 _ _ hRl)) hDo ?_ (by simp only [List.size_toArray, sizeLine_eq]; omega)
    refine post _ _ _ (items ++ vs₄.filter (firstIs h15 fun k => (look S k).isNone)) 0 (fun b o e => kp _ _ (hk16 _ _ (ks15 _ _ e))) ?_ ?_ ?_
    · cases q : s.heap.get? h16.objs.size with
      | none => rfl
      | some o => exact absurd (Heap.lt_size (hk16 _ _ (ks15 _ _ q))) (Nat.lt_irrefl _)
    · have e := Heap.get?_push_size h16 (o := { cls := .type "list", data := .seq (items.toArray ++ (vs₄.filter (firstIs h15 fun k => (look S k).isNone)).toArray) }) rfl
      dsimp only
      rw [e]
      simp [listO]
    · refine RowOf.append (hrg.mono (TupKeep.of fun b o e => kp _ _ (hk16 _ _ (F15.keep _ _ e))) fun a o _ e => kp _ _ (hk16 _ _ (ks15 _ _ (hP _ _ e)))) ?_
      exact (RowOf.filter (f := fun k => (look S k).isNone) (TupKeep.of fun b o e => kp _ _ (hk16 _ _ e)) hRow).mono (TupKeep.of fun _ _ e => e) fun a o _ e => by
        rcases e with e | e
        · exact kp _ _ (hk16 _ _ (ks15 _ _ (hP _ _ e)))
        · exact kp _ _ (hk16 _ _ (N15 (a, o) (.tail _ (.tail _ (.tail _ (.tail _ e))))).1)
end Mine
end
section -- L2h
open PySem PySem.W PyProof.Rows PySem.Calls
set_option maxRecDepth 100000
namespace Mine
def adds (S : List (Str × D)) : List (Str × D) → List (Str × D)
  | [] => S
  | p :: T => adds (sd S p.1 p.2) T
theorem adds_append (S : List (Str × D)) : ∀ (T U : List (Str × D)), adds S (T ++ U) = adds (adds S T) U := by
  intro T
  induction T generalizing S with
  | nil => intro U; rfl
  | cons p T ih => intro U; exact ih (sd S p.1 p.2) U
theorem adds_eq : ∀ (T S : List (Str × D)), (T.map (·.1)).Nodup → adds S T = S ++ T.filter fun q => (look S q.1).isNone
  | [], S, _ => by simp [adds]
  | p :: T, S, h => by
    obtain ⟨h1, h2⟩ := List.nodup_cons.mp (by simpa using h : ((p.1 :: T.map (·.1))).Nodup)
    show adds (sd S p.1 p.2) T = _
    rw [adds_eq T _ h2]
    have e : T.filter (fun q => (look (sd S p.1 p.2) q.1).isNone) = T.filter fun q => (look S q.1).isNone := List.filter_congr fun q hq => by
      rw [look_sd, if_neg]
      intro e
      exact h1 (e ▸ List.mem_map_of_mem hq)
    rw [e, List.filter_cons]
    cases c : look S p.1 with
    | none => rw [sd_new c]; simp
    | some d => rw [sd_old (by rw [c]; rfl)]; simp
theorem look_adds (S T : List (Str × D)) (k : Str) (h : k ∉ T.map (·.1)) : look (adds S T) k = look S k := by
  induction T generalizing S with
  | nil => rfl
  | cons p T ih =>
    simp only [List.map_cons, List.mem_cons, not_or] at h
    show look (adds (sd S p.1 p.2) T) k = _
    rw [ih _ h.2, look_sd, if_neg h.1]
/-- what setup lays, as one list -/
def laysA (S : List (Str × D)) : List (Str × D) := [("SERVER_NAME", .str "127.0.0.1"), ("SERVER_PROTOCOL", .str "HTTP/1.0"), ("HTTP_HOST", dSN S), ("REQUEST_METHOD", .str "GET")]
def laysD (x sx : Addr) : List (Str × D) := [("wsgi.input", .obj x), ("wsgi.errors", .obj sx)]
def laysU (S : List (Str × D)) : List (Str × D) := [("wsgi.url_scheme", .str (guessS S))]
def laysS (S : List (Str × D)) (x sx : Addr) : List (Str × D) := laysA S ++ planB S ++ planC ++ laysD x sx ++ laysU S ++ planE S ++ planE2 S
def keys4 : List Str := ["SERVER_NAME", "SERVER_PROTOCOL", "HTTP_HOST", "REQUEST_METHOD"]
def keysCD : List Str := ["wsgi.version", "wsgi.run_once", "wsgi.multithread", "wsgi.multiprocess", "wsgi.input", "wsgi.errors"]
def keyU : List Str := ["wsgi.url_scheme"]
def keyP : List Str := ["SERVER_PORT"]
def keys2 : List Str := ["SCRIPT_NAME", "PATH_INFO"]
theorem setup_adds (S : List (Str × D)) (x sx : Addr) (hU : ∀ v, look S "wsgi.url_scheme" = some v → ∃ y, v = .str y) : setupS S x sx = adds S (laysS S x sx) := by
  unfold setupS
  dsimp only
  generalize hS4 : sd (sd (sd (sd S "SERVER_NAME" (D.str "127.0.0.1")) "SERVER_PROTOCOL" (D.str "HTTP/1.0")) "HTTP_HOST" ((look S "SERVER_NAME").getD (D.str "127.0.0.1"))) "REQUEST_METHOD" (D.str "GET") = S4
  have e4 : S4 = adds S (laysA S) := hS4.symm
  have l4 : ∀ k : Str, k ∉ keys4 → look S4 k = look S k := fun k hk => by rw [e4]; exact look_adds _ _ _ hk
  rw [l4 "SCRIPT_NAME" (by decide), l4 "PATH_INFO" (by decide)]
  generalize hS5 : (if ((look S "SCRIPT_NAME").isSome || (look S "PATH_INFO").isSome) = true then S4 else sd (sd S4 "SCRIPT_NAME" (D.str "")) "PATH_INFO" (D.str "/")) = S5
  have e5 : S5 = adds S4 (planB S) := by
    rw [← hS5]; unfold planB planBB
    split <;> rfl
  have l5 : ∀ k : Str, k ∉ keys4 ++ keys2 → look S5 k = look S k := fun k hk => by
    rw [e5, look_adds, l4 k (fun q => hk (List.mem_append_left _ q))]
    unfold planB planBB
    split
    · simp
    · exact fun q => hk (List.mem_append_right _ q)
  generalize hS11 : sd (sd (sd (sd (sd (sd S5 "wsgi.version" D.ver) "wsgi.run_once" (D.int 0)) "wsgi.multithread" (D.int 0)) "wsgi.multiprocess" (D.int 0)) "wsgi.input" (D.obj x)) "wsgi.errors" (D.obj sx) = S11
  have e11 : S11 = adds S5 (planC ++ laysD x sx) := hS11.symm
  have l11 : ∀ k : Str, k = "HTTPS" ∨ k = "wsgi.url_scheme" → look S11 k = look S k := by
    rintro k (rfl | rfl) <;> rw [e11, look_adds _ _ _ (by show _ ∉ keysCD; decide), l5 _ (by decide)]
  have hg : guessS S11 = guessS S := by unfold guessS; rw [l11 _ (.inl rfl)]
  have hs : look (sd S11 "wsgi.url_scheme" (D.str (guessS S11))) "wsgi.url_scheme" = some (.str (schS S)) := by
    rw [look_sd, if_pos rfl, l11 _ (.inr rfl), hg]
    unfold schS
    cases c : look S "wsgi.url_scheme" with
    | none => rfl
    | some v => obtain ⟨y, rfl⟩ := hU v c; rfl
  rw [hs]
  dsimp only
  have fin : adds S (laysS S x sx) = adds (adds (sd S11 "wsgi.url_scheme" (.str (guessS S11))) (planE S)) (planE2 S) := by
    unfold laysS
    rw [adds_append, adds_append, adds_append, adds_append, adds_append, adds_append, ← e4, ← e5, ← adds_append S5, ← e11, hg]
    rfl
  rw [fin]
  unfold planE planE2 planE1 planF1
  by_cases h1 : (schS S == ("http" : Str)) = true
  · have h2 : (schS S == ("https" : Str)) = false := by rw [beq_iff_eq.mp h1]; decide
    rw [if_pos h1, if_pos h1, h2]; rfl
  · rw [if_neg h1, if_neg h1]
    split <;> rfl

def dIn (S : List (Str × D)) (x : Addr) : D := (look S "wsgi.input").getD (.obj x)
def dEr (S : List (Str × D)) (sx : Addr) : D := (look S "wsgi.errors").getD (.obj sx)
def keysAll : List Str := ["SERVER_NAME", "SERVER_PROTOCOL", "HTTP_HOST", "REQUEST_METHOD", "SCRIPT_NAME", "PATH_INFO", "wsgi.version", "wsgi.run_once", "wsgi.multithread", "wsgi.multiprocess", "wsgi.input", "wsgi.errors", "wsgi.url_scheme", "SERVER_PORT"]
theorem lays_nodup (S : List (Str × D)) (x sx : Addr) : ((laysS S x sx).map (·.1)).Nodup := by
  have h : List.Sublist ((laysS S x sx).map (·.1)) keysAll := by
    unfold laysS planB planE planE2 planE1 planF1 planBB
    by_cases h1 : (schS S == ("http" : Str)) = true
    · have h2 : (schS S == ("https" : Str)) = false := by rw [beq_iff_eq.mp h1]; decide
      rw [if_pos h1, h2]
      split
      · exact (by decide : List.Sublist (keys4 ++ keysCD ++ keyU ++ keyP) keysAll)
      · exact (by decide : List.Sublist (keys4 ++ keys2 ++ keysCD ++ keyU ++ keyP) keysAll)
    · rw [if_neg h1]
      split <;> split
      · exact (by decide : List.Sublist (keys4 ++ keysCD ++ keyU ++ keyP) keysAll)
      · exact (by decide : List.Sublist (keys4 ++ keysCD ++ keyU) keysAll)
      · exact (by decide : List.Sublist (keys4 ++ keys2 ++ keysCD ++ keyU ++ keyP) keysAll)
      · exact (by decide : List.Sublist (keys4 ++ keys2 ++ keysCD ++ keyU) keysAll)
  exact h.nodup (by decide)
theorem filter_two {S : List (Str × D)} {k : Str} {a b : D} (h : look S k = none → a = b) : [(k, a)].filter (fun q => (look S q.1).isNone) = [(k, b)].filter fun q => (look S q.1).isNone := by
  cases c : look S k with
  | none => rw [h c]
  | some d => simp [c]
theorem filter_cons2 {S : List (Str × D)} {k : Str} {a b : D} {T U : List (Str × D)} (h : look S k = none → a = b) (t : T.filter (fun q => (look S q.1).isNone) = U.filter fun q => (look S q.1).isNone) :
    ((k, a) :: T).filter (fun q => (look S q.1).isNone) = ((k, b) :: U).filter fun q => (look S q.1).isNone := by
  rw [List.filter_cons, List.filter_cons, t]
  cases c : look S k with
  | none => rw [h c]
  | some d => simp
theorem setup_laid (S : List (Str × D)) (x sx : Addr) (hU : ∀ v, look S "wsgi.url_scheme" = some v → ∃ y, v = .str y) : setupS S x sx = laidS S (dIn S x) (dEr S sx) := by
  rw [setup_adds S x sx hU, adds_eq _ _ (lays_nodup S x sx)]
  unfold laidS
  congr 1
  unfold laysS planS
  simp only [List.filter_append]
  have eA : (laysA S).filter (fun q => (look S q.1).isNone) = (planA S).filter fun q => (look S q.1).isNone := by
    unfold laysA planA
    exact filter_cons2 (fun c => by unfold dSN; rw [c]; rfl) rfl
  have eD : (laysD x sx).filter (fun q => (look S q.1).isNone) ++ (laysU S).filter (fun q => (look S q.1).isNone) = (planD S (dIn S x) (dEr S sx)).filter fun q => (look S q.1).isNone := by
    rw [← List.filter_append]
    unfold laysD laysU planD
    exact filter_cons2 (fun c => by unfold dIn; rw [c]; rfl) (filter_cons2 (fun c => by unfold dEr; rw [c]; rfl) rfl)
  rw [eA, ← eD]
  simp only [List.append_assoc]
theorem look_adds_at (S T U : List (Str × D)) (k : Str) (d : D) (h1 : k ∉ T.map (·.1)) (h2 : k ∉ U.map (·.1)) : look (adds S (T ++ (k, d) :: U)) k = some ((look S k).getD d) := by
  rw [adds_append]
  show look (adds (sd (adds S T) k d) U) k = _
  rw [look_adds _ _ _ h2, look_sd, if_pos rfl, look_adds _ _ _ h1]
theorem keysB (S : List (Str × D)) (k : Str) (h : k ∉ keys4 ++ keys2) : k ∉ ((laysA S ++ planB S).map (·.1)) := by
  unfold planB planBB
  split
  · intro q
    rw [List.append_nil] at q
    exact h (List.mem_append_left _ q)
  · exact h
theorem keysE (S : List (Str × D)) (k : Str) (h : k ∉ keyU ++ keyP) : k ∉ ((laysU S ++ planE S ++ planE2 S).map (·.1)) := by
  intro q
  simp only [List.map_append, List.mem_append] at q
  rcases q with (q | q) | q
  · exact h (List.mem_append_left _ q)
  · unfold planE planE1 at q
    split at q
    · exact h (List.mem_append_right _ q)
    · cases q
  · unfold planE2 planF1 at q
    split at q
    · exact h (List.mem_append_right _ q)
    · cases q
theorem setup_in (S : List (Str × D)) (x sx : Addr) (hU : ∀ v, look S "wsgi.url_scheme" = some v → ∃ y, v = .str y) : look (setupS S x sx) "wsgi.input" = some (dIn S x) ∧ look (setupS S x sx) "wsgi.errors" = some (dEr S sx) := by
  rw [setup_adds S x sx hU]
  constructor
  · have e : laysS S x sx = (laysA S ++ planB S ++ planC) ++ ((("wsgi.input" : Str), D.obj x) :: ((("wsgi.errors" : Str), D.obj sx) :: (laysU S ++ planE S ++ planE2 S))) := by
      unfold laysS laysD
      simp only [List.append_assoc, List.cons_append, List.nil_append]
    rw [e]
    refine look_adds_at _ _ _ _ _ ?_ ?_
    · rw [List.map_append]
      intro q
      rcases List.mem_append.mp q with q | q
      · exact keysB S _ (by decide) q
      · exact absurd q (by decide)
    · intro q
      rcases List.mem_cons.mp q with q | q
      · exact absurd (show ("wsgi.input" : Str) = "wsgi.errors" from q) (by decide)
      · exact keysE S _ (by decide) q
  · have e : laysS S x sx = (laysA S ++ planB S ++ planC ++ [(("wsgi.input" : Str), D.obj x)]) ++ ((("wsgi.errors" : Str), D.obj sx) :: (laysU S ++ planE S ++ planE2 S)) := by
      unfold laysS laysD
      simp only [List.append_assoc, List.cons_append, List.nil_append]
    rw [e]
    refine look_adds_at _ _ _ _ _ ?_ ?_
    · rw [List.map_append, List.map_append]
      intro q
      rcases List.mem_append.mp q with q | q
      · rcases List.mem_append.mp q with q | q
        · exact keysB S _ (by decide) q
        · exact absurd q (by decide)
      · exact absurd (show ("wsgi.errors" : Str) = "wsgi.input" from List.mem_singleton.mp q) (by decide)
    · exact keysE S _ (by decide)
end Mine
end
section -- G12
open PySem PySem.W PyProof.Rows PySem.Calls
set_option maxRecDepth 100000
namespace Mine
section
variable {prog : Program} {w : World} {s : Shared} {R : Result → Shared → Prop} {name qual : Str} {params : Arguments} {body : List Stmt} {scope : Scope} {dV kV doc pm cdv ct : Value} {an : Option Addr} {K : Frag} {oc : Value} {od : Option Addr} {osl : Array (Option Value)} {f : Addr} {args : Args} {binds : List (Str × Value)}
/-- the claim's own call of a def with cells -/
theorem g_topCell (hlim : s.heap.NoLimit) (X : K.In s.heap) (ho : K.lookup f = some ⟨oc, od, .func (fnOf name qual params body scope dV kV doc pm an cdv ct), osl⟩) (hcd : codeIn K cdv qual = true)
    (hbind : BindsTo s (fnOf name qual params body scope dV kV doc pm an cdv ct) args binds)
    (hkind : (binds.all fun y => scope.names.lookup y.1 == some .local || scope.names.lookup y.1 == some .cell) = true) (hnd : ((cellsFrom 0 scope.names []).map (·.1)).Nodup)
    (h : ∀ L' h₁ tk cells, Fr s.heap L' h₁ (bindL (envOfC qual scope L' f cdv).kindOf binds fun _ => none) → News s.heap L' h₁ cells →
      CellsAre (bindC (envOfC qual scope L' f cdv).kindOf binds fun _ => none) (cellsFrom (L' + 1) scope.names []) cells →
      wpG (model prog w) (callerA.deeper (envOfC qual scope L' f cdv)) (execs body (envOfC qual scope L' f cdv))
        (fun fl s' => R (.ok (.ret (match fl with | .ret v => v | _ => .none))) s') (fun _ _ => False) { s with heap := h₁, toks := tk })
    (hco : scope.isCoroutine = false := by rfl) (hgen : scope.isGenerator = false := by rfl) (hk : scope.kind = .function := by rfl) : codeG (model prog w) callerA (.call (.ref f) args) R s := by
  refine g_callFunction (fd := fnOf name qual params body scope dV kV doc pm an cdv ct) (body := body) (by decide) (X _ _ ho) rfl hco hgen rfl (codeRec_of X hcd) (hbind _ _ _ _ ?_)
  refine wpAny_newFunctionEnv_cells hk (kindsX hkind _) fun env' he s' x => ?_
  subst he
  refine ⟨hlim.keeps x.toInCall.keep, g_fun ?_⟩
  obtain ⟨h₁, tk, rfl, _⟩ := x.done
  obtain ⟨cells, NC, Y⟩ := Cl.news (h₀ := s.heap) (Nat.le_refl _) fun n c hm => ⟨x.cell n c (lookup_of_mem_nodup (cellsFrom_names scope.names 0 (s.heap.objs.size + 1) [] [] rfl ▸ hnd) hm), x.above n c hm⟩
  exact h s.heap.objs.size h₁ tk cells ⟨x.toInCall.ns, x.toInCall.keep, Nat.le_refl _⟩ NC Y
end

/-- all that is alive and is not told by name -/
theorem ledger_all (g h : Heap) (L : Addr) (lits : List Addr) : ∃ rest : List (Addr × Obj), News g L h rest ∧ (∀ p ∈ rest, p.1 ∉ lits) ∧ (∀ b o, h.get? b = some o → b ≠ L → g.get? b = none → b ∉ lits → (b, o) ∈ rest) := by
  refine ⟨(List.range h.objs.size).filterMap fun b => if b = L ∨ b ∈ lits ∨ (g.get? b).isSome = true then none else (h.get? b).map fun o => (b, o), fun p hp => ?_, fun p hp => ?_, fun b o e n1 n2 n3 => ?_⟩
  · obtain ⟨b, _, e⟩ := List.mem_filterMap.mp hp
    split at e
    · cases e
    · rename_i q
      simp only [not_or] at q
      obtain ⟨o, ho, rfl⟩ := Option.map_eq_some_iff.mp e
      exact ⟨ho, q.1, by cases z : g.get? b with
        | none => rfl
        | some _ => exact absurd (by rw [z]; rfl) q.2.2⟩
  · obtain ⟨b, _, e⟩ := List.mem_filterMap.mp hp
    split at e
    · cases e
    · rename_i q
      simp only [not_or] at q
      obtain ⟨o, ho, rfl⟩ := Option.map_eq_some_iff.mp e
      exact q.2.1
  · refine List.mem_filterMap.mpr ⟨b, List.mem_range.mpr (Heap.lt_size e), ?_⟩
    rw [if_neg (by rw [n2]; simp [n1, n3]), e]; rfl
end Mine
end
section -- G13
open PySem PySem.W PyProof.Rows PySem.Calls
set_option maxRecDepth 100000
namespace Mine
theorem slot_ba_len : Slot "bytearray" "__len__" "bytearray.__len__" :=
  .of (owner := "bytearray") (n := "__len__") (by rw [typeLookup_type, builtinLookup_eq_fast]; kernel_rfl) (by decide +kernel) (by decide +kernel) (by decide +kernel)
    (by first | exact .inl (by decide +kernel) | exact .inr (by decide +kernel)) (by rw [isSubtype_type]; kernel_rfl)
theorem entry_ba_len : entryFor table "bytearray.__len__" = some Builtin.«bytearray.__len__» := entryFor_of_tree (by kernel_rfl)
theorem args_ba_len (a : Value) : argsOk "bytearray.__len__" ⟨[a], []⟩ := by unfold argsOk; kernel_rfl
section
variable {prog : Program} {w : World} {A : Around} {E : Value → Shared → Prop} {s : Shared}
theorem len_ba {y : Addr} {b : Array UInt8} {Q : Value → Shared → Prop} (ho : s.heap.get? y = some (baObj b)) (hz : b.size ≤ 16777216)
    (h : Q (.int b.size (s.toks + 1)) { s with toks := s.toks + 1 + 1 }) : wpAny (model prog w) A (call (.builtin "len") [.ref y]) Q E s := by
  have hT : s.TypeIs (.ref y) "bytearray" := ⟨_, ho, rfl⟩
  refine Calls.call_function_entry PySem.kind_len PySem.plain_len PySem.entry_len (PySem.args_len1 _) ?_
  unfold Builtin.«len»
  refine wpAny_bind (m := oneArg "len" _) (wpAny_pure ?_)
  refine wpAny_bind (m := callSpecial? (.ref y) (Str.ofString "__len__")) (wpAny_callSpecial?_slot (name := Str.ofString "__len__") hT slot_ba_len
    (wpAny_call_entry slot_ba_len hT entry_ba_len ?_ (args_ba_len _)))
  show wpAny _ _ (do retInt (← Builtin.Bytes.payload (.ref y)).size) _ _ s
  unfold Builtin.Bytes.payload Builtin.Bytes.payload?
  refine wpAny_bind (wpAny_bind (wpAny_bind (wpAny_load ho (wpAny_pure (wpAny_pure ?_)))))
  refine wpAny_bind (wpAny_mkInt (wpAny_pure ⟨_, rfl, ?_⟩))
  refine wpAny_bind (wpAny_holding (wpAny_pure ?_))
  refine wpAny_bind (wpAny_letGo ?_)
  show wpAny _ _ (if (b.size : Int) < 0 then _ else _) _ _ _
  rw [if_neg (by omega)]
  show wpAny _ _ (if (b.size : Int) ≥ 2 ^ 63 then _ else _) _ _ _
  rw [if_neg (by omega)]
  exact wpAny_bind (wpAny_mkInt (wpAny_pure ⟨_, rfl, h⟩))
theorem len_ba0 {h₀ : Heap} {L y : Addr} {news : List (Addr × Obj)} {Q : Value → Shared → Prop} (N : News h₀ L s.heap news) (hm : (y, baObj #[]) ∈ news) (h : Q (.int 0 (s.toks + 1)) { s with toks := s.toks + 1 + 1 }) : wpAny (model prog w) A (call (.builtin "len") [.ref y]) Q E s :=
  len_ba (N _ hm).1 (by decide) h
end
end Mine
end
section -- L2i
open PySem PySem.W PyProof.Rows PySem.Calls
set_option maxRecDepth 100000
namespace Mine
set_option maxHeartbeats 4000000
local macro_rules | `(tactic| k_room) => `(tactic| ((try simp only [depth_mark, depth_under_make, depth_under_kw, depth_in1, depth_deeper, depth_caller]); (first | ((show _ + _ < 1000); omega) | ((show _ < 1000); omega))))
local macro_rules | `(tactic| walk_at "call builtin:len") => `(tactic| (k_here; k_dflt (refine' len_ba0 ?N ?m ?_; (case N => k_asm); (case m => k_mem))))
theorem keepNews {h g h' : Heap} {L' : Addr} {m' : Str → Option Value} {news news' : List (Addr × Obj)} (hk : ∀ b o, h.get? b = some o → b ∉ news.map (·.1) → g.get? b = some o) (hd : ∀ p ∈ news, h.get? p.1 = some p.2) (F : Fr g L' h' m') (N : News g L' h' news') (hm : ∀ p ∈ news, p ∈ news') :
    ∀ b o, h.get? b = some o → h'.get? b = some o := fun b o e => by
  by_cases q : b ∈ news.map (·.1)
  · obtain ⟨p, hp, rfl⟩ := List.mem_map.mp q
    rw [hd p hp] at e; cases e
    exact (N _ (hm p hp)).1
  · exact F.keep _ _ (hk _ _ e q)

theorem readS_call {w : World} {p : Program} {loose : List Str} {mg mb : Str → Option Value} {A₀ : Around} {base h₀ : Heap} {outer : List Env} {L : Addr} {m : Str → Option Value} {env : Env} {mean : ExcName → Option Value} {s : Shared} {dep un : Nat} {gs : Option (List Code)}
    {R : Result → Shared → Prop} {x dx : Addr} {dd : Obj} (hf : env.frame = some L) (hke : env.scope.kind = .function)
    (X : (hd.heap_39 w.params).In h₀) (T : Top p loose mean mg mb h₀) (B : Below A₀ base outer h₀) (F : Fr h₀ L s.heap m) (hdep : dep < 490) (hun : un < 900)
    (N : News h₀ L s.heap [(x, instObj 576 dx), (dx, dd)]) (hdd : FreshS w.params s.heap x dx "" 0)
    (post : ∀ h' t' u, (∀ b o, s.heap.get? b = some o → h'.get? b = some o) → R (.ok (.ret (.str "" u))) { s with heap := h', toks := t' }) :
    codeAny (model PySem.Challenge.rw_kn0093_02.row.prog w) (AR dep (env :: outer) gs un) (.call (.ref 522) ⟨[.ref x], []⟩) R s := by
  have X' := X.keeps F.keep
  obtain ⟨_, t₁, t₂, t₃, t₄, t₅, t₆, e⟩ := hdd
  have e' := (N _ (.tail _ (.head _))).1
  rw [e] at e'
  cases e'
  refine' a_defF (news := [(x, instObj 576 dx), (dx, _)]) (env := env)
    B F N T.nolimit ?hA hf hke X' ?ho ?hcd ?hroom ?hb ?hloc (fun g L' h₁ hk F₁ N₁ B₁ st hlt => ?_) ?hcell ?c1 ?c2 ?c3
  case hA => rfl
  case ho => k_is
  case hcd => k_is
  case hroom => k_room
  case hb => first | exact BindsTo.of_eq rfl | exact binds_K X' rfl (by k_is) rfl rfl rfl
  case hloc => exact locs rfl
  case hcell => decide
  case c1 => rfl
  case c2 => rfl
  case c3 => rfl
  have X₁ := X.keeps st
  have T₁ := T.keeps st
  have TR₁ := topRead_of T₁
  have hdn : ∀ p ∈ [(x, instObj 576 dx), (dx, _)], s.heap.get? p.1 = some p.2 := fun p hp => (N p hp).1
  k_steps
  dsimp only
  rename Fr g L' _ _ => F₂
  rename News g L' _ _ => N₂
  exact post _ _ _ (keepNews hk hdn F₂ N₂ fun p hp => hp)

theorem readB_call {w : World} {p : Program} {loose : List Str} {mg mb : Str → Option Value} {A₀ : Around} {base h₀ : Heap} {outer : List Env} {L : Addr} {m : Str → Option Value} {env : Env} {mean : ExcName → Option Value} {s : Shared} {dep un : Nat} {gs : Option (List Code)}
    {R : Result → Shared → Prop} {x dx y : Addr} {dd : Obj} (hf : env.frame = some L) (hke : env.scope.kind = .function)
    (X : (hd.heap_39 w.params).In h₀) (T : Top p loose mean mg mb h₀) (B : Below A₀ base outer h₀) (F : Fr h₀ L s.heap m) (hdep : dep < 490) (hun : un < 900)
    (N : News h₀ L s.heap [(x, instObj 329 dx), (dx, dd), (y, baObj #[])]) (hdd : FreshB w.params s.heap x dx y #[] 0)
    (post : ∀ h' t' u, (∀ b o, s.heap.get? b = some o → h'.get? b = some o) → R (.ok (.ret (.bytes #[] u))) { s with heap := h', toks := t' }) :
    codeAny (model PySem.Challenge.rw_kn0093_02.row.prog w) (AR dep (env :: outer) gs un) (.call (.ref 253) ⟨[.ref x], []⟩) R s := by
  have X' := X.keeps F.keep
  obtain ⟨_, ⟨t₁, t₂, t₃, e⟩, _⟩ := hdd
  have e' := (N _ (.tail _ (.head _))).1
  rw [e] at e'
  cases e'
  refine' a_defF (news := [(x, instObj 329 dx), (dx, _), (y, baObj #[])]) (env := env)
    B F N T.nolimit ?hA hf hke X' ?ho ?hcd ?hroom ?hb ?hloc (fun g L' h₁ hk F₁ N₁ B₁ st hlt => ?_) ?hcell ?c1 ?c2 ?c3
  case hA => rfl
  case ho => k_is
  case hcd => k_is
  case hroom => k_room
  case hb => first | exact BindsTo.of_eq rfl | exact binds_K X' rfl (by k_is) rfl rfl rfl
  case hloc => exact locs rfl
  case hcell => decide
  case c1 => rfl
  case c2 => rfl
  case c3 => rfl
  have X₁ := X.keeps st
  have T₁ := T.keeps st
  have TR₁ := topRead_of T₁
  have hdn : ∀ p ∈ [(x, instObj 329 dx), (dx, _), (y, baObj #[])], s.heap.get? p.1 = some p.2 := fun p hp => (N p hp).1
  k_steps
  dsimp only
  rename Fr g L' _ _ => F₂
  rename News g L' _ _ => N₂
  exact post _ _ _ (keepNews hk hdn F₂ N₂ fun p hp => hp)
end Mine
end
section -- G14
open PySem PySem.W PyProof.Rows PySem.Calls
set_option maxRecDepth 100000
namespace Mine
theorem ints_paired : ∀ {vs ys : List Value}, Paired (fun _ y => ∃ n t, y = Value.int n t) vs ys → ∃ ns, IntsAre ys ns
  | _, _, .nil => ⟨[], .nil⟩
  | _, _, .cons h r => by
    obtain ⟨n, t, rfl⟩ := h
    obtain ⟨ns, q⟩ := ints_paired r
    exact ⟨n :: ns, .cons n t q⟩
theorem paired_len {F : Value → Value → Prop} : ∀ {vs ys : List Value}, Paired F vs ys → ys.length = vs.length
  | _, _, .nil => rfl
  | _, _, .cons _ r => congrArg (· + 1) (paired_len r)
theorem ints_pick {vs : List Value} {ns : List Int} (hi : IntsAre vs ns) (lo hi' st : Option Int) : AllInts (slicePick vs.toArray lo hi' st) := fun v hv => by
  simp only [slicePick, List.mem_toArray, List.mem_filterMap] at hv
  obtain ⟨j, _, e⟩ := hv
  exact hi.allInts v (Array.mem_of_getElem? e)
section
variable {prog : Program} {w : World} {A : Around} {E : Value → Shared → Prop} {s : Shared} {env : Env}
theorem ListComp_overRange {elt iter : Expr} {x : Str} {px : Pos} {scope : Scope} {cl : List (Str × Addr)} {pos : Pos} {Q : Value → Shared → Prop} (hh : A.handled = none)
    (hclos : closureFor scope env = pure cl) (hcell : ∀ y ∈ scope.names, y.2 ≠ .cell) (hkind : scope.kind = .function)
    (hnames : ∀ y ∈ scope.names, y.2 = .local → scope.names.lookup y.1 = some .local) (hx : scope.names.lookup x = some .local)
    (h : wpAny (model prog w) A (eval iter env) (fun xv s₁ => Stop (∃ r a₀ b₀ c₀ t₀ u₀ v₀, ∃ n : Nat, xv = .ref r ∧ IsRange s₁.heap r a₀ b₀ c₀ t₀ u₀ v₀ ∧ Builtin.Range.small a₀ b₀ c₀ = true ∧ Builtin.Range.rangeSize a₀ b₀ c₀ = (n : Int) ∧ n ≤ sizeLine ∧
      (∀ (C : Addr) (a : Int) (t : Tok) (s₂ : Shared) (m₂ : Str → Option Value) (E' : Value → Shared → Prop), s₁.heap.objs.size ≤ C → s₂.heap.Ns C m₂ → m₂ x = some (.int a t) → (∀ b o, s₁.heap.get? b = some o → s₂.heap.get? b = some o) →
        wpAny (model prog w) A (eval elt (compEnvC scope cl C env)) (fun y s₃ => (∃ n t, y = .int n t) ∧ Keeps s₂ s₃) E' s₂) ∧
      (∀ (D : Addr) (ys : List Value) (ns : List Int) (h' : Heap) (tk : Tok) (k : Nat), s₁.heap.get? D = none → h'.get? D = some (listO ys.toArray k) → IntsAre ys ns → ys.length = n →
        (∀ b o, s₁.heap.get? b = some o → h'.get? b = some o) → Q (.ref D) { s₁ with heap := h', toks := tk }))) E s)
    (hs : ∀ x, foldedSetIterable iter env x = pure x := by intro _; rfl) :
    wpAny (model prog w) A (eval (.ListComp elt [⟨.Name x px, iter, [], 0⟩] scope pos) env) Q E s := by
  refine wpAny_ListComp_free (fun _ => true) (fun _ y => ∃ n t, y = Value.int n t) hclos hcell hkind hnames hx (wpAny_mono h (fun xv s₁ h₁ => ?_) fun _ _ e => e) hs
  obtain ⟨r, a₀, b₀, c₀, t₀, u₀, v₀, n, rfl, hr, hsmall, hn, hsz, helt, hQ⟩ := h₁
  have up : ∀ (s₃ : Shared), (∀ b o, b ∉ [s₁.heap.objs.size] → (s₁.heap.push { cls := .type "range_iterator", data := .fields #[rawInt a₀, rawInt (Builtin.Range.rangeSize a₀ b₀ c₀), rawInt c₀] }).get? b = some o → s₃.heap.get? b = some o) → ∀ b o, s₁.heap.get? b = some o → s₃.heap.get? b = some o :=
    fun s₃ hk b o e => hk b o (fun hm => by rcases List.mem_cons.mp hm with rfl | hm; exact Nat.lt_irrefl _ (Heap.lt_size e); cases hm) (Heap.get?_push_of_some _ e)
  refine wpAny_pyIter_range hr hsmall ⟨s₁.heap.objs.size, [s₁.heap.objs.size], [s₁.heap.objs.size], n, _, _, rfl, (Walks.range hh _ a₀ c₀ n).bound, hsz, (by show IsRangeIter _ _ _ _ _; rw [hn]; simpa using Heap.get?_push_size _ rfl), ?_, ⟨?_, ?_⟩, ?_⟩
  · intro b hb
    show b < (s₁.heap.push _).objs.size
    rw [Heap.size_push]
    rcases List.mem_cons.mp hb with rfl | hb
    · exact Nat.lt_succ_self _
    · cases hb
  · intro C i v s₃ m₃ E' hC hP hn' hm hk _
    exact wpAny_pure ⟨rfl, _, _, rfl, fun _ _ e => e⟩
  · intro C i v s₃ m₃ E' hC hP hp hn' hm hk _
    obtain ⟨_, t, rfl⟩ := hP
    exact helt C _ t s₃ m₃ E' (Nat.le_of_succ_le (by simpa [Heap.size_push] using hC)) hn' hm (up s₃ hk)
  · intro D h' tk ys vs' hnew hlD hplD hlen hP hF hk
    have keep : ∀ b o, s₁.heap.get? b = some o → h'.get? b = some o := up { s₁ with heap := h' } hk
    obtain ⟨k, hpk⟩ := hplD
    obtain ⟨ns, hi⟩ := ints_paired hF
    have hl := paired_len hF
    refine hQ D ys.toList ns h' tk k ?_ (by rw [Array.toArray_toList]; exact hpk) hi (by rw [hl, List.filter_eq_self.mpr fun _ _ => rfl]; exact hlen) keep
    cases q : s₁.heap.get? D with
    | none => rfl
    | some o => have := Heap.get?_push_of_some { cls := .type "range_iterator", data := .fields #[rawInt a₀, rawInt (Builtin.Range.rangeSize a₀ b₀ c₀), rawInt c₀] } q; exact absurd (this.symm.trans hnew) (by simp)
end
end Mine
end
section -- G15
open PySem PySem.W PyProof.Rows PySem.Calls
set_option maxRecDepth 100000
namespace Mine
/- an entry taken out, an entry put -/
def del {α : Type} (S : List (Str × α)) (k : Str) : List (Str × α) := S.filter fun p => decide (p.1 ≠ k)
def put {α : Type} (S : List (Str × α)) (k : Str) (d : α) : List (Str × α) := if (look S k).isSome then S.map (fun p => if p.1 = k then (p.1, d) else p) else S ++ [(k, d)]
theorem any_look {α : Type} (S : List (Str × α)) (k : Str) : S.any (fun p => decide (p.1 = k)) = (look S k).isSome := by
  unfold look
  rw [Option.isSome_map, List.isSome_find?]
theorem Rel.del {P : Addr → Obj → Prop} {k : Str} : ∀ {l : List (Str × Value)} {S : List (Str × D)}, Rel P l S → Rel P (without l k) (del S k)
  | [], [], _ => trivial
  | (k₁, v) :: l, (k₂, d) :: S, ⟨a, b, c⟩ => by
    subst a
    unfold without Mine.del
    by_cases h : k₁ = k
    · rw [List.filter_cons_of_neg (by simp [h]), List.filter_cons_of_neg (by simp [h])]
      exact c.del
    · rw [List.filter_cons_of_pos (by simp [h]), List.filter_cons_of_pos (by simp [h])]
      exact ⟨rfl, b, c.del⟩
theorem Rel.over {P : Addr → Obj → Prop} {k : Str} {v' : Value} {d' : D} (hv : DV P v' d') : ∀ {l : List (Str × Value)} {S : List (Str × D)}, Rel P l S → Rel P (l.map fun kv => if kv.1 = k then (kv.1, v') else kv) (S.map fun p => if p.1 = k then (p.1, d') else p)
  | [], [], _ => trivial
  | (k₁, v) :: l, (k₂, d) :: S, ⟨a, b, c⟩ => by
    subst a
    rw [List.map_cons, List.map_cons]
    by_cases h : k₁ = k
    · rw [if_pos h, if_pos h]; exact ⟨rfl, hv, c.over hv⟩
    · rw [if_neg h, if_neg h]; exact ⟨rfl, b, c.over hv⟩
theorem Rel.put {P : Addr → Obj → Prop} {k : Str} {v' : Value} {d' : D} (hv : DV P v' d') {l : List (Str × Value)} {S : List (Str × D)} (r : Rel P l S) : Rel P (stored l k v') (put S k d') := by
  unfold stored Mine.put
  rw [any_look, r.isSome]
  split
  · exact r.over hv
  · exact r.append ⟨rfl, hv, trivial⟩
theorem Rel.keys {P : Addr → Obj → Prop} : ∀ {l : List (Str × Value)} {S : List (Str × D)}, Rel P l S → l.map (·.1) = S.map (·.1)
  | [], [], _ => rfl
  | (_, _) :: _, (_, _) :: _, ⟨a, _, c⟩ => by rw [List.map_cons, List.map_cons, c.keys, a]
theorem look_del {α : Type} (S : List (Str × α)) (k k' : Str) : look (del S k) k' = if k' = k then none else look S k' := by
  induction S with
  | nil => unfold del look; simp
  | cons p S ih =>
    by_cases h : p.1 = k
    · have e : del (p :: S) k = del S k := by unfold del; rw [List.filter_cons_of_neg (by simp [h])]
      rw [e, ih]
      split
      · rfl
      · next q =>
        have : p.1 ≠ k' := fun e => q (e ▸ h)
        unfold look
        rw [List.find?_cons_of_neg (by simpa using this)]
    · have e : del (p :: S) k = p :: del S k := by unfold del; rw [List.filter_cons_of_pos (by simp [h])]
      rw [e]
      by_cases q : p.1 = k'
      · have hk : k' ≠ k := fun e => h (q.trans e)
        rw [if_neg hk]
        unfold look
        rw [List.find?_cons_of_pos (by simpa using q), List.find?_cons_of_pos (by simpa using q)]
      · have e1 : look (p :: del S k) k' = look (del S k) k' := by unfold look; rw [List.find?_cons_of_neg (by simpa using q)]
        have e2 : look (p :: S) k' = look S k' := by unfold look; rw [List.find?_cons_of_neg (by simpa using q)]
        rw [e1, e2, ih]
theorem look_over {α : Type} (S : List (Str × α)) (k k' : Str) (d : α) : look (S.map fun p => if p.1 = k then (p.1, d) else p) k' = if k' = k then (look S k).map fun _ => d else look S k' := by
  induction S with
  | nil => unfold look; simp
  | cons p S ih =>
    rw [List.map_cons]
    have up : ∀ (q : Str × α) (T : List (Str × α)) (y : Str), look (q :: T) y = if q.1 = y then some q.2 else look T y := fun q T y => by
      unfold look
      split
      · next h => rw [List.find?_cons_of_pos (by simpa using h)]; rfl
      · next h => rw [List.find?_cons_of_neg (by simpa using h)]
    rw [up, up, up, ih]
    by_cases h : p.1 = k
    · rw [if_pos h]
      by_cases q : k' = k
      · subst q; simp [h]
      · have : p.1 ≠ k' := fun e => q (e ▸ h)
        simp [this, q]
    · rw [if_neg h]
      by_cases q : k' = k
      · subst q; simp [h]
      · simp [h, q]
theorem look_put {α : Type} (S : List (Str × α)) (k k' : Str) (d : α) : look (put S k d) k' = if k' = k then some d else look S k' := by
  unfold put
  split
  · next h =>
    rw [look_over]
    split
    · next q => obtain ⟨x, hx⟩ := Option.isSome_iff_exists.mp h; rw [hx]; rfl
    · rfl
  · next h =>
    have hn : look S k = none := by simpa using h
    have := look_sd S k k' d
    rw [sd_new hn] at this
    rw [this, hn]; rfl
theorem keys_put {α : Type} (S : List (Str × α)) (k : Str) (d : α) : ∀ x ∈ (put S k d).map (·.1), x ∈ S.map (·.1) ∨ x = k := by
  intro x hx
  unfold put at hx
  split at hx
  · left
    obtain ⟨p, hp, rfl⟩ := List.mem_map.mp hx
    obtain ⟨q, hq, rfl⟩ := List.mem_map.mp hp
    refine List.mem_map.mpr ⟨q, hq, ?_⟩
    split <;> rfl
  · rw [List.map_append, List.mem_append] at hx
    exact hx.imp id fun h => by simpa using h
theorem keys_del {α : Type} (S : List (Str × α)) (k : Str) : ∀ x ∈ (del S k).map (·.1), x ∈ S.map (·.1) := by
  intro x hx
  obtain ⟨p, hp, rfl⟩ := List.mem_map.mp hx
  exact List.mem_map.mpr ⟨p, (List.mem_filter.mp hp).1, rfl⟩
theorem RowOf.put_app {P : Addr → Obj → Prop} {h : Heap} {l : List Value} {v : Value} {S : List (Str × D)} {k : Str} {d : D} (r : RowOf P h l S) (hv : PairOf P h v (k, d)) (hn : look S k = none) : RowOf P h (l ++ [v]) (put S k d) := by
  unfold put
  rw [hn]
  exact r.append ⟨hv, trivial⟩
theorem RowOf.del {P : Addr → Obj → Prop} {h : Heap} {l : List Value} {S : List (Str × D)} {k : Str} (r : RowOf P h l S) : RowOf P h (l.filter (firstIs h fun x => decide (x ≠ k))) (del S k) := RowOf.filter (TupKeep.of fun _ _ e => e) r

/- comparisons -/
section
open PySem.SeqAt
variable {A : Around} {s : Shared} {P P' : Addr → Obj → Prop}
theorem eqAt_of {a b : Value} {k : Bool} (h : EqAt A s a b k) (e : k = true) : EqAt A s a b true := e ▸ h
theorem eqAt_dv {a b : Value} {d : D} (ha : DV P a d) (hb : DV P' b d) (h : ∀ a o, P a o → s.heap.get? a = some o) (h' : ∀ a o, P' a o → s.heap.get? a = some o) (hu : A.units < cLine) : EqAt A s a b true := by
  cases d with
  | str x =>
    cases a <;> first | exact ha.elim | skip
    cases b <;> first | exact hb.elim | skip
    obtain rfl := (show _ = x from ha)
    obtain rfl := (show _ = _ from hb)
    exact eqAt_of (EqAt.str_str _ _ _ _) (by simp)
  | int x =>
    cases a <;> first | exact ha.elim | skip
    cases b <;> first | exact hb.elim | skip
    obtain rfl := (show _ = x from ha)
    obtain rfl := (show _ = _ from hb)
    exact eqAt_of (EqAt.int_int _ _ _ _) (by simp)
  | ver =>
    cases a <;> first | exact ha.elim | skip
    cases b <;> first | exact hb.elim | skip
    rename_i l b
    obtain ⟨t, u, k⟩ := ha
    obtain ⟨t', u', k'⟩ := hb
    by_cases q : l = b
    · subst q; exact EqAt.same _
    · have z := RcAt.tuples (A := A) (s := s) (e := fun _ => true) ⟨_, h _ _ k, rfl, _, rfl⟩ ⟨_, h' _ _ k', rfl, _, rfl⟩ hu (fun j h1 h2 => ?_)
      · exact eqAt_of (EqAt.of_refs q z) (by simp)
      · rcases j with _ | _ | j
        · exact eqAt_of (EqAt.int_int _ _ _ _) (by simp)
        · exact eqAt_of (EqAt.int_int _ _ _ _) (by simp)
        · simp at h1; omega
  | obj x =>
    cases a <;> first | exact ha.elim | skip
    cases b <;> first | exact hb.elim | skip
    obtain ⟨rfl, _⟩ := ha
    obtain ⟨rfl, _⟩ := hb
    exact EqAt.same _
theorem eqAt_pair {v v' : Value} {p : Str × D} (ha : PairOf P s.heap v p) (hb : PairOf P' s.heap v' p) (h : ∀ a o, P a o → s.heap.get? a = some o) (h' : ∀ a o, P' a o → s.heap.get? a = some o) (hu : A.units + 1 < cLine) : EqAt A s v v' true := by
  obtain ⟨t, x, ⟨l, n, rfl, g⟩, dx⟩ := ha
  obtain ⟨t', x', ⟨l', n', rfl, g'⟩, dx'⟩ := hb
  by_cases q : l = l'
  · subst q; exact EqAt.same _
  · have z := RcAt.tuples (A := A) (s := s) (e := fun _ => true) ⟨_, g, rfl, _, rfl⟩ ⟨_, g', rfl, _, rfl⟩ (Nat.lt_of_succ_lt hu) (fun j h1 h2 => ?_)
    · exact eqAt_of (EqAt.of_refs q z) (by simp)
    · rcases j with _ | _ | j
      · exact eqAt_of (EqAt.str_str _ _ _ _) (by simp)
      · exact eqAt_dv (A := A.in1) dx dx' h h' hu
      · simp at h1; omega
/-- two rows of the same pairs are not unequal -/
theorem rows_ne {B lR : Addr} {xs ys : List Value} {S : List (Str × D)} (hB : s.heap.IsList B xs.toArray) (hR : s.heap.IsList lR ys.toArray) (rx : RowOf P s.heap xs S) (ry : RowOf P' s.heap ys S) (h : ∀ a o, P a o → s.heap.get? a = some o) (h' : ∀ a o, P' a o → s.heap.get? a = some o) (hu : A.units + 2 < cLine) :
    RcNeAt A s (.ref B) (.ref lR) false := by
  have z := RcNeAt.lists (A := A) (e := fun _ => true) hB hR (by simp [rx.length, ry.length]) (by omega) (fun j h1 h2 => ?_)
  · have e : (!(List.range xs.toArray.size).all fun _ => true) = false := by simp
    rw [e] at z; exact z
  · obtain ⟨p, hp, a⟩ := rx.at (i := j) (v := xs.toArray[j]) (by simp)
    obtain ⟨p', hp', b⟩ := ry.at (i := j) (v := ys.toArray[j]) (by simp)
    rw [hp] at hp'; cases hp'
    exact eqAt_pair (A := A.in1) a b h h' (by show A.units + 1 + 1 < cLine; omega)
theorem same_ne {B B' : Addr} {xs ys : List Value} (hB : s.heap.IsList B xs.toArray) (hR : s.heap.IsList B' ys.toArray) (e : xs = ys) (hu : A.units < cLine) : RcNeAt A s (.ref B) (.ref B') false := by
  subst e
  have z := RcNeAt.lists (A := A) (e := fun _ => true) hB hR rfl hu (fun j h1 h2 => EqAt.same _)
  have e : (!(List.range xs.toArray.size).all fun _ => true) = false := by simp
  rw [e] at z; exact z
end

/- kinds -/
def TyD (h : Heap) (d : D) (y : Value) : Prop := match d with
  | .str _ => y = .type "str"
  | .int _ => y = .type "int"
  | .ver => y = .type "tuple"
  | .obj a => ∃ o, h.get? a = some o ∧ y = o.cls
theorem TyD.same {h : Heap} {d : D} {y y' : Value} (a : TyD h d y) (b : TyD h d y') : y = y' := by
  cases d with
  | str _ => exact (show y = _ from a).trans (show y' = _ from b).symm
  | int _ => exact (show y = _ from a).trans (show y' = _ from b).symm
  | ver => exact (show y = _ from a).trans (show y' = _ from b).symm
  | obj x =>
    obtain ⟨o, e, rfl⟩ := a
    obtain ⟨o', e', rfl⟩ := b
    rw [e] at e'; cases e'; rfl
theorem DV.det {P : Addr → Obj → Prop} (hP : ∀ a o o', P a o → P a o' → o = o') {v : Value} {d d' : D} (a : DV P v d) (b : DV P v d') : d = d' := by
  cases d <;> cases d' <;> cases v <;> first | exact a.elim | exact b.elim | skip
  · obtain rfl := (show _ = _ from a); obtain rfl := (show _ = _ from b); rfl
  · obtain rfl := (show _ = _ from a); obtain rfl := (show _ = _ from b); rfl
  · rfl
  · obtain ⟨t, u, k⟩ := a; obtain ⟨_, C, dx, k'⟩ := b; have := hP _ _ _ k k'; cases this
  · obtain ⟨t, u, k⟩ := b; obtain ⟨_, C, dx, k'⟩ := a; have := hP _ _ _ k k'; cases this
  · obtain ⟨rfl, _⟩ := a; obtain ⟨rfl, _⟩ := b; rfl
section
variable {prog : Program} {w : World} {A : Around} {E : Value → Shared → Prop} {s : Shared} {P : Addr → Obj → Prop}
theorem type_dv {v : Value} {d : D} {Q : Value → Shared → Prop} (hv : DV P v d) (h : ∀ a o, P a o → s.heap.get? a = some o) (hq : ∀ y, TyD s.heap d y → Q y s) : wpAny (model prog w) A (call (.type "type") [v]) Q E s := by
  obtain ⟨hh, g, dd, t, os⟩ := s
  cases d with
  | str x =>
    cases v <;> first | exact hv.elim | skip
    exact call_type_of (typeIs_str _ _ _) (by decide) (hq _ rfl)
  | int x =>
    cases v <;> first | exact hv.elim | skip
    exact call_type_of (typeIs_int _ _ _) (by decide) (hq _ rfl)
  | ver =>
    cases v <;> first | exact hv.elim | skip
    obtain ⟨t, u, k⟩ := hv
    exact call_type_obj (h _ _ k) (by rfl) (hq _ rfl)
  | obj x =>
    cases v <;> first | exact hv.elim | skip
    obtain ⟨rfl, C, dx, k⟩ := hv
    exact call_type_obj (h _ _ k) (by rfl) (hq _ ⟨_, h _ _ k, rfl⟩)
end
end Mine
end
section -- G16
open PySem PySem.W PyProof.Rows PySem.Calls
set_option maxRecDepth 100000
namespace Mine
/- what the values of an environ speak of: tuples and instances -/
def goodO (o : Obj) : Prop := isTupO o ∨ ∃ C dx, o = instObj C dx
theorem good_tup {its : Array Value} {n : Nat} : goodO { cls := .type "tuple", data := .seq its n } := .inl ⟨rfl, _, _, rfl⟩
theorem good_inst {C dx : Addr} : goodO (instObj C dx) := .inr ⟨_, _, rfl⟩
def Kept (h h' : Heap) : Prop := ∀ b o, goodO o → h.get? b = some o → h'.get? b = some o
theorem Kept.tup {h h' : Heap} (k : Kept h h') : TupKeep h h' := fun b o t e => k b o (.inl t) e
theorem Kept.of {h h' : Heap} (k : ∀ b o, h.get? b = some o → h'.get? b = some o) : Kept h h' := fun b o _ e => k b o e
theorem Kept.trans {h h' h'' : Heap} (a : Kept h h') (b : Kept h' h'') : Kept h h'' := fun x o g e => b x o g (a x o g e)
theorem DV.kept {P Q : Addr → Obj → Prop} (h : ∀ a o, goodO o → P a o → Q a o) : ∀ {v : Value} {d : D}, DV P v d → DV Q v d := by
  intro v d x
  cases d <;> cases v <;> first | exact x | exact x.elim | skip
  · obtain ⟨t, u, k⟩ := x; exact ⟨t, u, h _ _ good_tup k⟩
  · obtain ⟨e, C, dx, k⟩ := x; exact ⟨e, C, dx, h _ _ good_inst k⟩
theorem Rel.kept {P Q : Addr → Obj → Prop} (h : ∀ a o, goodO o → P a o → Q a o) : ∀ {l : List (Str × Value)} {S : List (Str × D)}, Rel P l S → Rel Q l S
  | [], [], _ => trivial
  | (_, _) :: _, (_, _) :: _, ⟨a, b, c⟩ => ⟨a, b.kept h, c.kept h⟩
theorem PairOf.kept {P Q : Addr → Obj → Prop} {h h' : Heap} {v : Value} {p : Str × D} (x : PairOf P h v p) (k : TupKeep h h') (q : ∀ a o, goodO o → P a o → Q a o) : PairOf Q h' v p :=
  let ⟨t, val, a, b⟩ := x; ⟨t, val, a.keep k, b.kept q⟩
theorem RowOf.kept {P Q : Addr → Obj → Prop} {h h' : Heap} (k : TupKeep h h') (q : ∀ a o, goodO o → P a o → Q a o) : ∀ {l : List Value} {S : List (Str × D)}, RowOf P h l S → RowOf Q h' l S
  | [], [], _ => trivial
  | _ :: _, _ :: _, ⟨a, b⟩ => ⟨a.kept k q, b.kept k q⟩
abbrev At (h : Heap) : Addr → Obj → Prop := fun a o => h.get? a = some o
theorem Rel.to {h h' : Heap} {l : List (Str × Value)} {S : List (Str × D)} (r : Rel (At h) l S) (k : Kept h h') : Rel (At h') l S := r.kept k
theorem RowOf.to {h h' : Heap} {l : List Value} {S : List (Str × D)} (r : RowOf (At h) h l S) (k : Kept h h') : RowOf (At h') h' l S := r.kept k.tup k
theorem Rel.idx {P : Addr → Obj → Prop} : ∀ {l : List (Str × Value)} {S : List (Str × D)} {i : Nat} {k : Str} {x : Value} {p : Str × D}, Rel P l S → l[i]? = some (k, x) → S[i]? = some p → p.1 = k ∧ DV P x p.2
  | (_, _) :: _, (_, _) :: _, 0, k, x, p, ⟨a, b, _⟩, e, e' => by
    simp only [List.getElem?_cons_zero, Option.some.injEq, Prod.mk.injEq] at e e'
    obtain ⟨rfl, rfl⟩ := e
    subst e'
    exact ⟨a.symm, b⟩
  | (_, _) :: l, (_, _) :: S, i + 1, k, x, p, ⟨_, _, c⟩, e, e' => c.idx (i := i) (by simpa using e) (by simpa using e')
theorem Fr.notDict {g h : Heap} {L : Addr} {m : Str → Option Value} (F : Fr g L h m) : ∀ o, h.get? L = some o → ¬ goodO o := fun o e t => by
  obtain ⟨o', es, ep, ho, hd, _⟩ := F.ns
  rw [ho] at e; cases e
  rcases t with ⟨_, its, k, q⟩ | ⟨C, dx, rfl⟩
  · rw [hd] at q; cases q
  · cases hd
/-- what is alive and not told by name stays, and so does all of that sort -/
theorem keep_rest {g h h' : Heap} {L : Addr} {m m' : Str → Option Value} {lits : List Addr} {rest : List (Addr × Obj)} (F : Fr g L h m) (F' : Fr g L h' m') (N' : ∀ p ∈ rest, h'.get? p.1 = some p.2)
    (hall : ∀ b o, h.get? b = some o → b ≠ L → g.get? b = none → b ∉ lits → (b, o) ∈ rest) (hno : ∀ b o, b ∈ lits → h.get? b = some o → ¬ goodO o) : Kept h h' := fun b o t e => by
  by_cases q : b = L
  · subst q; exact absurd t (Fr.notDict F _ e)
  · cases c : g.get? b with
    | some o' =>
      have := F.keep _ _ c
      rw [e] at this; cases this
      exact F'.keep _ _ c
    | none =>
      by_cases m : b ∈ lits
      · exact absurd t (hno _ _ m e)
      · exact N' (b, o) (hall _ _ e q c m)
theorem list_notGood {its : Array Value} {n : Nat} : ¬ goodO (listO its n) := by
  rintro (⟨h, _⟩ | ⟨C, dx, h⟩)
  · exact absurd (show Value.type "list" = Value.type "tuple" from h) (by decide)
  · cases h
theorem cell_notGood {o : Obj} {v : Option Value} (h : o.data = .cell v) : ¬ goodO o := by
  rintro (⟨_, its, k, q⟩ | ⟨C, dx, rfl⟩)
  · rw [h] at q; cases q
  · cases h
theorem dict_notGood {prog : Program} {w : World} {o : Obj} {kvs : List (Str × Value)} (h : o.IsDictOf (strKind prog w) kvs) : ¬ goodO o := by
  obtain ⟨es, ep, _, hd, _⟩ := h
  rintro (⟨_, its, k, q⟩ | ⟨C, dx, rfl⟩)
  · rw [hd] at q; cases q
  · cases hd
section
variable {prog : Program} {w : World} {A : Around} {E : Value → Shared → Prop} {s : Shared} {env : Env} {P : Addr → Obj → Prop}
/-- list(d.items()), as a row -/
theorem list_itemsR {v d : Addr} {od : Obj} {kvs : List (Str × Value)} {S : List (Str × D)} {Q : Value → Shared → Prop} (hh : A.handled = none) (hv : s.heap.IsItemsView v d) (hod : s.heap.get? d = some od) (hd : od.IsDictOf (strKind prog w) kvs) (r : Rel P kvs S) (hn : kvs.length ≤ 1000)
    (hQ : ∀ (h' : Heap) (tk : Tok) (B : Addr) (xs : List Value) (c : Nat), (∀ b o, s.heap.get? b = some o → h'.get? b = some o) → h'.get? B = some (listO xs.toArray c) → s.heap.objs.size ≤ B → RowOf P h' xs S → Q (.ref B) { s with heap := h', toks := tk }) :
    wpAny (model prog w) A (call (.type "list") [.ref v]) Q E s := by
  obtain ⟨ep, hat⟩ := KdkAt.of hd
  refine kdx_call (knd := strKind prog w) (kvs := kvs) (ep := ep) hh hv (hat.dictAt hod) (by rw [sizeLine_eq]; omega) fun h' tk acc c as hk hS hl hG hacc => ?_
  refine hQ h' tk _ acc.toList c hk (by rw [Array.toArray_toList]; exact hS) (Nat.le_refl _) ?_
  rw [hacc]
  refine RowOf.of (by rw [List.length_map, hl, r.length]) fun i x p hx hp => ?_
  rw [List.getElem?_map] at hx
  obtain ⟨a, ha, rfl⟩ := Option.map_eq_some_iff.mp hx
  obtain ⟨key, k, y, e1, e2, e3⟩ := hG.pairs i a ha
  obtain ⟨q, dv⟩ := r.idx e1 hp
  obtain ⟨t, rfl⟩ := Value.isStrOf_shape e2
  exact ⟨t, y, ⟨a, _, rfl, by rw [q]; exact e3⟩, dv⟩
/-- a comprehension over the values of a dict -/
theorem ListComp_values {knd : KeyKind prog w Str} {elt iter : Expr} {x : Str} {px : Pos} {scope : Scope} {cl : List (Str × Addr)} {pos : Pos} {Q : Value → Shared → Prop} (F : Value → Value → Prop) (hh : A.handled = none)
    (hclos : closureFor scope env = pure cl) (hcell : ∀ y ∈ scope.names, y.2 ≠ .cell) (hkind : scope.kind = .function)
    (hnames : ∀ y ∈ scope.names, y.2 = .local → scope.names.lookup y.1 = some .local) (hx : scope.names.lookup x = some .local)
    (h : wpAny (model prog w) A (eval iter env) (fun xv s₁ => Stop (∃ (vw d : Addr) (od : Obj) (kvs : List (Str × Value)), xv = .ref vw ∧ s₁.heap.IsValuesView vw d ∧ s₁.heap.get? d = some od ∧ od.IsDictOf knd kvs ∧ kvs.length ≤ sizeLine ∧
      (∀ (C : Addr) (v : Value) (s₃ : Shared) (m₃ : Str → Option Value) (E' : Value → Shared → Prop), s₁.heap.objs.size ≤ C → (∃ (i : Nat) (k : Str), kvs[i]? = some (k, v)) → s₃.heap.Ns C m₃ → m₃ x = some v → (∀ b o, s₁.heap.get? b = some o → s₃.heap.get? b = some o) →
        wpAny (model prog w) A (eval elt (compEnvC scope cl C env)) (fun y s₄ => F v y ∧ Keeps s₃ s₄) E' s₃) ∧
      (∀ (D : Addr) (h' : Heap) (tk : Tok) (ys : List Value) (n : Nat), h'.get? D = some (listO ys.toArray n) → Paired F (kvs.map (·.2)) ys → (∀ b o, s₁.heap.get? b = some o → h'.get? b = some o) → Q (.ref D) { s₁ with heap := h', toks := tk }))) E s)
    (hs : ∀ x, foldedSetIterable iter env x = pure x := by intro _; rfl) :
    wpAny (model prog w) A (eval (.ListComp elt [⟨.Name x px, iter, [], 0⟩] scope pos) env) Q E s := by
  refine wpAny_ListComp_free (fun _ => true) F hclos hcell hkind hnames hx (wpAny_mono h (fun xv s₁ h₁ => ?_) fun _ _ e => e) hs
  obtain ⟨vw, d, od, kvs, rfl, hvw, hod, hd, hsz, helt, hQ⟩ := h₁
  obtain ⟨ep, hat⟩ := KdkAt.of hd
  have hat' := hat.dictAt hod
  refine wpAny_pyIter_values (knd := knd) hvw hat' ?_
  have hdlt : d < s₁.heap.objs.size := Heap.lt_size hod
  refine ⟨_, _, _, _, _, _, rfl, Walks.dictValues (knd := knd) hh s₁.heap.objs.size d (Nat.ne_of_lt hdlt) kvs ep, hsz, ⟨⟨_, Heap.get?_push_size _ rfl, rfl, rfl⟩, hat'.push _⟩, ?_, ⟨?_, ?_⟩, ?_⟩
  · intro b hb
    simp only [Heap.size_push, List.mem_cons, List.not_mem_nil, or_false] at hb ⊢
    rcases hb with rfl | rfl
    · exact Nat.lt_succ_self _
    · exact Nat.lt_succ_of_lt hdlt
  · intro C i v s₃ m₃ E' hC hP hn hv hk htk
    exact wpAny_pure ⟨rfl, _, _, rfl, fun _ _ e => e⟩
  · intro C i v s₃ m₃ E' hC hP _ hn hv hk htk
    obtain ⟨k, hk'⟩ := hP
    refine helt C v s₃ m₃ E' (Nat.le_trans (by rw [Heap.size_push]; exact Nat.le_succ _) hC) ⟨i, k, hk'⟩ hn hv fun b o e => hk b o (by simpa using Nat.ne_of_lt (Heap.lt_size e)) (Heap.get?_push_of_some _ e)
  · intro D h' tk ys vs' hD hl' hpl hlen hP hF hk
    have e : vs' = kvs.map (·.2) := by
      refine List.ext_getElem (by simpa using hlen) fun i h1 h2 => ?_
      obtain ⟨k, hk⟩ := hP i vs'[i] (List.getElem?_eq_getElem h1)
      rw [List.getElem_map]
      have h3 : i < kvs.length := by simpa using h2
      rw [List.getElem?_eq_getElem h3] at hk
      simp only [Option.some.injEq] at hk
      rw [hk]
    rw [List.filter_eq_self.mpr fun _ _ => rfl, e] at hF
    obtain ⟨n, hn⟩ := hpl
    exact hQ D h' tk ys.toList n (by rw [Array.toArray_toList]; exact hn) hF fun b o e => hk b o (by simpa using Nat.ne_of_lt (Heap.lt_size e)) (Heap.get?_push_of_some _ e)
/-- [elt for x in l if x op r], where no item passes -/
theorem ListComp_none {elt iter r : Expr} {op : CmpOp} {x : Str} {px p2 p5 : Pos} {scope : Scope} {cl : List (Str × Addr)} {pos : Pos} {Q : Value → Shared → Prop} (hh : A.handled = none)
    (hclos : closureFor scope env = pure cl) (hcell : ∀ y ∈ scope.names, y.2 ≠ .cell) (hkind : scope.kind = .function)
    (hnames : ∀ y ∈ scope.names, y.2 = .local → scope.names.lookup y.1 = some .local) (hx : scope.names.lookup x = some .local) (hd : (x == ("__debug__" : Str)) = false) (hm : behindInMarks op r = false)
    (h : wpAny (model prog w) A (eval iter env) (fun xv s₁ => Stop (∃ (l : Addr) (vs : List Value), xv = .ref l ∧ s₁.heap.IsList l vs.toArray ∧ vs.length ≤ sizeLine ∧
      (∀ (C : Addr) (v : Value) (s₃ : Shared) (E' : Value → Shared → Prop), s₁.heap.objs.size ≤ C → v ∈ vs → (∀ b o, s₁.heap.get? b = some o → s₃.heap.get? b = some o) →
        wpAny (model prog w) A (eval r (compEnvC scope cl C env)) (fun b s₄ => wpAny (model prog w) A (compareOp op v b) (fun c s₅ => wpAny (model prog w) A (truthy c) (fun ok s₆ => ok = false ∧ Keeps s₃ s₆) E' s₅) E' s₄) E' s₃) ∧
      (∀ (D : Addr) (h' : Heap) (tk : Tok) (n : Nat), s₁.heap.get? D = none → h'.get? D = some (listO #[] n) → (∀ b o, s₁.heap.get? b = some o → h'.get? b = some o) → Q (.ref D) { s₁ with heap := h', toks := tk }))) E s)
    (hs : ∀ x, foldedSetIterable iter env x = pure x := by intro _; rfl) :
    wpAny (model prog w) A (eval (.ListComp elt [⟨.Name x px, iter, [.Compare (.Name x p2) [op] [r] p5], 0⟩] scope pos) env) Q E s := by
  refine wpAny_ListComp_free (fun _ => false) (fun _ _ => True) hclos hcell hkind hnames hx (wpAny_mono h (fun xv s₁ h₁ => ?_) fun _ _ e => e) hs
  obtain ⟨l, vs, rfl, hl, hz, hr, hQ⟩ := h₁
  refine wpAny_pyIter_list hl ?_
  have hlI : l ≠ s₁.heap.objs.size := let ⟨o, ho, _⟩ := hl; Nat.ne_of_lt (Heap.lt_size ho)
  refine ⟨_, _, _, _, _, _, rfl, Walks.list hh s₁.heap.objs.size l hlI vs.toArray, by simpa using hz, ⟨⟨_, Heap.get?_push_size _ rfl, rfl, rfl⟩, hl.push _⟩, ?_, ⟨?_, ?_⟩, ?_⟩
  · intro b hb
    simp only [Heap.size_push, List.mem_cons, List.not_mem_nil, or_false] at hb ⊢
    rcases hb with rfl | rfl
    · exact Nat.lt_succ_self _
    · exact Nat.lt_succ_of_lt (let ⟨o, ho, _⟩ := hl; Heap.lt_size ho)
  · intro C i v s₃ m₃ E' hC hP hn hv hk htk
    have hvm : v ∈ vs := by
      obtain ⟨hi, e⟩ := Array.getElem?_eq_some_iff.mp hP
      rw [← e]; simp
    have kk : ∀ b o, s₁.heap.get? b = some o → s₃.heap.get? b = some o := fun b o e => hk b o (by simpa using Nat.ne_of_lt (Heap.lt_size e)) (Heap.get?_push_of_some _ e)
    refine wpAny_tests_one (a_test ?_ hm)
    exact wpAny_Name (wpAny_loadName_local (by simp [compEnvC, relabel, hkind]) (lookup_relabel_local hx) hn hv (hr C v s₃ E' (Nat.le_trans (by rw [Heap.size_push]; exact Nat.le_succ _) hC) hvm kk)) hd
  · intro C i v s₃ m₃ E' hC hP hpv
    cases hpv
  · intro D h' tk ys vs' hD hl' hpl hlen hP hF hk
    have e : ys = #[] := by
      have e1 : vs'.filter (fun _ => false) = [] := by simp
      rw [e1] at hF
      generalize hy : ys.toList = yl at hF
      cases hF
      exact Array.eq_empty_of_size_eq_zero (by rw [← Array.length_toList, hy]; rfl)
    subst e
    obtain ⟨n, hn⟩ := hpl
    have k₁ : ∀ b o, s₁.heap.get? b = some o → h'.get? b = some o := fun b o e => hk b o (by simpa using Nat.ne_of_lt (Heap.lt_size e)) (Heap.get?_push_of_some _ e)
    refine hQ D h' tk n ?_ hn k₁
    cases q : s₁.heap.get? D with
    | none => rfl
    | some o => have := Heap.get?_push_of_some { cls := .type "list_iterator", data := .fields #[.ref l, .int 0 0] } q; exact absurd (this.symm.trans hD) (by simp)
end
end Mine
end
section -- G17
open PySem PySem.W PyProof.Rows PySem.Calls
set_option maxRecDepth 100000
namespace Mine
theorem frNew {g h h' : Heap} {L : Addr} {m m' : Str → Option Value} (F : Fr g L h m) (hn : h'.Ns L m') (hk : ∀ b o, b ≠ L → h.get? b = some o → h'.get? b = some o) : Fr g L h' m' :=
  ⟨hn, fun b o e => hk b o (fun q => Nat.lt_irrefl _ (Nat.lt_of_lt_of_le (Heap.lt_size (q ▸ e : g.get? L = some o)) F.above)) (F.keep b o e), F.above⟩
theorem newsNew {g h h' : Heap} {L : Addr} {news : List (Addr × Obj)} (N : News g L h news) (hk : ∀ b o, b ≠ L → h.get? b = some o → h'.get? b = some o) : News g L h' news := fun p hp => ⟨hk _ _ (N p hp).2.1 (N p hp).1, (N p hp).2⟩
theorem keptNew {g h h' : Heap} {L : Addr} {m : Str → Option Value} (F : Fr g L h m) (hk : ∀ b o, b ≠ L → h.get? b = some o → h'.get? b = some o) : Kept h h' := fun b o t e => hk b o (fun q => Mine.Fr.notDict F o (q ▸ e) t) e
section
variable {prog : Program} {w : World} {A : Around} {E : Value → Shared → Prop} {env : Env} {s : Shared}
/-- y = [x for x in iter if x[0] op r], over a list of pairs whose first part is a text -/
theorem Assign_first {iter r : Expr} {op : CmpOp} {x y : Str} {px py p1 p2 p3 p4 p5 : Pos} {scope : Scope} {cl : List (Str × Addr)} {pos spos : Pos} {Q : Flow → Shared → Prop} (f : Str → Bool) (hh : A.handled = none)
    (hsw : swapsWith (.ListComp (.Name x p1) [⟨.Name x px, iter, [.Compare (.Subscript (.Name x p2) (.Constant (.int 0) 0 p3) p4) [op] [r] p5], 0⟩] scope pos) (some (.Name y py)) spos.line env = pure true)
    (hclos : closureFor scope env = pure cl) (hcell : ∀ y ∈ scope.names, y.2 ≠ .cell) (hkind : scope.kind = .function)
    (hnames : ∀ y ∈ scope.names, y.2 = .local → scope.names.lookup y.1 = some .local) (hx : scope.names.lookup x = some .local) (hd : (x == ("__debug__" : Str)) = false) (hm : behindInMarks op r = false)
    (hy : env.kindOf y = some .local) (hp : (env.scope.kind == .class || (env.scope.kind == .module && env.locals != env.globals)) = false)
    (h : wpAny (model prog w) A (eval iter env) (fun xv s₁ => Stop (∃ (l : Addr) (vs : List Value) (m : Str → Option Value), xv = .ref l ∧ s₁.heap = s.heap ∧ s₁.heap.Ns env.locals m ∧ s₁.heap.IsList l vs.toArray ∧ vs.length ≤ sizeLine ∧ (∀ v ∈ vs, ∃ k t b, PairAt s₁.heap v (.str k t) b) ∧
      (∀ (C : Addr) (k : Str) (t : Tok) (s₃ : Shared) (E' : Value → Shared → Prop), s₁.heap.objs.size ≤ C → (∀ b o, s₁.heap.get? b = some o → s₃.heap.get? b = some o) →
        wpAny (model prog w) A (eval r (compEnvC scope cl C env)) (fun b s₄ => wpAny (model prog w) A (compareOp op (.str k t) b) (fun c s₅ => wpAny (model prog w) A (truthy c) (fun ok s₆ => ok = f k ∧ Keeps s₃ s₆) E' s₅) E' s₄) E' s₃) ∧
      (∀ (D : Addr) (h' : Heap) (tk : Tok) (n : Nat), s₁.heap.get? D = none → h'.get? D = some (listO (vs.filter (firstIs s.heap f)).toArray n) → h'.Ns env.locals (fun z => if z = y then some (.ref D) else m z) →
        (∀ b o, b ≠ env.locals → s₁.heap.get? b = some o → h'.get? b = some o) → Q .next { s₁ with heap := h', toks := tk }))) E s)
    (hs : ∀ x, foldedSetIterable iter env x = pure x := by intro _; rfl) :
    wpAny (model prog w) A (exec (.Assign [.Name y py] (.ListComp (.Name x p1) [⟨.Name x px, iter, [.Compare (.Subscript (.Name x p2) (.Constant (.int 0) 0 p3) p4) [op] [r] p5], 0⟩] scope pos) spos) env) Q E s := by
  refine wpAny_Assign_ListComp_free (firstIs s.heap f) (fun v y => y = v) hsw hclos hcell hkind hnames hx hy hp (wpAny_mono h (fun xv s₁ h₁ => ?_) fun _ _ e => e) hs
  obtain ⟨l, vs, m, rfl, hs₁, hNs, hl, hz, hpair, hr, hQ⟩ := h₁
  refine wpAny_pyIter_list hl ?_
  have hlI : l ≠ s₁.heap.objs.size := let ⟨o, ho, _⟩ := hl; Nat.ne_of_lt (Heap.lt_size ho)
  have hLI : env.locals ≠ s₁.heap.objs.size := Nat.ne_of_lt hNs.lt
  refine ⟨_, _, _, _, _, _, m, rfl, Walks.list hh s₁.heap.objs.size l hlI vs.toArray, by simpa using hz, ⟨⟨_, Heap.get?_push_size _ rfl, rfl, rfl⟩, hl.push _⟩, ?_, by simpa using hLI, hNs.at' fun o e => Heap.get?_push_of_some _ e, ⟨?_, ?_⟩, ?_⟩
  · intro b hb
    simp only [Heap.size_push, List.mem_cons, List.not_mem_nil, or_false] at hb ⊢
    rcases hb with rfl | rfl
    · exact Nat.lt_succ_self _
    · exact Nat.lt_succ_of_lt (let ⟨o, ho, _⟩ := hl; Heap.lt_size ho)
  · intro C i v s₃ m₃ E' hC hP hn hv hk htk
    have hvm : v ∈ vs := by
      obtain ⟨hi, e⟩ := Array.getElem?_eq_some_iff.mp hP
      rw [← e]; simp
    obtain ⟨k, t, b, a, n, rfl, g⟩ := hpair v hvm
    have hp : firstIs s.heap f (.ref a) = f k := by unfold firstIs; rw [← hs₁, keyAt_of ⟨a, n, rfl, g⟩]
    rw [hp]
    have kk : ∀ b o, s₁.heap.get? b = some o → s₃.heap.get? b = some o := fun b o e => hk b o (by simpa using Nat.ne_of_lt (Heap.lt_size e)) (Heap.get?_push_of_some _ e)
    have g₃ := kk _ _ g
    refine wpAny_tests_one (a_test ?_ hm)
    refine wpAny_Subscript_Constant_late (wpAny_Name (wpAny_loadName_local (by simp [compEnvC, relabel, hkind]) (lookup_relabel_local hx) hn hv ?_) hd)
    refine wpAny_Constant_int ?_
    refine ⟨"tuple", _, slot_tuple_getitem.lookup, ⟨_, g₃, rfl⟩, ?_⟩
    refine getItem_tuple (j := 0) ⟨_, g₃, rfl, _, rfl⟩ (by decide) (by decide) (by rfl) (by rfl) ?_
    have z := hr C k t { s₃ with toks := s₃.toks + 1 } E' (Nat.le_trans (by rw [Heap.size_push]; exact Nat.le_succ _) hC) kk
    refine wpAny_mono z (fun b s₄ z => wpAny_mono z (fun c s₅ z => wpAny_mono z (fun ok s₆ z => ?_) fun _ _ e => e) fun _ _ e => e) fun _ _ e => e
    obtain ⟨e, h', tk, rfl, k'⟩ := z
    exact ⟨e, h', tk, rfl, k'⟩
  · intro C i v s₃ m₃ E' hC hP hpv hn hv hk htk
    refine wpAny_Name (wpAny_loadName_local (by simp [compEnvC, relabel, hkind]) (lookup_relabel_local hx) hn hv ?_) hd
    exact ⟨rfl, _, _, rfl, fun _ _ e => e⟩
  · intro D h' tk ys vs' hD hl' hpl hlen hP hF hn hk
    have e : vs' = vs := by
      refine List.ext_getElem (by simpa using hlen) fun i h1 h2 => ?_
      have := hP i vs'[i] (List.getElem?_eq_getElem h1)
      simpa [List.getElem?_eq_getElem h2] using this.symm
    have ey := paired_eq hF
    rw [e] at ey
    obtain ⟨n, hn'⟩ := hpl
    have k₁ : ∀ b o, b ≠ env.locals → s₁.heap.get? b = some o → h'.get? b = some o := fun b o hb e => hk b o hb (by simpa using Nat.ne_of_lt (Heap.lt_size e)) (Heap.get?_push_of_some _ e)
    refine hQ D h' tk n ?_ (by rw [← ey]; exact hn') hn k₁
    cases q : s₁.heap.get? D with
    | none => rfl
    | some o => have := Heap.get?_push_of_some { cls := .type "list_iterator", data := .fields #[.ref l, .int 0 0] } q; exact absurd (this.symm.trans hD) (by simp)
end
end Mine
end
section -- G18
open PySem PySem.W PyProof.Rows PySem.Calls
set_option maxRecDepth 100000
namespace Mine
section
variable {prog : Program} {w : World} {A : Around} {E : Value → Shared → Prop} {s : Shared} {env : Env}
/-- what a for over a pair of items asks, from the pair on -/
def TwoTurns (prog : Program) (w : World) (A : Around) (env : Env) (target : Expr) (body : List Stmt) (v1 v2 : Value) (Q : Flow → Shared → Prop) (D : Addr) (s₁ : Shared) : Prop :=
  ∀ H1 : Heap, (∀ b o, s₁.heap.get? b = some o → H1.get? b = some o) → H1.IsTupleIter s₁.heap.objs.size D 1 →
    wpAny (model prog w) A (assign target env v1) (fun _ s₂ => wpAny (model prog w) A (execs body env) (fun f s₃ => f = .next ∧ s₃.heap.IsTupleIter s₁.heap.objs.size D 1 ∧ s₃.heap.IsTuple D #[v1, v2] ∧
      ∀ H4 : Heap, H4.IsTupleIter s₁.heap.objs.size D 2 → Heap.SameBut s₁.heap.objs.size s₃.heap H4 →
        wpAny (model prog w) A (assign target env v2) (fun _ s₅ => wpAny (model prog w) A (execs body env) (fun f s₆ => f = .next ∧ s₆.heap.IsTupleIter s₁.heap.objs.size D 2 ∧ s₆.heap.IsTuple D #[v1, v2] ∧
          ∀ H7 : Heap, Heap.ExtBut s₁.heap.objs.size s₆.heap H7 → Q .next { s₆ with heap := H7 }) (fun _ _ => False) s₅) (fun _ _ => False) { s₃ with heap := H4 }) (fun _ _ => False) s₂) (fun _ _ => False) { s₁ with heap := H1 }
theorem g_ForTwo {x : Str} {px pos : Pos} {iter : Expr} {body : List Stmt} {Q : Flow → Shared → Prop} (hh : A.handled = none)
    (h : wpAny (model prog w) A (eval iter env) (fun xv s₁ => Stop (∃ (D : Addr) (n : Nat) (v1 v2 : Value), xv = .ref D ∧ s₁.heap.get? D = some { cls := .type "tuple", data := .seq #[v1, v2] n } ∧ TwoTurns prog w A env (.Name x px) body v1 v2 Q D s₁)) (fun _ _ => False) s)
    (hs : ∀ x, foldedSetIterable iter env x = pure x := by intro _; rfl) : wpG (model prog w) A (exec (.For (.Name x px) iter body [] pos) env) Q (fun _ _ => False) s := by
  refine g_For (wpAny_mono h (fun xv s₁ h₁ => ?_) fun _ _ e => e) hs
  obtain ⟨D, n, v1, v2, rfl, hD, turn⟩ := h₁
  have hT : s₁.heap.IsTuple D #[v1, v2] := ⟨_, hD, rfl, n, rfl⟩
  have hDI : D ≠ s₁.heap.objs.size := Nat.ne_of_lt (Heap.lt_size hD)
  refine wpAny_pyIter_tuple hT ?_
  have hit0 : (s₁.heap.push { cls := .type "tuple_iterator", data := .fields #[.ref D, .int 0 0] }).IsTupleIter s₁.heap.objs.size D 0 := ⟨_, Heap.get?_push_size _ rfl, rfl, rfl⟩
  refine g_forLoop (fun n s' => (n = 2 ∧ s' = { s₁ with heap := s₁.heap.push { cls := .type "tuple_iterator", data := .fields #[.ref D, .int 0 0] } }) ∨
      (n = 1 ∧ s'.heap.IsTupleIter s₁.heap.objs.size D 1 ∧ s'.heap.IsTuple D #[v1, v2] ∧
        ∀ H4 : Heap, H4.IsTupleIter s₁.heap.objs.size D 2 → Heap.SameBut s₁.heap.objs.size s'.heap H4 →
        wpAny (model prog w) A (assign (.Name x px) env v2) (fun _ s₅ => wpAny (model prog w) A (execs body env) (fun f s₆ => f = .next ∧ s₆.heap.IsTupleIter s₁.heap.objs.size D 2 ∧ s₆.heap.IsTuple D #[v1, v2] ∧
          ∀ H7 : Heap, Heap.ExtBut s₁.heap.objs.size s₆.heap H7 → Q .next { s₆ with heap := H7 }) (fun _ _ => False) s₅) (fun _ _ => False) { s' with heap := H4 }) ∨
      (n = 0 ∧ s'.heap.IsTupleIter s₁.heap.objs.size D 2 ∧ s'.heap.IsTuple D #[v1, v2] ∧ ∀ H7 : Heap, Heap.ExtBut s₁.heap.objs.size s'.heap H7 → Q .next { s' with heap := H7 })) ?_ 2 (.inl ⟨rfl, rfl⟩)
  rintro n s' (⟨rfl, rfl⟩ | ⟨rfl, hit, ht, hq⟩ | ⟨rfl, hit, ht, hq⟩)
  · refine wpAny_pyNext_tuple_item hit0 (hT.push _) (by rfl) fun h' hit' hs' => ?_
    have k : ∀ b o, s₁.heap.get? b = some o → h'.get? b = some o := fun b o e => hs'.extBut b o (Nat.ne_of_lt (Heap.lt_size e)) (Heap.get?_push_of_some _ e)
    refine wpAny_mono (turn h' k hit') (fun _ s₂ h₂ => lift (wpAny_mono h₂ (fun f s₃ h₃ => ?_) fun _ _ e => e)) fun _ _ e => e
    obtain ⟨rfl, a, b, c⟩ := h₃
    exact ⟨1, by decide, .inr (.inl ⟨rfl, a, b, c⟩)⟩
  · refine wpAny_pyNext_tuple_item hit ht (by rfl) fun h' hit' hs' => ?_
    refine wpAny_mono (hq h' hit' hs') (fun _ s₂ h₂ => lift (wpAny_mono h₂ (fun f s₃ h₃ => ?_) fun _ _ e => e)) fun _ _ e => e
    obtain ⟨rfl, a, b, c⟩ := h₃
    exact ⟨0, by decide, .inr (.inr ⟨rfl, a, b, c⟩)⟩
  · exact wpAny_pyNext_tuple_end hh hit ht (by rfl) fun h' he => hq h' he
/-- a name told, its value in good contexts -/
theorem g_AssignName {x : Str} {pos' pos : Pos} {value : Expr} {Q : Flow → Shared → Prop} {M : Model} (h : wpG M A (eval value env) (fun v s₁ => wpAny M A (storeName env x v) (fun _ s₂ => Q .next s₂) E s₁) E s)
    (hs : swapsWith value (some (.Name x pos')) pos.line env = pure false) : wpG M A (exec (.Assign [.Name x pos'] value pos) env) Q E s := by
  have e : exec (.Assign [.Name x pos'] value pos) env = (do
      standAt pos
      if ← swapsWith value (some (.Name x pos')) pos.line env then
        evalThenUse value env (assign (.Name x pos') env)
        return .next
      let v ← eval value env
      standAt pos'
      bindName env x v
      pure .next) := rfl
  rw [e, hs]
  exact g_at (g_bind (g_pure (g_bind (g_mono h (fun v s₁ h₁ => g_at (g_bind (lift (wpAny_bindName (wpAny_mono h₁ (fun _ _ q => g_pure q) fun _ _ e => e))))) fun _ _ e => e))))
end
end Mine
end
section -- L2t
open PySem PySem.W PyProof.Rows PySem.Calls
set_option maxRecDepth 100000
namespace Mine
theorem lays_sub (S : List (Str × D)) (x sx : Addr) : List.Sublist ((laysS S x sx).map (·.1)) keysAll := by
  unfold laysS planB planE planE2 planE1 planF1 planBB
  by_cases h1 : (schS S == ("http" : Str)) = true
  · have h2 : (schS S == ("https" : Str)) = false := by rw [beq_iff_eq.mp h1]; decide
    rw [if_pos h1, h2]
    split
    · exact (by decide : List.Sublist (keys4 ++ keysCD ++ keyU ++ keyP) keysAll)
    · exact (by decide : List.Sublist (keys4 ++ keys2 ++ keysCD ++ keyU ++ keyP) keysAll)
  · rw [if_neg h1]
    split <;> split
    · exact (by decide : List.Sublist (keys4 ++ keysCD ++ keyU ++ keyP) keysAll)
    · exact (by decide : List.Sublist (keys4 ++ keysCD ++ keyU) keysAll)
    · exact (by decide : List.Sublist (keys4 ++ keys2 ++ keysCD ++ keyU ++ keyP) keysAll)
    · exact (by decide : List.Sublist (keys4 ++ keys2 ++ keysCD ++ keyU) keysAll)
theorem keys_sd {α : Type} (S : List (Str × α)) (k : Str) (d : α) : ∀ y ∈ (sd S k d).map (·.1), y ∈ S.map (·.1) ∨ y = k := by
  intro y hy
  unfold sd at hy
  split at hy
  · exact .inl hy
  · rw [List.map_append, List.mem_append] at hy
    exact hy.imp id fun h => by simpa using h
theorem keys_adds : ∀ (T S : List (Str × D)), ∀ y ∈ (adds S T).map (·.1), y ∈ S.map (·.1) ∨ y ∈ T.map (·.1)
  | [], S, y, h => .inl h
  | p :: T, S, y, h => by
    rcases keys_adds T (sd S p.1 p.2) y h with h | h
    · rcases keys_sd S p.1 p.2 y h with h | h
      · exact .inl h
      · exact .inr (h ▸ List.mem_cons_self)
    · exact .inr (List.mem_cons_of_mem _ h)
theorem setup_keys (S : List (Str × D)) (x sx : Addr) (hU : ∀ v, look S "wsgi.url_scheme" = some v → ∃ y, v = .str y) : ∀ k ∈ (setupS S x sx).map (·.1), k ∈ S.map (·.1) ∨ k ∈ keysAll := by
  rw [setup_adds S x sx hU]
  intro k hk
  exact (keys_adds _ _ _ hk).imp id fun h => (lays_sub S x sx).subset h
theorem setup_https (S : List (Str × D)) (x sx : Addr) (hU : ∀ v, look S "wsgi.url_scheme" = some v → ∃ y, v = .str y) : look (setupS S x sx) "HTTPS" = look S "HTTPS" := by
  rw [setup_adds S x sx hU]
  exact look_adds _ _ _ fun h => absurd ((lays_sub S x sx).subset h) (by decide)
theorem setup_scheme (S : List (Str × D)) (x sx : Addr) (hU : ∀ v, look S "wsgi.url_scheme" = some v → ∃ y, v = .str y) : ∀ v, look (setupS S x sx) "wsgi.url_scheme" = some v → ∃ y, v = .str y := by
  rw [setup_adds S x sx hU]
  have e : laysS S x sx = (laysA S ++ planB S ++ planC ++ laysD x sx) ++ ((("wsgi.url_scheme" : Str), D.str (guessS S)) :: (planE S ++ planE2 S)) := by
    unfold laysS laysU
    simp only [List.append_assoc, List.cons_append, List.nil_append]
  have nd := lays_nodup S x sx
  rw [e, List.map_append, List.map_cons] at nd
  obtain ⟨_, nb, nc⟩ := List.nodup_append.mp nd
  obtain ⟨n1, _⟩ := List.nodup_cons.mp nb
  intro v hv
  rw [e, look_adds_at _ _ _ _ _ (fun h => nc _ h _ List.mem_cons_self rfl) n1] at hv
  cases c : look S "wsgi.url_scheme" with
  | none => rw [c] at hv; exact ⟨_, (Option.some.inj hv).symm⟩
  | some d => rw [c] at hv; obtain ⟨y, rfl⟩ := hU d c; exact ⟨y, (Option.some.inj hv).symm⟩
end Mine
end
section -- L2k
open PySem PySem.W PyProof.Rows PySem.Calls
set_option maxRecDepth 100000
namespace Mine
set_option maxHeartbeats 4000000
def lawM (lN dE lR lS : Addr) (m₀ : Str → Option Value) : Str → Option Value := fun y => if y = "streams" then some (.ref lS) else if y = "row" then some (.ref lR) else if y = "environ" then some (.ref dE) else if y = "names" then some (.ref lN) else m₀ y
theorem lawM_congr {m : Str → Option Value} {lN dE lR lS : Addr} (h1 : m "streams" = some (.ref lS)) (h2 : m "row" = some (.ref lR)) (h3 : m "environ" = some (.ref dE)) (h4 : m "names" = some (.ref lN)) : ∀ y, m y = lawM lN dE lR lS m y := fun y => by
  unfold lawM
  split
  · next e => rw [e, h1]
  · split
    · next e => rw [e, h2]
    · split
      · next e => rw [e, h3]
      · split
        · next e => rw [e, h4]
        · rfl
def nameStrs : List Str := ["SERVER_NAME", "SERVER_PROTOCOL", "HTTP_HOST", "REQUEST_METHOD", "SCRIPT_NAME", "PATH_INFO", "wsgi.version", "wsgi.run_once", "wsgi.multithread", "wsgi.multiprocess", "wsgi.input", "wsgi.errors", "wsgi.url_scheme", "SERVER_PORT", "HTTPS"]
def NamesAre : List Value → List Str → Prop
  | [], [] => True
  | v :: r, k :: s => (∃ t, v = .str k t) ∧ NamesAre r s
  | _, _ => False
theorem NamesAre.get : ∀ {vs : List Value} {ks : List Str} {i : Nat} {v : Value}, NamesAre vs ks → vs[i]? = some v → ∃ k t, v = .str k t ∧ k ∈ ks
  | [], [], i, v, _, e => by simp at e
  | _ :: _, _ :: _, 0, v, ⟨⟨t, q⟩, _⟩, e => by simp at e; exact ⟨_, t, by rw [← e, q], .head _⟩
  | _ :: _, _ :: _, i + 1, v, ⟨_, r⟩, e => by
    obtain ⟨k, t, a, b⟩ := r.get (by simpa using e)
    exact ⟨k, t, a, .tail _ b⟩
  | [], _ :: _, _, _, h, _ => h.elim
  | _ :: _, [], _, _, h, _ => h.elim
theorem NamesAre.length : ∀ {vs : List Value} {ks : List Str}, NamesAre vs ks → vs.length = ks.length
  | [], [], _ => rfl
  | _ :: _, _ :: _, ⟨_, r⟩ => congrArg (· + 1) r.length
  | [], _ :: _, h => h.elim
  | _ :: _, [], h => h.elim
def cellO (o : Obj) : Prop := ∃ v, o.data = .cell v
abbrev kS (w : World) := strKind PySem.Challenge.rw_kn0093_02.row.prog w
/-- what holds of the heap before a turn: g the heap of the call, L its frame, It/lI the iterator and its list, i the turn -/
structure LawSt (w : World) (g : Heap) (L lN dE lS lI It : Addr) (vsN vsI : List Value) (i n : Nat) (h : Heap) (m₀ : Str → Option Value) (lR : Addr) (oE oI o4 o3 o2 o1 : Obj) (nR nS : Nat) (kvs : List (Str × Value)) (items vsS : List Value) (S Sr : List (Str × D)) : Prop where
  fr : Fr g L h (lawM lN dE lR lS m₀)
  news : News g L h [(It, oI), (lI, listO vsI.toArray 0), (lS, listO vsS.toArray nS), (lR, listO items.toArray nR), (dE, oE), (lN, listO vsN.toArray 0), (L + 1 + 1 + 1 + 1, o4), (L + 1 + 1 + 1, o3), (L + 1 + 1, o2), (L + 1, o1)]
  it : h.IsListIter It lI i
  ile : i ≤ vsI.length
  dict : oE.IsDictOf (strKind PySem.Challenge.rw_kn0093_02.row.prog w) kvs
  rel : Rel (At h) kvs S
  row : RowOf (At h) h items Sr
  rlen : items.length ≤ 15
  strm : ∀ v ∈ vsS, ∃ a C dx, v = .ref a ∧ h.get? a = some (instObj C dx)
  slen : vsS.length ≤ n
  keys : ∀ k ∈ S.map (·.1), k ∈ nameStrs
  hh : ∀ x, look S "HTTPS" = some x → ∃ y, x = .str y
  hu : ∀ x, look S "wsgi.url_scheme" = some x → ∃ y, x = .str y
  c4 : cellO o4
  c3 : cellO o3
  c2 : cellO o2
  ne : lR ≠ lN ∧ lR ≠ dE ∧ lR ≠ lS ∧ lR ≠ It ∧ lR ≠ lI ∧ lR ≠ L + 1 + 1 + 1 + 1 ∧ lR ≠ L + 1 + 1 + 1 ∧ lR ≠ L + 1 + 1
def LawInv (w : World) (g : Heap) (L lN dE lS lI It : Addr) (vsN vsI : List Value) (i : Nat) (h : Heap) : Prop :=
  ∃ (m₀ : Str → Option Value) (lR : Addr) (oE oI o4 o3 o2 o1 : Obj) (nR nS : Nat) (kvs : List (Str × Value)) (items vsS : List Value) (S : List (Str × D)),
    LawSt w g L lN dE lS lI It vsN vsI i (2 * i) h m₀ lR oE oI o4 o3 o2 o1 nR nS kvs items vsS S S
theorem nodup_len {α : Type} [DecidableEq α] : ∀ {l M : List α}, l.Nodup → (∀ x ∈ l, x ∈ M) → l.length ≤ M.length
  | [], _, _, _ => Nat.zero_le _
  | a :: l, M, hn, hs => by
    obtain ⟨h1, h2⟩ := List.nodup_cons.mp hn
    have ha := hs a (.head _)
    have := nodup_len (l := l) (M := M.erase a) h2 fun x hx => (List.mem_erase_of_ne (fun e : x = a => h1 (e ▸ hx))).mpr (hs x (.tail _ hx))
    rw [List.length_erase_of_mem ha] at this
    have := List.length_pos_of_mem ha
    rw [List.length_cons]; omega
section
variable {w : World} {g : Heap} {L lN dE lS lI It : Addr} {vsN vsI : List Value} {i n : Nat} {h : Heap} {m₀ : Str → Option Value} {lR : Addr} {oE oI o4 o3 o2 o1 : Obj} {nR nS : Nat} {kvs : List (Str × Value)} {items vsS : List Value} {S Sr : List (Str × D)}
theorem LawSt.nodup (x : LawSt w g L lN dE lS lI It vsN vsI i n h m₀ lR oE oI o4 o3 o2 o1 nR nS kvs items vsS S Sr) : (S.map (·.1)).Nodup := by
  obtain ⟨_, _, _, _, _, _, q⟩ := x.dict
  exact x.rel.keys ▸ q
theorem LawSt.len (x : LawSt w g L lN dE lS lI It vsN vsI i n h m₀ lR oE oI o4 o3 o2 o1 nR nS kvs items vsS S Sr) : S.length ≤ 15 := by
  have := nodup_len x.nodup x.keys
  rw [List.length_map] at this
  exact this
theorem dict_len {prog : Program} {o : Obj} {P : Addr → Obj → Prop} (hd : o.IsDictOf (strKind prog w) kvs) (r : Rel P kvs S) (hk : ∀ k ∈ S.map (·.1), k ∈ nameStrs) : S.length ≤ 15 := by
  obtain ⟨_, _, _, _, _, _, q⟩ := hd
  have := nodup_len (r.keys ▸ q) hk
  rw [List.length_map] at this
  exact this
theorem LawSt.klen (x : LawSt w g L lN dE lS lI It vsN vsI i n h m₀ lR oE oI o4 o3 o2 o1 nR nS kvs items vsS S Sr) : kvs.length ≤ 15 := x.rel.length ▸ x.len
end
noncomputable section
/- the law's own text, read off the written part -/
def fnAt (a : Addr) (P : Params) : Option FuncData := match (hd.heap_39 P).lookup a with
  | some ⟨_, _, .func fd, _⟩ => some fd
  | _ => none
def stmtsAt (a : Addr) (P : Params) : List Stmt := match fnAt a P with
  | some fd => (match fd.body with
    | .stmts b => b
    | _ => [])
  | none => []
def scopeAt (a : Addr) (P : Params) : Scope := match fnAt a P with
  | some fd => fd.scope
  | none => default
def forBody : List Stmt → List Stmt
  | [] => []
  | .For _ _ b _ _ :: _ => b
  | _ :: r => forBody r
def nthS : List Stmt → Nat → Stmt
  | a :: _, 0 => a
  | _ :: r, n + 1 => nthS r n
  | [], _ => .Pass default
def turnS (P : Params) (k : Nat) : Stmt := nthS (forBody (stmtsAt 602 P)) k
def thenB : Stmt → List Stmt
  | .If _ b _ _ => b
  | _ => []
def elseB : Stmt → List Stmt
  | .If _ _ b _ => b
  | _ => []
end
section
variable {w : World} {g : Heap} {L lN dE lS lI It : Addr} {vsN vsI : List Value} {i n : Nat} {h : Heap} {m₀ : Str → Option Value} {lR : Addr} {oE oI o4 o3 o2 o1 : Obj} {nR nS : Nat} {kvs : List (Str × Value)} {items vsS : List Value} {S Sr : List (Str × D)}
theorem iter_notGood {h : Heap} {I l : Addr} {i : Nat} (x : h.IsListIter I l i) : ∀ o, h.get? I = some o → ¬ goodO o := fun o e t => by
  obtain ⟨o', ho, hc, hd⟩ := x
  rw [ho] at e; cases e
  rcases t with ⟨q, _⟩ | ⟨C, dx, rfl⟩
  · exact absurd (hc.symm.trans q) (by decide)
  · cases hd
/-- all that is alive, told -/
theorem LawSt.open (x : LawSt w g L lN dE lS lI It vsN vsI i n h m₀ lR oE oI o4 o3 o2 o1 nR nS kvs items vsS S Sr) : ∃ rest : List (Addr × Obj),
    News g L h ((It, oI) :: (lI, listO vsI.toArray 0) :: (lS, listO vsS.toArray nS) :: (lR, listO items.toArray nR) :: (dE, oE) :: (lN, listO vsN.toArray 0) :: (L + 1 + 1 + 1 + 1, o4) :: (L + 1 + 1 + 1, o3) :: (L + 1 + 1, o2) :: (L + 1, o1) :: rest) ∧
    ((∀ p ∈ rest, p.1 ≠ dE) ∧ (∀ p ∈ rest, p.1 ≠ lS) ∧ (∀ p ∈ rest, p.1 ≠ L + 1 + 1 + 1 + 1) ∧ (∀ p ∈ rest, p.1 ≠ L + 1 + 1 + 1) ∧ (∀ p ∈ rest, p.1 ≠ L + 1 + 1)) ∧
    (∀ h' m', Fr g L h' m' → (∀ p ∈ rest, h'.get? p.1 = some p.2) → Kept h h') := by
  obtain ⟨rest, NR, hl, hall⟩ := ledger_all g h L [It, lI, lS, lR, dE, lN, L + 1 + 1 + 1 + 1, L + 1 + 1 + 1, L + 1 + 1]
  have ne : ∀ a ∈ [It, lI, lS, lR, dE, lN, L + 1 + 1 + 1 + 1, L + 1 + 1 + 1, L + 1 + 1], ∀ p ∈ rest, p.1 ≠ a := fun a ha p hp e => hl p hp (e ▸ ha)
  refine ⟨rest, fun p hp => ?_, ⟨ne _ (by simp), ne _ (by simp), ne _ (by simp), ne _ (by simp), ne _ (by simp)⟩, fun h' m' F' N' => keep_rest x.fr F' N' hall fun b o hb e => ?_⟩
  · rcases List.mem_append.mp (show p ∈ [(It, oI), (lI, listO vsI.toArray 0), (lS, listO vsS.toArray nS), (lR, listO items.toArray nR), (dE, oE), (lN, listO vsN.toArray 0), (L + 1 + 1 + 1 + 1, o4), (L + 1 + 1 + 1, o3), (L + 1 + 1, o2), (L + 1, o1)] ++ rest from hp) with hp | hp
    · exact x.news p hp
    · exact NR p hp
  · have get : ∀ p, p ∈ [(It, oI), (lI, listO vsI.toArray 0), (lS, listO vsS.toArray nS), (lR, listO items.toArray nR), (dE, oE), (lN, listO vsN.toArray 0), (L + 1 + 1 + 1 + 1, o4), (L + 1 + 1 + 1, o3), (L + 1 + 1, o2), (L + 1, o1)] → h.get? p.1 = some p.2 := fun p hp => (x.news p hp).1
    simp only [List.mem_cons, List.not_mem_nil, or_false] at hb get
    rcases hb with rfl | rfl | rfl | rfl | rfl | rfl | rfl | rfl | rfl
    · exact iter_notGood x.it _ e
    · rw [get (b, listO vsI.toArray 0) (by simp)] at e; cases e; exact list_notGood
    · rw [get (b, listO vsS.toArray nS) (by simp)] at e; cases e; exact list_notGood
    · rw [get (b, listO items.toArray nR) (by simp)] at e; cases e; exact list_notGood
    · rw [get (b, oE) (by simp)] at e; cases e; exact dict_notGood x.dict
    · rw [get (b, listO vsN.toArray 0) (by simp)] at e; cases e; exact list_notGood
    · rw [get (_, o4) (by simp)] at e; cases e; obtain ⟨v, q⟩ := x.c4; exact cell_notGood q
    · rw [get (_, o3) (by simp)] at e; cases e; obtain ⟨v, q⟩ := x.c3; exact cell_notGood q
    · rw [get (_, o2) (by simp)] at e; cases e; obtain ⟨v, q⟩ := x.c2; exact cell_notGood q
theorem LawSt.open2 (x : LawSt w g L lN dE lS lI It vsN vsI i n h m₀ lR oE oI o4 o3 o2 o1 nR nS kvs items vsS S Sr) : ∃ rest : List (Addr × Obj),
    News g L h ((It, oI) :: (lI, listO vsI.toArray 0) :: (lS, listO vsS.toArray nS) :: (lR, listO items.toArray nR) :: (dE, oE) :: (lN, listO vsN.toArray 0) :: (L + 1 + 1 + 1 + 1, o4) :: (L + 1 + 1 + 1, o3) :: (L + 1 + 1, o2) :: (L + 1, o1) :: rest) ∧
    ((∀ p ∈ rest, p.1 ≠ dE) ∧ (∀ p ∈ rest, p.1 ≠ lS) ∧ (∀ p ∈ rest, p.1 ≠ L + 1 + 1 + 1 + 1) ∧ (∀ p ∈ rest, p.1 ≠ L + 1 + 1 + 1) ∧ (∀ p ∈ rest, p.1 ≠ L + 1 + 1)) ∧
    (∀ h' m', Fr g L h' m' → (∀ p ∈ rest, h'.get? p.1 = some p.2) → Kept h h') ∧
    (∀ h' m' (ch : List Addr), Fr g L h' m' → (∀ p ∈ rest, h'.get? p.1 = some p.2) → (∀ p ∈ [(It, oI), (lI, listO vsI.toArray 0), (lS, listO vsS.toArray nS), (lR, listO items.toArray nR), (dE, oE), (lN, listO vsN.toArray 0), (L + 1 + 1 + 1 + 1, o4), (L + 1 + 1 + 1, o3), (L + 1 + 1, o2)], p.1 ∉ ch → h'.get? p.1 = some p.2) →
      ∀ b o, h.get? b = some o → b ≠ L → b ∉ ch → h'.get? b = some o) := by
  obtain ⟨rest, NR, hl, hall⟩ := ledger_all g h L [It, lI, lS, lR, dE, lN, L + 1 + 1 + 1 + 1, L + 1 + 1 + 1, L + 1 + 1]
  have ne : ∀ a ∈ [It, lI, lS, lR, dE, lN, L + 1 + 1 + 1 + 1, L + 1 + 1 + 1, L + 1 + 1], ∀ p ∈ rest, p.1 ≠ a := fun a ha p hp e => hl p hp (e ▸ ha)
  have get : ∀ p, p ∈ [(It, oI), (lI, listO vsI.toArray 0), (lS, listO vsS.toArray nS), (lR, listO items.toArray nR), (dE, oE), (lN, listO vsN.toArray 0), (L + 1 + 1 + 1 + 1, o4), (L + 1 + 1 + 1, o3), (L + 1 + 1, o2), (L + 1, o1)] → h.get? p.1 = some p.2 := fun p hp => (x.news p hp).1
  refine ⟨rest, fun p hp => ?_, ⟨ne _ (by simp), ne _ (by simp), ne _ (by simp), ne _ (by simp), ne _ (by simp)⟩, fun h' m' F' N' => keep_rest x.fr F' N' hall fun b o hb e => ?_, fun h' m' ch F' N' hc b o e hb hn => ?_⟩
  · rcases List.mem_append.mp (show p ∈ [(It, oI), (lI, listO vsI.toArray 0), (lS, listO vsS.toArray nS), (lR, listO items.toArray nR), (dE, oE), (lN, listO vsN.toArray 0), (L + 1 + 1 + 1 + 1, o4), (L + 1 + 1 + 1, o3), (L + 1 + 1, o2), (L + 1, o1)] ++ rest from hp) with hp | hp
    · exact x.news p hp
    · exact NR p hp
  · simp only [List.mem_cons, List.not_mem_nil, or_false] at hb get
    rcases hb with rfl | rfl | rfl | rfl | rfl | rfl | rfl | rfl | rfl
    · exact iter_notGood x.it _ e
    · rw [get (b, listO vsI.toArray 0) (by simp)] at e; cases e; exact list_notGood
    · rw [get (b, listO vsS.toArray nS) (by simp)] at e; cases e; exact list_notGood
    · rw [get (b, listO items.toArray nR) (by simp)] at e; cases e; exact list_notGood
    · rw [get (b, oE) (by simp)] at e; cases e; exact dict_notGood x.dict
    · rw [get (b, listO vsN.toArray 0) (by simp)] at e; cases e; exact list_notGood
    · rw [get (_, o4) (by simp)] at e; cases e; obtain ⟨v, q⟩ := x.c4; exact cell_notGood q
    · rw [get (_, o3) (by simp)] at e; cases e; obtain ⟨v, q⟩ := x.c3; exact cell_notGood q
    · rw [get (_, o2) (by simp)] at e; cases e; obtain ⟨v, q⟩ := x.c2; exact cell_notGood q
  · cases c : g.get? b with
    | some o' =>
      have := x.fr.keep _ _ c
      rw [e] at this; cases this
      exact F'.keep _ _ c
    | none =>
      by_cases m : b ∈ [It, lI, lS, lR, dE, lN, L + 1 + 1 + 1 + 1, L + 1 + 1 + 1, L + 1 + 1]
      · have hc' : ∀ p ∈ [(It, oI), (lI, listO vsI.toArray 0), (lS, listO vsS.toArray nS), (lR, listO items.toArray nR), (dE, oE), (lN, listO vsN.toArray 0), (L + 1 + 1 + 1 + 1, o4), (L + 1 + 1 + 1, o3), (L + 1 + 1, o2)], p.1 = b → h'.get? b = some o := fun p hp q => by
          have h1 := hc p hp (q ▸ hn)
          have h2 := get p (by simp only [List.mem_cons, List.not_mem_nil, or_false] at hp ⊢; rcases hp with hp | hp | hp | hp | hp | hp | hp | hp | hp <;> simp [hp])
          rw [q] at h1 h2
          rw [e] at h2; cases h2
          exact h1
        simp only [List.mem_cons, List.not_mem_nil, or_false] at m
        rcases m with m | m | m | m | m | m | m | m | m
        · exact hc' (It, oI) (by simp) m.symm
        · exact hc' (lI, listO vsI.toArray 0) (by simp) m.symm
        · exact hc' (lS, listO vsS.toArray nS) (by simp) m.symm
        · exact hc' (lR, listO items.toArray nR) (by simp) m.symm
        · exact hc' (dE, oE) (by simp) m.symm
        · exact hc' (lN, listO vsN.toArray 0) (by simp) m.symm
        · exact hc' (L + 1 + 1 + 1 + 1, o4) (by simp) m.symm
        · exact hc' (L + 1 + 1 + 1, o3) (by simp) m.symm
        · exact hc' (L + 1 + 1, o2) (by simp) m.symm
      · exact N' (b, o) (hall _ _ e hb c m)
theorem LawSt.more {n' : Nat} (x : LawSt w g L lN dE lS lI It vsN vsI i n h m₀ lR oE oI o4 o3 o2 o1 nR nS kvs items vsS S Sr) (hn : n ≤ n') : LawSt w g L lN dE lS lI It vsN vsI i n' h m₀ lR oE oI o4 o3 o2 o1 nR nS kvs items vsS S Sr :=
  { x with slen := Nat.le_trans x.slen hn }
/-- the state behind some steps, told anew -/
theorem LawSt.next (x : LawSt w g L lN dE lS lI It vsN vsI i n h m₀ lR oE oI o4 o3 o2 o1 nR nS kvs items vsS S Sr) {n' : Nat} {h' : Heap} {m' : Str → Option Value} {lR' : Addr} {oE' o4' o3' o2' o1' : Obj} {nR' nS' : Nat} {kvs' : List (Str × Value)} {items' vsS' : List Value} {S' Sr' : List (Str × D)}
    (F' : Fr g L h' m') (e1 : m' "streams" = some (.ref lS)) (e2 : m' "row" = some (.ref lR')) (e3 : m' "environ" = some (.ref dE)) (e4 : m' "names" = some (.ref lN))
    (N' : News g L h' [(It, oI), (lI, listO vsI.toArray 0), (lS, listO vsS'.toArray nS'), (lR', listO items'.toArray nR'), (dE, oE'), (lN, listO vsN.toArray 0), (L + 1 + 1 + 1 + 1, o4'), (L + 1 + 1 + 1, o3'), (L + 1 + 1, o2'), (L + 1, o1')])
    (hd : oE'.IsDictOf (strKind PySem.Challenge.rw_kn0093_02.row.prog w) kvs') (hr : Rel (At h') kvs' S') (hrow : RowOf (At h') h' items' Sr') (hrl : items'.length ≤ 15) (hs : ∀ v ∈ vsS', ∃ a C dx, v = .ref a ∧ h'.get? a = some (instObj C dx)) (hl : vsS'.length ≤ n')
    (hk : ∀ k ∈ S'.map (·.1), k ∈ nameStrs) (hh : ∀ x, look S' "HTTPS" = some x → ∃ y, x = .str y) (hu : ∀ x, look S' "wsgi.url_scheme" = some x → ∃ y, x = .str y) (c4 : cellO o4') (c3 : cellO o3') (c2 : cellO o2')
    (ne : lR' ≠ lN ∧ lR' ≠ dE ∧ lR' ≠ lS ∧ lR' ≠ It ∧ lR' ≠ lI ∧ lR' ≠ L + 1 + 1 + 1 + 1 ∧ lR' ≠ L + 1 + 1 + 1 ∧ lR' ≠ L + 1 + 1) :
    LawSt w g L lN dE lS lI It vsN vsI i n' h' m' lR' oE' oI o4' o3' o2' o1' nR' nS' kvs' items' vsS' S' Sr' where
  fr := frCongr F' (lawM_congr e1 e2 e3 e4)
  news := N'
  it := x.it.at fun o e => by
    rw [(x.news _ (.head _)).1] at e; cases e
    exact (N' _ (.head _)).1
  ile := x.ile
  dict := hd
  rel := hr
  row := hrow
  rlen := hrl
  strm := hs
  slen := hl
  keys := hk
  hh := hh
  hu := hu
  c4 := c4
  c3 := c3
  c2 := c2
  ne := ne
theorem LawSt.fresh (x : LawSt w g L lN dE lS lI It vsN vsI i n h m₀ lR oE oI o4 o3 o2 o1 nR nS kvs items vsS S Sr) {D : Addr} (hD : h.get? D = none) :
    D ≠ lN ∧ D ≠ dE ∧ D ≠ lS ∧ D ≠ It ∧ D ≠ lI ∧ D ≠ L + 1 + 1 + 1 + 1 ∧ D ≠ L + 1 + 1 + 1 ∧ D ≠ L + 1 + 1 := by
  have q : ∀ p ∈ [(It, oI), (lI, listO vsI.toArray 0), (lS, listO vsS.toArray nS), (lR, listO items.toArray nR), (dE, oE), (lN, listO vsN.toArray 0), (L + 1 + 1 + 1 + 1, o4), (L + 1 + 1 + 1, o3), (L + 1 + 1, o2), (L + 1, o1)], D ≠ p.1 := fun p hp e => by
    have := (x.news p hp).1
    rw [← e, hD] at this; cases this
  exact ⟨q (lN, listO vsN.toArray 0) (by simp), q (dE, oE) (by simp), q (lS, listO vsS.toArray nS) (by simp), q (It, oI) (by simp), q (lI, listO vsI.toArray 0) (by simp), q (L + 1 + 1 + 1 + 1, o4) (by simp), q (L + 1 + 1 + 1, o3) (by simp), q (L + 1 + 1, o2) (by simp)⟩
theorem LawSt.same (x : LawSt w g L lN dE lS lI It vsN vsI i n h m₀ lR oE oI o4 o3 o2 o1 nR nS kvs items vsS S Sr) {h' : Heap} {m' : Str → Option Value}
    (F' : Fr g L h' m') (e1 : m' "streams" = some (.ref lS)) (e2 : m' "row" = some (.ref lR)) (e3 : m' "environ" = some (.ref dE)) (e4 : m' "names" = some (.ref lN))
    (N' : News g L h' [(It, oI), (lI, listO vsI.toArray 0), (lS, listO vsS.toArray nS), (lR, listO items.toArray nR), (dE, oE), (lN, listO vsN.toArray 0), (L + 1 + 1 + 1 + 1, o4), (L + 1 + 1 + 1, o3), (L + 1 + 1, o2), (L + 1, o1)])
    (k : Kept h h') : LawSt w g L lN dE lS lI It vsN vsI i n h' m' lR oE oI o4 o3 o2 o1 nR nS kvs items vsS S Sr :=
  x.next F' e1 e2 e3 e4 N' x.dict (x.rel.to k) (x.row.to k) x.rlen (fun v hv => let ⟨a, C, dx, e, q⟩ := x.strm v hv; ⟨a, C, dx, e, k _ _ good_inst q⟩) x.slen x.keys x.hh x.hu x.c4 x.c3 x.c2 x.ne
end
theorem newsSub {g h : Heap} {L : Addr} {l l' : List (Addr × Obj)} (N : News g L h l) (k : ∀ p ∈ l', p ∈ l) : News g L h l' := fun p hp => N p (k p hp)
end Mine
end
section -- L2m
open PySem PySem.W PyProof.Rows PySem.Calls
set_option maxRecDepth 100000
namespace Mine
set_option maxHeartbeats 4000000
local macro_rules | `(tactic| k_room) => `(tactic| ((try simp only [depth_mark, depth_under_make, depth_under_kw, depth_in1, depth_deeper, depth_caller]); (first | ((show _ + _ < 1000); omega) | ((show _ < 1000); omega))))
local macro_rules | `(tactic| walk_at "call type:list") => `(tactic| (k_here; refine Stop.out ?_))
local macro_rules | `(tactic| walk_at "compareOp NotEq ref ref") => `(tactic| (k_here; refine Stop.out ?_))
theorem listO.isL {h : Heap} {a : Addr} {its : Array Value} {n : Nat} (e : h.get? a = some (listO its n)) : h.IsList a its := ⟨_, e, rfl, _, rfl⟩
noncomputable abbrev lawE (w : World) (L : Addr) : Env := envOfC "law" (scopeAt 602 w.params) L 602 (.ref 601)
theorem s3_walk {w : World} {p : Program} {loose : List Str} {mg mb : Str → Option Value} {mean : ExcName → Option Value} {s : Shared} {Q : Flow → Shared → Prop} {E : Value → Shared → Prop} {L lN dE lS lI It : Addr} {vsN vsI : List Value} {i : Nat} {h : Heap} {tk : Nat}
    (X : (hd.heap_39 w.params).In s.heap) (T : Top p loose mean mg mb s.heap) (lo : (dE == sysModules) = false) (hi : LawInv w s.heap L lN dE lS lI It vsN vsI i h)
    (post : ∀ h' tk', LawInv w s.heap L lN dE lS lI It vsN vsI i h' → Q .next { s with heap := h', toks := tk' }) :
    wpAny (model PySem.Challenge.rw_kn0093_02.row.prog w) (callerA.deeper (lawE w L)) (exec (turnS w.params 2) (lawE w L)) Q E { s with heap := h, toks := tk } := by
  unfold lawE
  obtain ⟨sc, hsc⟩ : ∃ sc, sc = scopeAt 602 w.params := ⟨_, rfl⟩
  rw [← hsc]
  conv at hsc => rhs; whnf
  subst hsc
  obtain ⟨st, hst⟩ : ∃ st, st = turnS w.params 2 := ⟨_, rfl⟩
  rw [← hst]
  conv at hst => rhs; whnf
  subst hst
  obtain ⟨m₀, lR, oE, oI, o4, o3, o2, o1, nR, nS, kvs, items, vsS, S, hS⟩ := hi
  have F := hS.fr
  obtain ⟨rest, N, ⟨hr1, hr2, hr3, hr4, hr5⟩, hK⟩ := hS.open
  have hD := hS.dict
  have TR := topRead_of T
  k_steps
  rename News s.heap L _ _ => N1
  rename Fr s.heap L _ _ => F1
  have k1 := hK _ _ F1 (fun p hp => (N1 p (by simp [hp])).1)
  refine Stop.mk (list_itemsR rfl ⟨_, (N1 _ (.head _)).1, rfl, rfl⟩ (N1 (dE, oE) (by k_mem)).1 hD (hS.rel.to k1) (by have := hS.klen; omega) fun h2 tk2 B xs c hk2 hB hBn hxs => ?_)
  dsimp only at hk2 hBn ⊢
  have F2 := F1.keeps hk2
  have N2 := newsAdd F1 (N1.grown hk2) hB hBn
  have k2 := k1.trans (.of hk2)
  clear F N F1 N1
  k_steps
  refine Stop.mk (rows_ne (listO.isL (N2.get (.head _))) (listO.isL (N2.get (show (lR, listO items.toArray nR) ∈ _ by k_mem))) hxs (hS.row.to k2) hk2 (fun _ _ e => e) (Nat.le_of_ble_eq_true rfl) _ _ _ _ ?_)
  k_steps
  all_goals
    rename Fr s.heap L _ _ => F3
    rename News s.heap L _ _ => N3
    exact post _ _ ⟨_, _, _, _, _, _, _, _, _, _, _, _, _, _, hS.same F3 rfl rfl rfl rfl (newsSub N3 (by repeat (first | exact List.forall_mem_nil _ | refine List.forall_mem_cons.mpr ⟨by k_mem, ?_⟩))) k2⟩
end Mine
end
section -- L2n
open PySem PySem.W PyProof.Rows PySem.Calls
set_option maxRecDepth 100000
namespace Mine
set_option maxHeartbeats 4000000
local macro_rules | `(tactic| k_room) => `(tactic| ((try simp only [depth_mark, depth_under_make, depth_under_kw, depth_in1, depth_deeper, depth_caller]); (first | ((show _ + _ < 1000); omega) | ((show _ < 1000); omega))))
local macro_rules | `(tactic| walk_at "eval ListComp") => `(tactic| (k_here; refine Stop.out ?_))
local macro_rules | `(tactic| walk_at "call type:type") => `(tactic| (k_here; refine Stop.out ?_))
local macro_rules | `(tactic| walk_at "compareOp NotEq ref ref") => `(tactic| (k_here; refine Stop.out ?_))
theorem rcne_use {prog : Program} {w : World} {A : Around} {E : Value → Shared → Prop} {s : Shared} {a b : Value} {k : Bool} {Q : Value → Shared → Prop} (h : PySem.SeqAt.RcNeAt A s a b k) (q : Q (.bool k) s) : wpAny (model prog w) A (compareOp .NotEq a b) Q E s := h _ _ _ _ q
theorem type_dvH {prog : Program} {w : World} {A : Around} {E : Value → Shared → Prop} {s : Shared} {g : Heap} {v : Value} {d : D} {Q : Value → Shared → Prop} (hv : DV (At g) v d) (h : Kept g s.heap) (hq : ∀ y, TyD g d y → Q y s) : wpAny (model prog w) A (call (.type "type") [v]) Q E s :=
  type_dv (P := At s.heap) (hv.kept h) (fun _ _ e => e) fun y hy => hq y (by
    cases d <;> first | exact hy | skip
    obtain ⟨o, e, rfl⟩ := hy
    cases v <;> first | exact hv.elim | skip
    obtain ⟨rfl, C, dx, k⟩ := hv
    rw [h _ _ good_inst k] at e; cases e
    exact ⟨_, k, rfl⟩)
theorem Paired.idx {α β : Type} {F : α → β → Prop} : ∀ {l : List α} {m : List β} {i : Nat} {a : α} {b : β}, Paired F l m → l[i]? = some a → m[i]? = some b → F a b
  | _, _, 0, a, b, .cons h _, e, e' => by
    simp only [List.getElem?_cons_zero, Option.some.injEq] at e e'
    subst e; subst e'; exact h
  | _, _, i + 1, a, b, .cons _ t, e, e' => Paired.idx (i := i) t (by simpa using e) (by simpa using e')
  | _, _, _, _, _, .nil, e, _ => by simp at e
theorem types_same {h : Heap} {items ys ys2 : List Value} {kvs : List (Str × Value)} {S : List (Str × D)} (row : RowOf (At h) h items S) (rel : Rel (At h) kvs S) (hlen : ys.length = items.toArray.size)
    (hF : ∀ (i : Nat) (v y : Value), items.toArray[i]? = some v → ys[i]? = some y → ∃ a b d, PairAt h v a b ∧ DV (At h) b d ∧ TyD h d y) (hP : Paired (fun v y => ∃ d, DV (At h) v d ∧ TyD h d y) (kvs.map (·.2)) ys2) : ys = ys2 := by
  have l1 : ys.length = S.length := by rw [hlen, List.size_toArray, row.length]
  have l2 : ys2.length = S.length := by rw [paired_len hP, List.length_map, rel.length]
  have det : ∀ (a : Addr) (o o' : Obj), At h a o → At h a o' → o = o' := fun a o o' e e' => Option.some.inj (e.symm.trans e')
  refine List.ext_getElem (l1.trans l2.symm) fun i h1 h2 => ?_
  have hi : i < items.length := by rw [row.length]; omega
  have hk : i < kvs.length := by rw [rel.length]; omega
  obtain ⟨p, hp, hv⟩ := row.at (i := i) (v := items[i]) (List.getElem?_eq_getElem hi)
  obtain ⟨a, b, d, hab, hd, hy⟩ := hF i items[i] ys[i] (by simp [hi]) (List.getElem?_eq_getElem h1)
  obtain ⟨t, rfl, hd'⟩ := hv.same hab
  obtain ⟨d2, hd2, hy2⟩ := Paired.idx (i := i) (a := kvs[i].2) (b := ys2[i]) hP (by rw [List.getElem?_map, List.getElem?_eq_getElem hk]; rfl) (List.getElem?_eq_getElem h2)
  obtain ⟨_, hd3⟩ := rel.idx (i := i) (k := kvs[i].1) (x := kvs[i].2) (List.getElem?_eq_getElem hk) hp
  rw [DV.det det hd hd'] at hy
  rw [DV.det det hd2 hd3] at hy2
  exact hy.same hy2
theorem s4_walk {w : World} {p : Program} {loose : List Str} {mg mb : Str → Option Value} {mean : ExcName → Option Value} {s : Shared} {Q : Flow → Shared → Prop} {E : Value → Shared → Prop} {L lN dE lS lI It : Addr} {vsN vsI : List Value} {i : Nat} {h : Heap} {tk : Nat}
    (X : (hd.heap_39 w.params).In s.heap) (T : Top p loose mean mg mb s.heap) (lo : (dE == sysModules) = false) (hi : LawInv w s.heap L lN dE lS lI It vsN vsI i h)
    (post : ∀ h' tk', LawInv w s.heap L lN dE lS lI It vsN vsI i h' → Q .next { s with heap := h', toks := tk' }) :
    wpAny (model PySem.Challenge.rw_kn0093_02.row.prog w) (callerA.deeper (lawE w L)) (exec (turnS w.params 3) (lawE w L)) Q E { s with heap := h, toks := tk } := by
  unfold lawE
  obtain ⟨sc, hsc⟩ : ∃ sc, sc = scopeAt 602 w.params := ⟨_, rfl⟩
  rw [← hsc]
  conv at hsc => rhs; whnf
  subst hsc
  obtain ⟨st, hst⟩ : ∃ st, st = turnS w.params 3 := ⟨_, rfl⟩
  rw [← hst]
  conv at hst => rhs; whnf
  subst hst
  obtain ⟨m₀, lR, oE, oI, o4, o3, o2, o1, nR, nS, kvs, items, vsS, S, hS⟩ := hi
  have F := hS.fr
  obtain ⟨rest, N, ⟨hr1, hr2, hr3, hr4, hr5⟩, hK⟩ := hS.open
  have hD := hS.dict
  have TR := topRead_of T
  k_steps
  refine Stop.mk (ListComp_pairsS (fun _ v y => ∃ a b d, PairAt h v a b ∧ DV (At h) b d ∧ TyD h d y) (fun _ _ _ _ _ x => x) rfl (by with_unfolding_all rfl) (by decide) rfl (by decide) (by rfl) (by rfl) (by decide) ?_)
  k_steps
  refine Stop.mk ⟨lR, items.toArray, rfl, listO.isL (N.get (show (lR, listO items.toArray nR) ∈ _ by k_mem)), ?_, hS.row.pairs, ?_, ?_⟩
  · have := hS.rlen
    rw [List.size_toArray, sizeLine_eq]; omega
  · rintro C v a b s₃ m₃ E' hC hv hab hn ha hb hk ⟨h3, t3, rfl⟩
    dsimp only at hk hn ⊢
    have F7 := F.keeps hk
    have N7 := N.grown hk
    k_steps
    obtain ⟨j, hj, e⟩ := List.mem_iff_getElem.mp (by simpa using hv : v ∈ items)
    obtain ⟨pr, _, hpr⟩ := hS.row.at (i := j) (v := v) (by rw [List.getElem?_eq_getElem hj, e])
    obtain ⟨t, _, hdv⟩ := hpr.same hab
    exact Stop.mk (type_dvH hdv (.of hk) fun y hy => ⟨⟨a, b, _, hab, hdv, hy⟩, _, _, rfl, fun _ _ e => e⟩)
  intro B1 h2 tk2 ys hBn hpl hlen hF hk2
  dsimp only at hk2 hBn ⊢
  have F2 := F.keeps hk2
  obtain ⟨c, hB⟩ := hpl
  have N2 := newsAdd F (N.grown hk2) hB hBn
  have k2 : Kept h h2 := .of hk2
  clear F N
  k_steps
  refine Stop.mk (ListComp_values (knd := strKind _ w) (fun v y => ∃ d, DV (At h) v d ∧ TyD h d y) rfl (by with_unfolding_all rfl) (by decide) rfl (by decide) (by rfl) ?_)
  k_steps
  rename Fr s.heap L _ _ => F3
  rename News s.heap L _ _ => N3
  have k3 := hK _ _ F3 (fun p hp => (N3 p (by simp [hp])).1)
  refine Stop.mk ⟨_, dE, oE, kvs, rfl, ⟨_, (N3 _ (.head _)).1, rfl, rfl⟩, (N3 (dE, oE) (by k_mem)).1, hD, by have := hS.klen; rw [sizeLine_eq]; omega, ?_, ?_⟩
  · rintro C v ⟨h5, g5, d5, t5, os5⟩ m₃ E' hC ⟨j, k, hj⟩ hn hb hk
    dsimp only at hk hn ⊢
    have F7 := F3.keeps hk
    have N7 := N3.grown hk
    k_steps
    have hj' : j < S.length := by rw [← hS.rel.length]; exact (List.getElem?_eq_some_iff.mp hj).1
    obtain ⟨_, hdv⟩ := hS.rel.idx (i := j) hj (List.getElem?_eq_getElem hj')
    exact Stop.mk (type_dvH hdv (k3.trans (.of hk)) fun y hy => ⟨⟨_, hdv, hy⟩, _, _, rfl, fun _ _ e => e⟩)
  intro B2 h4 tk4 ys2 c2 hB2 hP hk4
  dsimp only at hk4 ⊢
  have F4 := F3.keeps hk4
  have N4 := N3.grown hk4
  have k4 := k3.trans (.of hk4)
  refine rcne_use (same_ne (listO.isL (N4.get (show (B1, listO ys.toArray c) ∈ _ by k_mem))) (listO.isL hB2) (types_same hS.row hS.rel hlen hF hP) (Nat.le_of_ble_eq_true rfl)) ?_
  clear F2 N2 F3 N3
  k_steps
  all_goals
    rename Fr s.heap L _ _ => F6
    rename News s.heap L _ _ => N6
    exact post _ _ ⟨_, _, _, _, _, _, _, _, _, _, _, _, _, _, hS.same F6 rfl rfl rfl rfl (newsSub N6 (by repeat (first | exact List.forall_mem_nil _ | refine List.forall_mem_cons.mpr ⟨by k_mem, ?_⟩))) k4⟩
end Mine
end
section -- L2p
open PySem PySem.W PyProof.Rows PySem.Calls
set_option maxRecDepth 100000
namespace Mine
set_option maxHeartbeats 4000000
local macro_rules | `(tactic| k_room) => `(tactic| ((try simp only [depth_mark, depth_under_make, depth_under_kw, depth_in1, depth_deeper, depth_caller]); (first | ((show _ + _ < 1000); omega) | ((show _ < 1000); omega))))
local macro_rules | `(tactic| walk_at "eval ListComp") => `(tactic| (k_here; refine Stop.out ?_))
local macro_rules | `(tactic| walk_at "exec Assign cons ListComp") => `(tactic| (k_here; refine Stop.out ?_))
local macro_rules | `(tactic| walk_at "subscriptTail") => `(tactic| (k_here; refine Stop.out ?_))
local macro_rules | `(tactic| k_all) => `(tactic| assumption)
local macro_rules | `(tactic| walk_at "compareOp In str ref") => `(tactic| (k_here; k_dflt (refine kda_in (knd := PySem.strKind _ _) (by k_asm) (by k_mem) (by k_asm) (by k_asm) (strKind_is _ _ _ _) _ (by assumption) ?_)))
local macro_rules | `(tactic| walk_at "delItem ref str") => `(tactic| (k_here; k_dflt (refine' kob_del (knd := PySem.strKind _ _) ?F ?N ?U ?d ?key ?l ?z ?_; (case F => k_asm); (case N => k_asm); (case U => k_updF); (case d => k_asm); (case key => exact strKind_is _ _ _ _); (case l => assumption); (case z => assumption)); intro h' o' F' N' d'; (try dsimp only at N')))
/-- the frame's own map in a turn -/
def turnM (x kd : Int) (tx tk : Tok) (m₀ : Str → Option Value) : Str → Option Value := fun y => if y = "kind" then some (.int kd tk) else if y = "x" then some (.int x tx) else m₀ y
theorem names_item {prog : Program} {w : World} {A : Around} {E : Value → Shared → Prop} {s : Shared} {value slice : PySem.Expr} {l : Addr} {vs : List Value} {k : Int} {u : Tok} {Q : Value → Shared → Prop}
    (hl : s.heap.IsList l vs.toArray) (hN : NamesAre vs nameStrs) (h0 : 0 ≤ k) (h1 : k < 15) (h : ∀ nm t, nm ∈ nameStrs → Q (.str nm t) s)
    (hs : subscripted slice false (.ref l) (.int k u) = operate [.ref l, .int k u] (getItem (.ref l) (.int k u)) := by with_unfolding_all rfl) :
    wpAny (model prog w) A (subscriptTail value slice (.ref l) (.int k u)) Q E s := by
  have hlen : vs.length = 15 := hN.length
  have hk : k.toNat < vs.length := by omega
  have hx : vs[k.toNat]? = some vs[k.toNat] := List.getElem?_eq_getElem hk
  obtain ⟨nm, t, e, hm⟩ := hN.get hx
  exact tail_any hl.typeIs slot_list_getitem.lookup (wpAny_getItem_list hl h0 (by omega) (by simpa using hx) (e ▸ h nm t hm)) hs

theorem a_nil {M : Model} {A : Around} {E : Value → Shared → Prop} {s : Shared} {env : Env} {Q : Flow → Shared → Prop} (h : Q .next s) : wpAny M A (execs [] env) Q E s := wpAny_pure h
theorem ne_str {prog : Program} {w : World} {A : Around} {E : Value → Shared → Prop} {s : Shared} {a b : Str} {t u : Tok} {Q : Bool → Shared → Prop} (h : Q (decide (a ≠ b)) s) : wpAny (model prog w) A (compareOp .NotEq (.str a t) (.str b u)) (fun c s' => wpAny (model prog w) A (truthy c) Q E s') E s := by
  refine rcne_use (PySem.SeqAt.RcNeAt.str_str _ _ _ _) (wpAny_truthy_bool ?_)
  have e : (!(a == b)) = decide (a ≠ b) := by by_cases q : a = b <;> simp [q]
  rw [e]; exact h
noncomputable abbrev k1B (w : World) : List Stmt := thenB (nthS (elseB (turnS w.params 1)) 0)
theorem k1_tail {w : World} {p : Program} {loose : List Str} {mg mb : Str → Option Value} {mean : ExcName → Option Value} {s : Shared} {Q : Flow → Shared → Prop} {E : Value → Shared → Prop} {L lN dE lS lI It : Addr} {vsN vsI : List Value} {i : Nat} {h : Heap} {tk : Nat}
    {m₀ : Str → Option Value} {lR : Addr} {oE oI o4 o3 o2 o1 : Obj} {nR nS n : Nat} {kvs : List (Str × Value)} {items vsS : List Value} {S : List (Str × D)} {nm : Str} {tn : Tok}
    (X : (hd.heap_39 w.params).In s.heap) (T : Top p loose mean mg mb s.heap)
    (hS : LawSt w s.heap L lN dE lS lI It vsN vsI i n h m₀ lR oE oI o4 o3 o2 o1 nR nS kvs items vsS (del S nm) S) (hn : n ≤ 2 * i) (d3 : o3.data = .cell (some (.str nm tn)))
    (post : ∀ h' tk', LawInv w s.heap L lN dE lS lI It vsN vsI i h' → Q .next { s with heap := h', toks := tk' }) :
    wpAny (model PySem.Challenge.rw_kn0093_02.row.prog w) (callerA.deeper (lawE w L)) (exec (nthS (k1B w) 2) (lawE w L)) Q E { s with heap := h, toks := tk } := by
  unfold lawE
  obtain ⟨sc, hsc⟩ : ∃ sc, sc = scopeAt 602 w.params := ⟨_, rfl⟩
  rw [← hsc]
  conv at hsc => rhs; whnf
  subst hsc
  obtain ⟨st, hst⟩ : ∃ st, st = nthS (k1B w) 2 := ⟨_, rfl⟩
  rw [← hst]
  conv at hst => rhs; whnf
  subst hst
  have F := hS.fr
  obtain ⟨rest, N, ⟨hr1, hr2, hr3, hr4, hr5⟩, hK⟩ := hS.open
  have TR := topRead_of T
  refine Assign_first (fun k => decide (k ≠ nm)) rfl (by with_unfolding_all rfl) (by with_unfolding_all rfl) (by decide) rfl (by decide) (by rfl) (by decide) (by with_unfolding_all rfl) rfl rfl ?_
  k_steps
  refine Stop.mk ⟨lR, items, _, rfl, rfl, F.ns, listO.isL (N.get (show (lR, listO items.toArray nR) ∈ _ by k_mem)), by have := hS.rlen; rw [sizeLine_eq]; omega, hS.row.firsts, ?_, ?_⟩
  · intro C k t s₃ E' hC hk
    dsimp only at hk
    refine wpAny_Name (wpAny_loadName_cell (c := L + 1 + 1 + 1) (v := .str nm tn) (by rfl) (by rfl) (by rfl) ⟨o3, hk _ _ (N (L + 1 + 1 + 1, o3) (by k_mem)).1, d3⟩ ?_) (by decide)
    exact ne_str ⟨rfl, _, _, rfl, fun _ _ e => e⟩
  · intro D h' tk' n' hD hDo hn' hk
    dsimp only at hD hk ⊢
    have F' := frNew F hn' hk
    have N' := newsNew N hk
    have k1 := keptNew F hk
    have row' := (RowOf.del (k := nm) hS.row).to k1
    refine post _ _ ⟨_, D, oE, oI, o4, o3, o2, o1, n', nS, kvs, _, vsS, del S nm, hS.next F' rfl rfl rfl rfl (fun q hq => ?_) hS.dict (hS.rel.to k1) row' (Nat.le_trans (List.length_filter_le _ _) hS.rlen) (fun v hv => let ⟨a, C, dx, e, q⟩ := hS.strm v hv; ⟨a, C, dx, e, k1 _ _ good_inst q⟩) (Nat.le_trans hS.slen hn) hS.keys hS.hh hS.hu hS.c4 hS.c3 hS.c2 (hS.fresh hD)⟩
    have nD : News s.heap L h' [(D, listO (items.filter (firstIs h fun k => decide (k ≠ nm))).toArray n')] := fun p hp => by
      obtain rfl := List.mem_singleton.mp hp
      refine ⟨hDo, fun e => ?_, ?_⟩
      · obtain ⟨oL, _, _, hL, _⟩ := F.ns
        rw [← (show D = L from e), hD] at hL; cases hL
      · cases c : s.heap.get? D with
        | none => rfl
        | some o => rw [F.keep _ _ c] at hD; cases hD
    simp only [List.mem_cons, List.not_mem_nil, or_false] at hq
    rcases hq with rfl | rfl | rfl | rfl | rfl | rfl | rfl | rfl | rfl | rfl
    all_goals first
      | exact nD _ (.head _)
      | exact N' _ (by simp)
theorem k1_walk {w : World} {p : Program} {loose : List Str} {mg mb : Str → Option Value} {mean : ExcName → Option Value} {s : Shared} {Q : Flow → Shared → Prop} {E : Value → Shared → Prop} {L lN dE lS lI It : Addr} {vsN vsI : List Value} {i : Nat} {h : Heap} {tk : Nat}
    {x kd : Int} {tx t1 : Tok} {m₀ : Str → Option Value} {lR : Addr} {oE oI o4 o3 o2 o1 : Obj} {nR nS n : Nat} {kvs : List (Str × Value)} {items vsS : List Value} {S : List (Str × D)}
    (X : (hd.heap_39 w.params).In s.heap) (T : Top p loose mean mg mb s.heap) (lo : (dE == sysModules) = false) (hN : NamesAre vsN nameStrs) (hO : @LT.lt Nat _ (L + 1 + 1 + 1 + 1) lN ∧ @LT.lt Nat _ lN dE ∧ @LT.lt Nat _ dE lS ∧ @LT.lt Nat _ lS lI ∧ @LT.lt Nat _ lI It)
    (hS : LawSt w s.heap L lN dE lS lI It vsN vsI i n h (turnM x kd tx t1 m₀) lR oE oI o4 o3 o2 o1 nR nS kvs items vsS S S) (hn : n ≤ 2 * i)
    (post : ∀ h' tk', LawInv w s.heap L lN dE lS lI It vsN vsI i h' → Q .next { s with heap := h', toks := tk' }) :
    wpAny (model PySem.Challenge.rw_kn0093_02.row.prog w) (callerA.deeper (lawE w L)) (execs (k1B w) (lawE w L)) Q E { s with heap := h, toks := tk } := by
  unfold lawE
  obtain ⟨sc, hsc⟩ : ∃ sc, sc = scopeAt 602 w.params := ⟨_, rfl⟩
  rw [← hsc]
  conv at hsc => rhs; whnf
  subst hsc
  obtain ⟨st, hst⟩ : ∃ st, st = k1B w := ⟨_, rfl⟩
  rw [← hst]
  conv at hst => rhs; whnf
  subst hst
  have F := hS.fr
  obtain ⟨rest, N, ⟨hr1, hr2, hr3, hr4, hr5⟩, hK⟩ := hS.open
  have hD := hS.dict
  have TR := topRead_of T
  obtain ⟨v4, d4⟩ := hS.c4
  obtain ⟨v3, d3⟩ := hS.c3
  obtain ⟨v2, d2⟩ := hS.c2
  obtain ⟨q1, q2, q3, q4, q5⟩ := hO
  obtain ⟨n1, n2, n3, n4, n5, n6, n7, n8⟩ := hS.ne
  k_steps
  refine Stop.mk (names_item (listO.isL (N.get (show (lN, listO vsN.toArray 0) ∈ _ by k_mem))) hN (Int.fmod_nonneg_of_pos _ (by decide)) (Int.fmod_lt_of_pos _ (by decide)) fun nm tn hnm => ?_)
  have hz : kvs.length ≤ sizeLine := by have := hS.klen; rw [sizeLine_eq]; omega
  have hu' : ∀ (k : Str) (z : D), look (del S nm) k = some z → look S k = some z := fun k z e => by
    rw [look_del] at e
    split at e
    · cases e
    · exact e
  cases c : look S nm with
  | none =>
    have c' : (valueAt kvs nm).isSome = false := by rw [valueAt_look, hS.rel.isSome, c]; rfl
    have hdl : del S nm = S := List.filter_eq_self.mpr fun q hq => by
      simp only [decide_eq_true_eq]
      intro e
      have : (look S nm).isSome = true := by rw [← any_look]; exact List.any_eq_true.mpr ⟨q, hq, by simpa using e⟩
      rw [c] at this; cases this
    k_steps
    rename Fr s.heap L _ _ => F1
    rename News s.heap L _ _ => N1
    rename _ = Data.cell (some (Value.str nm tn)) => d3'
    have k1 := hK _ _ F1 (fun p hp => (N1 p (by simp [hp])).1)
    refine Stop.mk (k1_tail (S := S) (nm := nm) X T (hS.next F1 rfl rfl rfl rfl (newsSub N1 (by repeat (first | exact List.forall_mem_nil _ | refine List.forall_mem_cons.mpr ⟨by k_mem, ?_⟩))) hS.dict (hdl.symm ▸ hS.rel.to k1) (hS.row.to k1) hS.rlen (fun v hv => let ⟨a, C, dx, e, q⟩ := hS.strm v hv; ⟨a, C, dx, e, k1 _ _ good_inst q⟩) hS.slen (hdl.symm ▸ hS.keys) (hdl.symm ▸ hS.hh) (hdl.symm ▸ hS.hu) hS.c4 ⟨_, d3'⟩ hS.c2 hS.ne) hn d3' fun h' tk' hi => ?_)
    exact a_nil (post _ _ hi)
  | some dv =>
    have c' : (valueAt kvs nm).isSome = true := by rw [valueAt_look, hS.rel.isSome, c]; rfl
    k_steps
    rename Fr s.heap L _ _ => F1
    rename News s.heap L _ _ => N1
    rename _ = Data.cell (some (Value.str nm tn)) => d3'
    rename Obj.IsDictOf _ _ (without _ _) => dE'
    have k1 := hK _ _ F1 (fun p hp => (N1 p (by simp [hp])).1)
    refine Stop.mk (k1_tail (S := S) (nm := nm) X T (hS.next F1 rfl rfl rfl rfl (newsSub N1 (by repeat (first | exact List.forall_mem_nil _ | refine List.forall_mem_cons.mpr ⟨by k_mem, ?_⟩))) dE' (hS.rel.to k1).del (hS.row.to k1) hS.rlen (fun v hv => let ⟨a, C, dx, e, q⟩ := hS.strm v hv; ⟨a, C, dx, e, k1 _ _ good_inst q⟩) hS.slen (fun k hk => hS.keys k (keys_del _ _ k hk)) (fun z e => hS.hh z (hu' _ z e)) (fun z e => hS.hu z (hu' _ z e)) hS.c4 ⟨_, d3'⟩ hS.c2 hS.ne) hn d3' fun h' tk' hi => ?_)
    exact a_nil (post _ _ hi)
end Mine
end
section -- L2q
open PySem PySem.W PyProof.Rows PySem.Calls
set_option maxRecDepth 100000
namespace Mine
set_option maxHeartbeats 4000000
local macro_rules | `(tactic| k_room) => `(tactic| ((try simp only [depth_mark, depth_under_make, depth_under_kw, depth_in1, depth_deeper, depth_caller]); (first | ((show _ + _ < 1000); omega) | ((show _ < 1000); omega))))
local macro_rules | `(tactic| walk_at "eval ListComp") => `(tactic| (k_here; refine Stop.out ?_))
local macro_rules | `(tactic| walk_at "exec Assign cons ListComp") => `(tactic| (k_here; refine Stop.out ?_))
local macro_rules | `(tactic| walk_at "subscriptTail") => `(tactic| (k_here; refine Stop.out ?_))
local macro_rules | `(tactic| walk_at "binaryOp Add ref ref") => `(tactic| (k_here; refine Stop.out ?_))
local macro_rules | `(tactic| k_all) => `(tactic| assumption)
local macro_rules | `(tactic| walk_at "compareOp In str ref") => `(tactic| (k_here; k_dflt (refine in_told (News.isList (by k_asm) (by news_mem)) (by with_reducible assumption) (by assumption) ?_)))
section
variable {prog : Program} {w : World} {A : Around} {E : Value → Shared → Prop} {s : Shared} {env : Env}
theorem Assign_pairsS {elt iter : Expr} {x x₂ y : Str} {px px₂ py tp : Pos} {tk1} {scope : Scope} {cl : List (Str × Addr)} {pos spos : Pos} {Q : Flow → Shared → Prop} (F : Heap → Value → Value → Prop) (hFm : TupMono F) (hh : A.handled = none)
    (hsw : swapsWith (.ListComp elt [⟨.Tuple [.Name x px, .Name x₂ px₂] tk1 tp, iter, [], 0⟩] scope pos) (some (.Name y py)) spos.line env = pure true)
    (hclos : closureFor scope env = pure cl) (hcell : ∀ y ∈ scope.names, y.2 ≠ .cell) (hkind : scope.kind = .function)
    (hnames : ∀ y ∈ scope.names, y.2 = .local → scope.names.lookup y.1 = some .local) (hx : scope.names.lookup x = some .local) (hx₂ : scope.names.lookup x₂ = some .local) (hxx : x ≠ x₂)
    (hy : env.kindOf y = some .local) (hp : (env.scope.kind == .class || (env.scope.kind == .module && env.locals != env.globals)) = false)
    (h : wpAny (model prog w) A (eval iter env) (fun xv s₁ => Stop (∃ l items m, xv = .ref l ∧ s₁.heap.IsList l items ∧ items.size ≤ sizeLine ∧ (∀ v ∈ items.toList, ∃ a b, PairAt s₁.heap v a b) ∧ s₁.heap.Ns env.locals m ∧ EltOn prog w A env scope cl x x₂ elt items F s₁ ∧
      (∀ (D : Addr) (h' : Heap) (tk : Tok) (ys : List Value), s₁.heap.objs.size ≤ D → h'.PlainList D ys.toArray → ys.length = items.size → (∀ (i : Nat) (v y : Value), items[i]? = some v → ys[i]? = some y → F h' v y) →
        h'.Ns env.locals (fun z => if z = y then some (.ref D) else m z) → (∀ b o, b ≠ env.locals → s₁.heap.get? b = some o → h'.get? b = some o) → Q .next { s₁ with heap := h', toks := tk }))) E s)
    (hs : ∀ x, foldedSetIterable iter env x = pure x := by intro _; rfl) :
    wpAny (model prog w) A (exec (.Assign [.Name y py] (.ListComp elt [⟨.Tuple [.Name x px, .Name x₂ px₂] tk1 tp, iter, [], 0⟩] scope pos) spos) env) Q E s :=
  Assign_pairs F hFm hh hsw hclos hcell hkind hnames hx hx₂ hxx hy hp h hs
end
theorem tup_K {prog : Program} {w : World} {A : Around} {E : Value → Shared → Prop} {s : Shared} {h₀ : Heap} {L : Addr} {m : Str → Option Value} {news : List (Addr × Obj)} {vs : List Value} {Q : Value → Shared → Prop} (F : Fr h₀ L s.heap m) (N : News h₀ L s.heap news)
    (h : ∀ (D : Addr) h', Fr h₀ L h' m → News h₀ L h' ((D, tupObj vs.toArray) :: news) → (∀ q ∈ news, q.1 < D) → (∀ b o, s.heap.get? b = some o → h'.get? b = some o) → Q (.ref D) { s with heap := h' }) (hz : vs.length ≤ 1000) :
    wpAny (model prog w) A (newTuple vs) Q E s :=
  wpAny_newTuple (h _ _ (F.push _) (News.push F N _) (fun q hq => Heap.lt_size (N q hq).1) fun b o e => Heap.get?_push_of_some _ e) (by rw [sizeLine_eq]; omega)
local macro_rules | `(tactic| walk_at "newTuple") => `(tactic| (k_here; k_dflt (refine' tup_K ?F ?N ?_ ?z; (case F => k_asm); (case N => k_asm); (case z => (simp; done))); intro D' h' F' N' l1 hkT; (try k_lt l1); (try k_sweep)))
theorem newFresh {g h h' : Heap} {L D : Addr} {m : Str → Option Value} {o : Obj} (F : Fr g L h m) (hD : h.objs.size ≤ D) (e : h'.get? D = some o) : h'.get? (D, o).1 = some (D, o).2 ∧ (D, o).1 ≠ L ∧ g.get? (D, o).1 = none := ⟨e, kdx_fresh F hD⟩
theorem addOne_K {prog : Program} {w : World} {A : Around} {E : Value → Shared → Prop} {s : Shared} {h₀ : Heap} {L lR b : Addr} {m : Str → Option Value} {news : List (Addr × Obj)} {items : List Value} {x : Value} {n n2 : Nat} {Q : Value → Shared → Prop} (F : Fr h₀ L s.heap m) (N : News h₀ L s.heap news)
    (hl : (lR, listO items.toArray n) ∈ news) (hb : (b, listO #[x] n2) ∈ news) (hz : items.length ≤ 100)
    (h : ∀ (D : Addr) h', Fr h₀ L h' m → News h₀ L h' ((D, listO (items ++ [x]).toArray 0) :: news) → (∀ b o, s.heap.get? b = some o → h'.get? b = some o) → s.heap.get? D = none → Q (.ref D) { s with heap := h' }) :
    wpAny (model prog w) A (binaryOp .Add (.ref lR) (.ref b)) Q E s := by
  have e : items.toArray ++ #[x] = (items ++ [x]).toArray := by simp
  refine PySem.P.add_list (N _ hl).1 (N _ hb).1 (h _ _ (F.push _) ?_ (fun b o e => Heap.get?_push_of_some _ e) ?_) (by simp [sizeLine_eq]; omega)
  · rw [e]; exact News.push F N _
  · cases c : s.heap.get? s.heap.objs.size with
    | none => rfl
    | some o => exact absurd (Heap.lt_size c) (Nat.lt_irrefl _)
theorem none_of_le {h h' : Heap} {D : Addr} (k : ∀ b o, h.get? b = some o → h'.get? b = some o) (l : h'.objs.size ≤ D) : h.get? D = none := by
  cases c : h.get? D with
  | none => rfl
  | some o => exact absurd (Heap.lt_size (k _ _ c)) (Nat.not_lt.mpr l)
/-- an item turned: the pair of that name gets the value, any other stays -/
def turnF (nm v : Str) (h : Heap) (x y : Value) : Prop := ∃ k t t' b c, PairAt h x (.str k t) b ∧ PairAt h y (.str k t') c ∧ ((k = nm ∧ ∃ u, c = .str v u) ∨ (k ≠ nm ∧ c = b))
theorem turnF_mono {nm v : Str} : TupMono (turnF nm v) := fun h h' x y k ⟨a, t, t', b, c, p, q, r⟩ => ⟨a, t, t', b, c, p.keep k, q.keep k, r⟩
theorem turnF_row {nm v : Str} {h h' : Heap} {items ys : List Value} {S : List (Str × D)} (row : RowOf (At h) h items S) (k : Kept h h') (hl : ys.length = items.toArray.size) (hF : ∀ (i : Nat) (x y : Value), items.toArray[i]? = some x → ys[i]? = some y → turnF nm v h' x y) (c : (look S nm).isSome = true) : RowOf (At h') h' ys (put S nm (.str v)) := by
  have e : put S nm (.str v) = S.map (fun p => if p.1 = nm then (p.1, D.str v) else p) := by unfold put; rw [if_pos c]
  rw [e]
  have hl' : ys.length = S.length := by rw [hl, List.size_toArray, row.length]
  refine RowOf.of (by rw [List.length_map, hl']) fun i y p hy hp => ?_
  rw [List.getElem?_map] at hp
  obtain ⟨q, hq, rfl⟩ := Option.map_eq_some_iff.mp hp
  have hi : i < items.length := by rw [row.length]; exact (List.getElem?_eq_some_iff.mp hq).1
  obtain ⟨q', hq', hv⟩ := row.at (i := i) (v := items[i]) (List.getElem?_eq_getElem hi)
  rw [hq] at hq'; cases hq'
  obtain ⟨a, t, t', b, d, p1, p2, r⟩ := hF i items[i] y (by simp [hi]) hy
  obtain ⟨t2, e2, dv⟩ := (hv.kept k.tup k).same p1
  cases e2
  rcases r with ⟨rfl, u, rfl⟩ | ⟨ne, rfl⟩
  · rw [if_pos rfl]; exact ⟨t', _, p2, rfl⟩
  · rw [if_neg ne]; exact ⟨t', _, p2, dv⟩
noncomputable abbrev k0B (w : World) : List Stmt := elseB (nthS (elseB (turnS w.params 1)) 0)
theorem k0_row {w : World} {p : Program} {loose : List Str} {mg mb : Str → Option Value} {mean : ExcName → Option Value} {s : Shared} {Q : Flow → Shared → Prop} {E : Value → Shared → Prop} {L lN dE lS lI It : Addr} {vsN vsI : List Value} {i : Nat} {h : Heap} {tk : Nat}
    {m₀ : Str → Option Value} {lR : Addr} {oE oI o4 o3 o2 o1 : Obj} {nR nS n : Nat} {kvs : List (Str × Value)} {items vsS : List Value} {S : List (Str × D)} {nm v : Str} {tn tv : Tok}
    (X : (hd.heap_39 w.params).In s.heap) (T : Top p loose mean mg mb s.heap)
    (hS : LawSt w s.heap L lN dE lS lI It vsN vsI i n h m₀ lR oE oI o4 o3 o2 o1 nR nS kvs items vsS (put S nm (.str v)) S) (hn : n ≤ 2 * i) (d3 : o3.data = .cell (some (.str nm tn))) (d2 : o2.data = .cell (some (.str v tv)))
    (post : ∀ h' tk', LawInv w s.heap L lN dE lS lI It vsN vsI i h' → Q .next { s with heap := h', toks := tk' }) :
    wpAny (model PySem.Challenge.rw_kn0093_02.row.prog w) (callerA.deeper (lawE w L)) (exec (nthS (k0B w) 4) (lawE w L)) Q E { s with heap := h, toks := tk } := by
  unfold lawE
  obtain ⟨sc, hsc⟩ : ∃ sc, sc = scopeAt 602 w.params := ⟨_, rfl⟩
  rw [← hsc]
  conv at hsc => rhs; whnf
  subst hsc
  obtain ⟨st, hst⟩ : ∃ st, st = nthS (k0B w) 4 := ⟨_, rfl⟩
  rw [← hst]
  conv at hst => rhs; whnf
  subst hst
  have F := hS.fr
  obtain ⟨rest, N, ⟨hr1, hr2, hr3, hr4, hr5⟩, hK⟩ := hS.open
  have TR := topRead_of T
  obtain ⟨n1, n2, n3, n4, n5, n6, n7, n8⟩ := hS.ne
  have hil := hS.rlen
  k_steps
  refine Stop.mk (ListComp_pairsS keyF keyF_mono rfl (by with_unfolding_all rfl) (by decide) rfl (by decide) (by rfl) (by rfl) (by decide) ?_)
  k_steps
  refine Stop.mk ⟨lR, items.toArray, rfl, listO.isL (N.get (show (lR, listO items.toArray nR) ∈ _ by k_mem)), by rw [List.size_toArray, sizeLine_eq]; omega, hS.row.pairs, elt_key (by rfl) rfl, ?_⟩
  intro tl h3 tk3 ys hTn hpl hlen hF hk3
  dsimp only at hTn hk3 ⊢
  have hTold : ToldIs ys S := ToldIs.of (hS.row.to (.of hk3)) hlen hF
  obtain ⟨nT, hT⟩ := hpl
  have F3 := F.keeps hk3
  have N3 := newsAdd F (N.grown hk3) hT hTn
  have k3 : Kept h h3 := .of hk3
  clear hlen hF F N
  cases c : look S nm with
  | none =>
    have c' : (look S nm).isSome = false := by rw [c]; rfl
    k_steps
    rename Fr s.heap L _ _ => F5
    rename News s.heap L _ _ => N5
    have k5 := hK _ _ F5 (fun p hp => (N5 p (by simp [hp])).1)
    refine Stop.mk (addOne_K F5 N5 (show (lR, listO items.toArray nR) ∈ _ by k_mem) (.head _) (by omega) fun D h6 F6 N6 hk6 hD6 => ?_)
    dsimp only at hk6 hD6 ⊢
    have hne := (hS.same F5 rfl rfl rfl rfl (newsSub N5 (by repeat (first | exact List.forall_mem_nil _ | refine List.forall_mem_cons.mpr ⟨by k_mem, ?_⟩))) k5).fresh hD6
    clear F5 N5
    k_steps
    rename Fr s.heap L _ _ => F7
    rename News s.heap L _ _ => N7
    have k7 := hK _ _ F7 (fun p hp => (N7 p (by simp [hp])).1)
    have row7 := RowOf.put_app (k := nm) (d := .str v) (hS.row.to k7) ⟨tn, _, ⟨_, _, rfl, (N7 _ (.tail _ (.tail _ (.head _)))).1⟩, (show DV (At _) (.str v tv) (.str v) from rfl)⟩ c
    exact post _ _ ⟨_, D, oE, oI, o4, o3, o2, o1, 0, nS, kvs, _, vsS, put S nm (.str v), hS.next F7 rfl rfl rfl rfl (newsSub N7 (by repeat (first | exact List.forall_mem_nil _ | refine List.forall_mem_cons.mpr ⟨by k_mem, ?_⟩))) hS.dict (hS.rel.to k7) row7 (by rw [row7.length]; exact dict_len hS.dict hS.rel hS.keys) (fun v hv => let ⟨a, C, dx, e, q⟩ := hS.strm v hv; ⟨a, C, dx, e, k7 _ _ good_inst q⟩) (Nat.le_trans hS.slen hn) hS.keys hS.hh hS.hu hS.c4 hS.c3 hS.c2 hne⟩
  | some dv =>
    have c' : (look S nm).isSome = true := by rw [c]; rfl
    k_steps
    refine Stop.mk (Assign_pairsS (turnF nm v) turnF_mono rfl (by with_unfolding_all rfl) (by with_unfolding_all rfl) (by decide) rfl (by decide) (by rfl) (by rfl) (by decide) rfl rfl ?_)
    k_steps
    refine Stop.mk ⟨lR, items.toArray, _, rfl, listO.isL (N3.get (show (lR, listO items.toArray nR) ∈ _ by k_mem)), by rw [List.size_toArray, sizeLine_eq]; omega, (hS.row.to k3).pairs, F3.ns, ?_, ?_⟩
    · rintro C x a b s₃ m₃ E' hC hv hab hn ha hb hk ⟨h5, t5, rfl⟩
      dsimp only at hk hn ⊢
      have F7 := F3.keeps hk
      have N7 := N3.grown hk
      obtain ⟨j, hj, e⟩ := List.mem_iff_getElem.mp (by simpa using hv : x ∈ items)
      obtain ⟨pr, _, hpr⟩ := (hS.row.to k3).at (i := j) (v := x) (by rw [List.getElem?_eq_getElem hj, e])
      obtain ⟨ta, rfl, hdv⟩ := hpr.same hab
      k_steps
      all_goals
        rename Fr s.heap L _ _ => F9
        rename News s.heap L _ _ => N9
        rename ∀ (b : Addr) (o : Obj), Heap.get? h5 b = some o → _ => hkT
        rename (pr.fst == nm) = _ => hc
        dsimp only at F9 N9 hkT ⊢
        first
        | exact ⟨_, _, rfl, hkT⟩
        | refine ⟨_, _, _, _, _, hab.keep (.of fun b o e => hkT _ _ (hk _ _ e)), ⟨_, _, rfl, (N9 _ (.head _)).1⟩, ?_⟩
      · exact .inl ⟨by simpa using hc, _, rfl⟩
      · exact .inr ⟨by simpa using hc, rfl⟩
    · intro D h4 tk4 ys4 hD4 hpl4 hlen4 hF4 hn4 hk4
      dsimp only at hD4 hk4 hn4 ⊢
      have F4 := frNew F3 hn4 hk4
      have N4 := newsNew N3 hk4
      have k4 := k3.trans (keptNew F3 hk4)
      have row4 := turnF_row hS.row k4 hlen4 hF4 c'
      obtain ⟨n4', hD⟩ := hpl4
      have k4' : ∀ b o, h.get? b = some o → b ≠ L → h4.get? b = some o := fun b o e hb => hk4 _ _ hb (hk3 _ _ e)
      refine a_nil (post _ _ ⟨_, D, oE, oI, o4, o3, o2, o1, n4', nS, kvs, ys4, vsS, put S nm (.str v), hS.next F4 rfl rfl rfl rfl (fun q hq => ?_) hS.dict (hS.rel.to k4) row4 (by rw [hlen4, List.size_toArray]; exact hil) (fun v hv => let ⟨a, C, dx, e, q⟩ := hS.strm v hv; ⟨a, C, dx, e, k4 _ _ good_inst q⟩) (Nat.le_trans hS.slen hn) hS.keys hS.hh hS.hu hS.c4 hS.c3 hS.c2 (hS.fresh (none_of_le hk3 hD4))⟩)
      have nD := newFresh F3 hD4 hD
      simp only [List.mem_cons, List.not_mem_nil, or_false] at hq
      rcases hq with rfl | rfl | rfl | rfl | rfl | rfl | rfl | rfl | rfl | rfl
      all_goals first
        | exact nD
        | exact N4 _ (by simp)
end Mine
end
section -- L2r
open PySem PySem.W PyProof.Rows PySem.Calls
set_option maxRecDepth 100000
namespace Mine
set_option maxHeartbeats 4000000
local macro_rules | `(tactic| k_room) => `(tactic| ((try simp only [depth_mark, depth_under_make, depth_under_kw, depth_in1, depth_deeper, depth_caller]); (first | ((show _ + _ < 1000); omega) | ((show _ < 1000); omega))))
local macro_rules | `(tactic| walk_at "subscriptTail") => `(tactic| (k_here; refine Stop.out ?_))
local macro_rules | `(tactic| walk_at "setItem ref str") => `(tactic| (k_here; refine Stop.out ?_))
local macro_rules | `(tactic| k_all) => `(tactic| assumption)
section
variable {prog : Program} {w : World} {A : Around} {E : Value → Shared → Prop} {s : Shared}
theorem strs_item {value slice : PySem.Expr} {t : Addr} {items : List Value} {k : Int} {u : Tok} {Q : Value → Shared → Prop} {h₀ : Heap} {L : Addr} {news : List (Addr × Obj)} (N : News h₀ L s.heap news) (hm : (t, tupObj items.toArray) ∈ news) (hstr : ∀ y ∈ items, ∃ x t, y = .str x t)
    (h0 : 0 ≤ k) (h1 : k < items.length) (hb : items.length ≤ 1000) (h : ∀ v t', Q (.str v t') s)
    (hs : subscripted slice false (.ref t) (.int k u) = operate [.ref t, .int k u] (getItem (.ref t) (.int k u)) := by with_unfolding_all rfl) :
    wpAny (model prog w) A (subscriptTail value slice (.ref t) (.int k u)) Q E s := by
  have ht : IsTup s.heap t items.toArray := ⟨_, (N _ hm).1, rfl, _, rfl⟩
  have hk : k.toNat < items.length := by omega
  obtain ⟨x, t', e⟩ := hstr items[k.toNat] (List.getElem_mem hk)
  refine tail_any ht.typeIs slot_tuple_getitem.lookup (getItem_tuple (j := k.toNat) ht (by omega) (by omega) ?_ (by simpa using List.getElem?_eq_getElem hk) (e ▸ h x t')) hs
  have e1 : (if k < 0 then k + (items.toArray.size : Int) else k) = k := if_neg (by omega)
  simp only [seqIndex?, e1]
  rw [if_pos (by simp only [List.size_toArray, Bool.and_eq_true, decide_eq_true_eq]; omega)]
theorem abc_item {value slice : PySem.Expr} {k : Int} {t u : Tok} {Q : Value → Shared → Prop} (h0 : 0 ≤ k) (h1 : k < 3) (h : ∀ v t', Q (.str v t') { s with toks := s.toks + 1 })
    (hs : subscripted slice false (.str "abc" t) (.int k u) = operate [.str "abc" t, .int k u] (getItem (.str "abc" t) (.int k u)) := by with_unfolding_all rfl) :
    wpAny (model prog w) A (subscriptTail value slice (.str "abc" t) (.int k u)) Q E s := by
  obtain ⟨c, hc⟩ : ∃ c, (seqIndex? k ("abc" : Str).length).bind (("abc" : Str).cps[·]?) = some c := by
    obtain rfl | rfl | rfl : k = 0 ∨ k = 1 ∨ k = 2 := by omega
    all_goals exact ⟨_, rfl⟩
  exact tail_any (typeIs_str _ _ _) slot_str_getitem.lookup (getItem_str (by simp; omega) hc (h _ _)) hs
end
theorem LawSt.cells {w : World} {g : Heap} {L lN dE lS lI It : Addr} {vsN vsI : List Value} {i n : Nat} {h : Heap} {m₀ : Str → Option Value} {lR : Addr} {oE oI o4 o3 o2 o1 o4' o3' o2' o1' : Obj} {nR nS : Nat} {kvs : List (Str × Value)} {items vsS : List Value} {S Sr : List (Str × D)}
    (x : LawSt w g L lN dE lS lI It vsN vsI i n h m₀ lR oE oI o4 o3 o2 o1 nR nS kvs items vsS S Sr) {h' : Heap} {m' : Str → Option Value}
    (F' : Fr g L h' m') (e1 : m' "streams" = some (.ref lS)) (e2 : m' "row" = some (.ref lR)) (e3 : m' "environ" = some (.ref dE)) (e4 : m' "names" = some (.ref lN))
    (N' : News g L h' [(It, oI), (lI, listO vsI.toArray 0), (lS, listO vsS.toArray nS), (lR, listO items.toArray nR), (dE, oE), (lN, listO vsN.toArray 0), (L + 1 + 1 + 1 + 1, o4'), (L + 1 + 1 + 1, o3'), (L + 1 + 1, o2'), (L + 1, o1')])
    (k : Kept h h') (c4 : cellO o4') (c3 : cellO o3') (c2 : cellO o2') : LawSt w g L lN dE lS lI It vsN vsI i n h' m' lR oE oI o4' o3' o2' o1' nR nS kvs items vsS S Sr :=
  x.next F' e1 e2 e3 e4 N' x.dict (x.rel.to k) (x.row.to k) x.rlen (fun v hv => let ⟨a, C, dx, e, q⟩ := x.strm v hv; ⟨a, C, dx, e, k _ _ good_inst q⟩) x.slen x.keys x.hh x.hu c4 c3 c2 x.ne
theorem str_put {S : List (Str × D)} {nm v k : Str} (h : ∀ x, look S k = some x → ∃ y, x = .str y) : ∀ x, look (put S nm (.str v)) k = some x → ∃ y, x = .str y := fun x e => by
  rw [look_put] at e
  split at e
  · exact ⟨v, (Option.some.inj e).symm⟩
  · exact h x e
theorem k0_store {w : World} {p : Program} {loose : List Str} {mg mb : Str → Option Value} {mean : ExcName → Option Value} {s : Shared} {Q : Flow → Shared → Prop} {E : Value → Shared → Prop} {L lN dE lS lI It : Addr} {vsN vsI : List Value} {i : Nat} {h : Heap} {tk : Nat}
    {m₀ : Str → Option Value} {lR : Addr} {oE oI o4 o3 o2 o1 : Obj} {nR nS n : Nat} {kvs : List (Str × Value)} {items vsS : List Value} {S : List (Str × D)} {nm v : Str} {tn tv : Tok}
    (X : (hd.heap_39 w.params).In s.heap) (T : Top p loose mean mg mb s.heap) (lo : (dE == sysModules) = false) (hO : @LT.lt Nat _ (L + 1 + 1 + 1 + 1) lN ∧ @LT.lt Nat _ lN dE ∧ @LT.lt Nat _ dE lS ∧ @LT.lt Nat _ lS lI ∧ @LT.lt Nat _ lI It)
    (hS : LawSt w s.heap L lN dE lS lI It vsN vsI i n h m₀ lR oE oI o4 o3 o2 o1 nR nS kvs items vsS S S) (hn : n ≤ 2 * i) (d3 : o3.data = .cell (some (.str nm tn))) (d2 : o2.data = .cell (some (.str v tv))) (hnm : nm ∈ nameStrs)
    (post : ∀ h' tk', LawInv w s.heap L lN dE lS lI It vsN vsI i h' → Q .next { s with heap := h', toks := tk' }) :
    wpAny (model PySem.Challenge.rw_kn0093_02.row.prog w) (callerA.deeper (lawE w L)) (setItem (.ref dE) (.str nm tn) (.str v tv)) (fun _ s' => wpAny (model PySem.Challenge.rw_kn0093_02.row.prog w) (callerA.deeper (lawE w L)) (execs [nthS (k0B w) 4] (lawE w L)) Q E s') E { s with heap := h, toks := tk } := by
  have F := hS.fr
  obtain ⟨rest, N, ⟨hr1, hr2, hr3, hr4, hr5⟩, hK⟩ := hS.open
  have hD := hS.dict
  obtain ⟨q1, q2, q3, q4, q5⟩ := hO
  obtain ⟨n1, n2, n3, n4, n5, n6, n7, n8⟩ := hS.ne
  have hz : kvs.length ≤ sizeLine := by have := hS.klen; rw [sizeLine_eq]; omega
  refine' kda_set (knd := strKind _ w) F N ?U hD (strKind_is _ _ _ _) hz fun h' o' F' N' d' => ?_
  case U => k_updF
  dsimp only at N' ⊢
  have k1 := hK _ _ F' (fun p hp => (N' p (by simp [hp])).1)
  have hkeys : ∀ k ∈ (put S nm (.str v)).map (·.1), k ∈ nameStrs := fun k hk => (keys_put _ _ _ k hk).elim (hS.keys k) fun e => e ▸ hnm
  refine a_execs (k0_row (S := S) X T (hS.next F' rfl rfl rfl rfl (newsSub N' (by repeat (first | exact List.forall_mem_nil _ | refine List.forall_mem_cons.mpr ⟨by k_mem, ?_⟩))) d' (Rel.put dv_str (hS.rel.to k1)) (hS.row.to k1) hS.rlen (fun v hv => let ⟨a, C, dx, e, q⟩ := hS.strm v hv; ⟨a, C, dx, e, k1 _ _ good_inst q⟩) hS.slen hkeys (str_put hS.hh) (str_put hS.hu) hS.c4 hS.c3 hS.c2 hS.ne) hn d3 d2 fun h2 tk2 hi => ?_)
  exact a_nil (post _ _ hi)
theorem k0_walk {w : World} {p : Program} {loose : List Str} {mg mb : Str → Option Value} {mean : ExcName → Option Value} {s : Shared} {Q : Flow → Shared → Prop} {E : Value → Shared → Prop} {L lN dE lS lI It : Addr} {vsN vsI : List Value} {i : Nat} {h : Heap} {tk : Nat}
    {x kd : Int} {tx t1 : Tok} {m₀ : Str → Option Value} {lR : Addr} {oE oI o4 o3 o2 o1 : Obj} {nR nS n : Nat} {kvs : List (Str × Value)} {items vsS : List Value} {S : List (Str × D)}
    (X : (hd.heap_39 w.params).In s.heap) (T : Top p loose mean mg mb s.heap) (lo : (dE == sysModules) = false) (hN : NamesAre vsN nameStrs) (hO : @LT.lt Nat _ (L + 1 + 1 + 1 + 1) lN ∧ @LT.lt Nat _ lN dE ∧ @LT.lt Nat _ dE lS ∧ @LT.lt Nat _ lS lI ∧ @LT.lt Nat _ lI It)
    (hS : LawSt w s.heap L lN dE lS lI It vsN vsI i n h (turnM x kd tx t1 m₀) lR oE oI o4 o3 o2 o1 nR nS kvs items vsS S S) (hn : n ≤ 2 * i)
    (post : ∀ h' tk', LawInv w s.heap L lN dE lS lI It vsN vsI i h' → Q .next { s with heap := h', toks := tk' }) :
    wpAny (model PySem.Challenge.rw_kn0093_02.row.prog w) (callerA.deeper (lawE w L)) (execs (k0B w) (lawE w L)) Q E { s with heap := h, toks := tk } := by
  unfold lawE
  obtain ⟨sc, hsc⟩ : ∃ sc, sc = scopeAt 602 w.params := ⟨_, rfl⟩
  rw [← hsc]
  conv at hsc => rhs; whnf
  subst hsc
  obtain ⟨st, hst⟩ : ∃ st, st = k0B w := ⟨_, rfl⟩
  rw [← hst]
  conv at hst => rhs; whnf
  subst hst
  have F := hS.fr
  obtain ⟨rest, N, ⟨hr1, hr2, hr3, hr4, hr5⟩, hK⟩ := hS.open
  have hD := hS.dict
  have TR := topRead_of T
  obtain ⟨v4, d4⟩ := hS.c4
  obtain ⟨v3, d3⟩ := hS.c3
  obtain ⟨v2, d2⟩ := hS.c2
  obtain ⟨q1, q2, q3, q4, q5⟩ := hO
  obtain ⟨n1, n2, n3, n4, n5, n6, n7, n8⟩ := hS.ne
  have hz : kvs.length ≤ sizeLine := by have := hS.klen; rw [sizeLine_eq]; omega
  k_steps
  rename News s.heap L _ _ => N1
  refine Stop.mk (strs_item N1 (.head _) (strs_cons (strs_cons (strs_cons (strs_cons (strs_cons (strs_cons strs_nil)))))) (Int.fmod_nonneg_of_pos _ (by decide)) (Int.fmod_lt_of_pos _ (by decide)) (Nat.le_of_ble_eq_true rfl) fun vv tv => ?_)
  k_steps
  · -- kind 0
    rename News s.heap L _ _ => N2
    refine Stop.mk (names_item (listO.isL (N2.get (show (lN, listO vsN.toArray 0) ∈ _ by k_mem))) hN (Int.fmod_nonneg_of_pos _ (by decide)) (Int.lt_trans (Int.fmod_lt_of_pos _ (by decide)) (by decide)) fun nm tn hnm => ?_)
    k_steps
    refine Stop.mk (abc_item (Int.fmod_nonneg_of_pos _ (by decide)) (Int.fmod_lt_of_pos _ (by decide)) fun v2 t2 => ?_)
    k_steps
    · rename News s.heap L _ _ => N3
      refine Stop.mk (strs_item N3 (.head _) (strs_cons (strs_cons (strs_cons strs_nil))) (Int.fmod_nonneg_of_pos _ (by decide)) (Int.fmod_lt_of_pos _ (by decide)) (Nat.le_of_ble_eq_true rfl) fun v3 t3 => ?_)
      k_steps
      rename News s.heap L _ _ => N5
      rename Fr s.heap L _ _ => F5
      rename _ = Data.cell (some (Value.str nm tn)) => d3'
      rename _ = Data.cell (some (Value.str v3 t3)) => d2'
      have k5 := hK _ _ F5 (fun p hp => (N5 p (by simp [hp])).1)
      exact Stop.mk (k0_store X T lo ⟨q1, q2, q3, q4, q5⟩ (hS.cells F5 rfl rfl rfl rfl (newsSub N5 (by repeat (first | exact List.forall_mem_nil _ | refine List.forall_mem_cons.mpr ⟨by k_mem, ?_⟩))) k5 ⟨_, d4⟩ ⟨_, d3'⟩ ⟨_, d2'⟩) hn d3' d2' hnm post)
    · rename News s.heap L _ _ => N5
      rename Fr s.heap L _ _ => F5
      rename _ = Data.cell (some (Value.str nm tn)) => d3'
      rename _ = Data.cell (some (Value.str v2 t2)) => d2'
      have k5 := hK _ _ F5 (fun p hp => (N5 p (by simp [hp])).1)
      exact Stop.mk (k0_store X T lo ⟨q1, q2, q3, q4, q5⟩ (hS.cells F5 rfl rfl rfl rfl (newsSub N5 (by repeat (first | exact List.forall_mem_nil _ | refine List.forall_mem_cons.mpr ⟨by k_mem, ?_⟩))) k5 ⟨_, d4⟩ ⟨_, d3'⟩ ⟨_, d2'⟩) hn d3' d2' hnm post)
  · rename News s.heap L _ _ => N3
    rename Fr s.heap L _ _ => F3
    rename _ = Data.cell (some (Value.str "HTTPS" _)) => d3'
    rename _ = Data.cell (some (Value.str vv tv)) => d2'
    have k3 := hK _ _ F3 (fun p hp => (N3 p (by simp [hp])).1)
    exact Stop.mk (k0_store X T lo ⟨q1, q2, q3, q4, q5⟩ (hS.cells F3 rfl rfl rfl rfl (newsSub N3 (by repeat (first | exact List.forall_mem_nil _ | refine List.forall_mem_cons.mpr ⟨by k_mem, ?_⟩))) k3 ⟨_, d4⟩ ⟨_, d3'⟩ ⟨_, d2'⟩) hn d3' d2' (by decide) post)
end Mine
end
section -- L2s
open PySem PySem.W PyProof.Rows PySem.Calls
set_option maxRecDepth 100000
namespace Mine
set_option maxHeartbeats 4000000
local macro_rules | `(tactic| k_room) => `(tactic| ((try simp only [depth_mark, depth_under_make, depth_under_kw, depth_in1, depth_deeper, depth_caller]); (first | ((show _ + _ < 1000); omega) | ((show _ < 1000); omega))))
local macro_rules | `(tactic| walk_at "eval ListComp") => `(tactic| (k_here; refine Stop.out ?_))
local macro_rules | `(tactic| walk_at "call ref") => `(tactic| (k_here; refine Stop.out ?_))
local macro_rules | `(tactic| walk_at "subscriptTail") => `(tactic| (k_here; k_dflt (refine kda_item (knd := PySem.strKind _ _) (by k_asm) (by k_mem) (by k_asm) (strKind_is _ _ _ _) (by assumption) ?_)))
local macro_rules | `(tactic| walk_at "compareOp NotIn str ref") => `(tactic| (k_here; k_dflt (refine notIn_told (News.isList (by k_asm) (by news_mem)) (by with_reducible assumption) (by assumption) ?_); (try dsimp only [Bool.not_true, Bool.not_false])))
local macro_rules | `(tactic| k_all) => `(tactic| assumption)
def forS : Stmt → List Stmt
  | .For _ _ b _ _ => b
  | _ => []
noncomputable abbrev k3B (w : World) : List Stmt := thenB (turnS w.params 1)
theorem is_other {prog : Program} {w : World} {A : Around} {E : Value → Shared → Prop} {s : Shared} {a x C dx : Addr} {ox : Obj} {Q : Bool → Shared → Prop} (hne : a ≠ x) (ha : s.heap.get? a = some (instObj C dx)) (hx : s.heap.get? x = some ox) (h : Q false s) :
    wpAny (model prog w) A (compareOp .Is (.ref a) (.ref x)) (fun c s' => wpAny (model prog w) A (truthy c) Q E s') E s := by
  show wpAny _ A (isSame (.ref a) (.ref x) >>= fun b => pure (Value.bool b)) _ _ _
  exact wpAny_bind (wpAny_isSame_ref_other hne ha hx (by simp) (wpAny_pure (wpAny_truthy_bool h)))
theorem LawSt.flat {w : World} {g : Heap} {L lN dE lS lI It : Addr} {vsN vsI : List Value} {i n : Nat} {h : Heap} {m₀ : Str → Option Value} {lR : Addr} {oE oI o4 o3 o2 o1 : Obj} {nR nS : Nat} {kvs : List (Str × Value)} {items vsS : List Value} {S Sr : List (Str × D)}
    (x : LawSt w g L lN dE lS lI It vsN vsI i n h (lawM lN dE lR lS m₀) lR oE oI o4 o3 o2 o1 nR nS kvs items vsS S Sr) : LawSt w g L lN dE lS lI It vsN vsI i n h m₀ lR oE oI o4 o3 o2 o1 nR nS kvs items vsS S Sr :=
  have e : ∀ y, lawM lN dE lR lS (lawM lN dE lR lS m₀) y = lawM lN dE lR lS m₀ y := fun y => by
    unfold lawM
    by_cases h1 : y = "streams" <;> by_cases h2 : y = "row" <;> by_cases h3 : y = "environ" <;> by_cases h4 : y = "names" <;> simp [h1, h2, h3, h4]
  { x with fr := frCongr x.fr e }
theorem newsTail {g h : Heap} {L : Addr} {p : Addr × Obj} {news : List (Addr × Obj)} (N : News g L h (p :: news)) : News g L h news := fun q hq => N q (.tail _ hq)
theorem newsAddN {g h h' : Heap} {L D : Addr} {o : Obj} {m : Str → Option Value} {news : List (Addr × Obj)} (F : Fr g L h m) (N : News g L h' news) (hD : h.get? D = none) (e : h'.get? D = some o) : News g L h' ((D, o) :: news) := fun p hp => by
  rcases List.mem_cons.mp hp with rfl | hp
  · refine ⟨e, fun q => ?_, ?_⟩
    · obtain ⟨oL, _, _, hL, _⟩ := F.ns
      rw [← (show D = L from q), hD] at hL; cases hL
    · cases c : g.get? D with
      | none => rfl
      | some o => rw [F.keep _ _ c] at hD; cases hD
  · exact N p hp
/-- what the body of the for lays -/
theorem k3_bodyI {w : World} {p : Program} {loose : List Str} {mg mb : Str → Option Value} {mean : ExcName → Option Value} {s : Shared} {A₀ : Around} {base : Heap} {Q : Flow → Shared → Prop} {E : Value → Shared → Prop} {L lN dE lS lI It : Addr} {vsN vsI : List Value} {i : Nat} {h : Heap} {tk : Nat}
    {m₀ : Str → Option Value} {lR : Addr} {oE oI o4 o3 o2 o1 : Obj} {nR nS n : Nat} {kvs : List (Str × Value)} {items vsS : List Value} {S S' Sr : List (Str × D)} {tl x dx y : Addr} {ys : List Value} {nT : Nat} {tn : Tok}
    (X : (hd.heap_39 w.params).In s.heap) (T : Top p loose mean mg mb s.heap) (B : Below A₀ base [] s.heap) (lo : (dE == sysModules) = false) (hO : @LT.lt Nat _ (L + 1 + 1 + 1 + 1) lN ∧ @LT.lt Nat _ lN dE ∧ @LT.lt Nat _ dE lS ∧ @LT.lt Nat _ lS lI ∧ @LT.lt Nat _ lI It)
    (hS : LawSt w s.heap L lN dE lS lI It vsN vsI i n h (fun z => if z = "told" then some (.ref tl) else m₀ z) lR oE oI o4 o3 o2 o1 nR nS kvs items vsS S' Sr) (d3 : o3.data = .cell (some (.str "wsgi.input" tn))) (hn : vsS.length ≤ 3000)
    (hTl : News s.heap L h [(tl, listO ys.toArray nT)]) (hTold : ToldIs ys S) (hx : FreshB w.params h x dx y #[] 0) (hxn : ∀ a, a = x ∨ a = dx ∨ a = y → a ≠ L ∧ s.heap.get? a = none) (hlt : @LT.lt Nat _ It dx ∧ @LT.lt Nat _ dx x ∧ @LT.lt Nat _ x y) (hTlt : @LT.lt Nat _ It tl)
    (hI : look S "wsgi.input" = none → look S' "wsgi.input" = some (.obj x)) (hne : ∀ v ∈ vsS, ∃ a, v = .ref a ∧ a ≠ x)
    (post : ∀ h' tk' o4' nS' vsS', LawSt w s.heap L lN dE lS lI It vsN vsI i (n + 1) h' (fun z => if z = "told" then some (.ref tl) else m₀ z) lR oE oI o4' o3 o2 o1 nR nS' kvs items vsS' S' Sr → (vsS' = vsS ∨ vsS' = vsS ++ [.ref x]) →
      (∀ b o, h.get? b = some o → b ≠ L → b ≠ lS → b ≠ L + 1 + 1 + 1 + 1 → h'.get? b = some o) → Q .next { s with heap := h', toks := tk' }) :
    wpAny (model PySem.Challenge.rw_kn0093_02.row.prog w) (callerA.deeper (lawE w L)) (execs (forS (nthS (k3B w) 3)) (lawE w L)) Q E { s with heap := h, toks := tk } := by
  unfold lawE
  obtain ⟨sc, hsc⟩ : ∃ sc, sc = scopeAt 602 w.params := ⟨_, rfl⟩
  rw [← hsc]
  conv at hsc => rhs; whnf
  subst hsc
  obtain ⟨st, hst⟩ : ∃ st, st = forS (nthS (k3B w) 3) := ⟨_, rfl⟩
  rw [← hst]
  conv at hst => rhs; whnf
  subst hst
  have F := hS.fr
  obtain ⟨rest, N0, ⟨hr1, hr2, hr3, hr4, hr5⟩, hK, hall⟩ := hS.open2
  have hD := hS.dict
  have TR := topRead_of T
  obtain ⟨v4, d4⟩ := hS.c4
  obtain ⟨v2, d2⟩ := hS.c2
  obtain ⟨q1, q2, q3, q4, q5⟩ := hO
  obtain ⟨l1, l2, l3⟩ := hlt
  obtain ⟨n1, n2, n3, n4, n5, n6, n7, n8⟩ := hS.ne
  obtain ⟨x1, ⟨t₁, t₂, t₃, x2⟩, x3⟩ := hx
  have N : News s.heap L h ((y, baObj #[]) :: (x, instObj 329 dx) :: (dx, dictOf [⟨PyData.keyHash w.params "_BytesIO__buf", .str "_BytesIO__buf" t₁, .ref y⟩, ⟨PyData.keyHash w.params "_BytesIO__pos", .str "_BytesIO__pos" t₂, .int 0 t₃⟩] 2) :: (tl, listO ys.toArray nT) ::
      (It, oI) :: (lI, listO vsI.toArray 0) :: (lS, listO vsS.toArray nS) :: (lR, listO items.toArray nR) :: (dE, oE) :: (lN, listO vsN.toArray 0) :: (L + 1 + 1 + 1 + 1, o4) :: (L + 1 + 1 + 1, o3) :: (L + 1 + 1, o2) :: (L + 1, o1) :: rest) :=
    List.forall_mem_cons.mpr ⟨⟨x3, hxn y (.inr (.inr rfl))⟩, List.forall_mem_cons.mpr ⟨⟨x1, hxn x (.inl rfl)⟩, List.forall_mem_cons.mpr ⟨⟨x2, hxn dx (.inr (.inl rfl))⟩, List.forall_mem_cons.mpr ⟨hTl _ (.head _), N0⟩⟩⟩⟩
  clear N0
  cases c : look S "wsgi.input" with
  | some dv =>
    have c' : (look S "wsgi.input").isSome = true := by rw [c]; rfl
    k_steps
    exact post _ _ _ _ _ (hS.more (Nat.le_succ _)) (.inl rfl) (fun b o e _ _ _ => e)
  | none =>
    have c' : (look S "wsgi.input").isSome = false := by rw [c]; rfl
    obtain ⟨vI, eI, dvI⟩ := hS.rel.at (hI c)
    have hv : vI = .ref x := by cases vI <;> first | exact dvI.elim | exact congrArg Value.ref dvI.1
    subst hv
    have eI' := (valueAt_look _ _).trans eI
    k_steps
    rename Fr s.heap L _ _ => F1
    rename News s.heap L _ _ => N1
    rename _ = Data.cell (some (Value.ref x)) => d4'
    have k1 := hK _ _ F1 (fun p hp => (N1 p (by simp [hp])).1)
    refine Stop.mk (ListComp_none rfl (by with_unfolding_all rfl) (by decide) rfl (by decide) (by rfl) (by decide) (by with_unfolding_all rfl) ?_)
    k_steps
    refine Stop.mk ⟨lS, vsS, rfl, listO.isL (N1.get (show (lS, listO vsS.toArray nS) ∈ _ by k_mem)), by rw [sizeLine_eq]; omega, ?_, ?_⟩
    · intro C v s₃ E' hC hv hk
      dsimp only at hk
      obtain ⟨a, C', dx', rfl, ha⟩ := hS.strm v hv
      obtain ⟨a', ea, hax⟩ := hne _ hv
      cases ea
      refine wpAny_Name (wpAny_loadName_cell (c := L + 1 + 1 + 1 + 1) (v := .ref x) (by rfl) (by rfl) (by rfl) ⟨_, hk _ _ (N1.get (show (L + 1 + 1 + 1 + 1, _) ∈ _ by k_mem)), d4'⟩ ?_) (by decide)
      exact is_other hax (hk _ _ (k1 _ _ good_inst ha)) (hk _ _ (N1.get (show (x, instObj 329 dx) ∈ _ by k_mem))) ⟨rfl, _, _, rfl, fun _ _ e => e⟩
    intro D h2 tk2 n2 hDn hDo hk2
    dsimp only at hDn hk2 ⊢
    have F2 := F1.keeps hk2
    have N2 := newsAddN F1 (N1.grown hk2) hDn hDo
    have k2 := k1.trans (.of hk2)
    clear F1 N1
    k_steps
    have N3 := newsSub N2 (l' := [(x, instObj 329 dx), (dx, dictOf [⟨PyData.keyHash w.params "_BytesIO__buf", .str "_BytesIO__buf" t₁, .ref y⟩, ⟨PyData.keyHash w.params "_BytesIO__pos", .str "_BytesIO__pos" t₂, .int 0 t₃⟩] 2), (y, baObj #[])]) (by repeat (first | exact List.forall_mem_nil _ | refine List.forall_mem_cons.mpr ⟨by k_mem, ?_⟩))
    refine Stop.mk ?_
    show wpAny _ _ (call (.ref 253) [.ref x]) _ _ _
    refine wpAny_call (readB_call (env := envOfC _ _ L 602 (.ref 601)) rfl rfl X T B F2 (by decide) (by decide) N3 ⟨(N3 _ (.head _)).1, ⟨_, _, _, (N3 _ (.tail _ (.head _))).1⟩, (N3 _ (.tail _ (.tail _ (.head _)))).1⟩ fun h4 tk4 u4 hk4 => ?_)
    dsimp only at hk4 ⊢
    have F4 := F2.keeps hk4
    have N4 := News.grown (newsTail N2) hk4
    have k4 := k2.trans (.of hk4)
    have hsz : vsS.toArray.size ≤ 3000 := by simpa using hn
    clear F2 N2 N3
    k_steps
    all_goals
      rename Fr s.heap L _ _ => F6
      rename News s.heap L _ _ => N6
      have ep : vsS.toArray.push (Value.ref x) = (vsS ++ [Value.ref x]).toArray := by simp
      rw [ep] at N6
      have k6 := hK _ _ F6 (fun p hp => (N6 p (by simp [hp])).1)
      have hl6 := hS.slen
      refine post _ _ _ _ (vsS ++ [.ref x]) (LawSt.flat (hS.next F6 rfl rfl rfl rfl (newsSub N6 (by repeat (first | exact List.forall_mem_nil _ | refine List.forall_mem_cons.mpr ⟨by k_mem, ?_⟩))) hS.dict (hS.rel.to k6) (hS.row.to k6) hS.rlen (fun v hv => ?_) (by rw [List.length_append, List.length_singleton]; omega) hS.keys hS.hh hS.hu ⟨_, d4'⟩ hS.c3 hS.c2 hS.ne)) (.inr rfl) (fun b o e e1 e2 e3 => hall _ _ [lS, L + 1 + 1 + 1 + 1] F6 (fun p hp => (N6 p (by simp [hp])).1) ?_ b o e e1 (by simp [e2, e3]))
      · rcases List.mem_append.mp hv with hv | hv
        · obtain ⟨a, C, dx', e, q⟩ := hS.strm v hv
          exact ⟨a, C, dx', e, k6 _ _ good_inst q⟩
        · obtain rfl := List.mem_singleton.mp hv
          exact ⟨x, 329, dx, rfl, N6.get (show (x, instObj 329 dx) ∈ _ by k_mem)⟩
      · repeat (first | exact List.forall_mem_nil _ | refine List.forall_mem_cons.mpr ⟨fun q => (by first | exact (N6.get (by k_mem)) | exact absurd (by simp) q), ?_⟩)
theorem k3_bodyE {w : World} {p : Program} {loose : List Str} {mg mb : Str → Option Value} {mean : ExcName → Option Value} {s : Shared} {A₀ : Around} {base : Heap} {Q : Flow → Shared → Prop} {E : Value → Shared → Prop} {L lN dE lS lI It : Addr} {vsN vsI : List Value} {i : Nat} {h : Heap} {tk : Nat}
    {m₀ : Str → Option Value} {lR : Addr} {oE oI o4 o3 o2 o1 : Obj} {nR nS n : Nat} {kvs : List (Str × Value)} {items vsS : List Value} {S S' Sr : List (Str × D)} {tl x dx : Addr} {ys : List Value} {nT : Nat} {tn : Tok}
    (X : (hd.heap_39 w.params).In s.heap) (T : Top p loose mean mg mb s.heap) (B : Below A₀ base [] s.heap) (lo : (dE == sysModules) = false) (hO : @LT.lt Nat _ (L + 1 + 1 + 1 + 1) lN ∧ @LT.lt Nat _ lN dE ∧ @LT.lt Nat _ dE lS ∧ @LT.lt Nat _ lS lI ∧ @LT.lt Nat _ lI It)
    (hS : LawSt w s.heap L lN dE lS lI It vsN vsI i n h (fun z => if z = "told" then some (.ref tl) else m₀ z) lR oE oI o4 o3 o2 o1 nR nS kvs items vsS S' Sr) (d3 : o3.data = .cell (some (.str "wsgi.errors" tn))) (hn : vsS.length ≤ 3000)
    (hTl : News s.heap L h [(tl, listO ys.toArray nT)]) (hTold : ToldIs ys S) (hx : FreshS w.params h x dx "" 0) (hxn : ∀ a, a = x ∨ a = dx → a ≠ L ∧ s.heap.get? a = none) (hlt : @LT.lt Nat _ It dx ∧ @LT.lt Nat _ dx x) (hTlt : @LT.lt Nat _ It tl)
    (hI : look S "wsgi.errors" = none → look S' "wsgi.errors" = some (.obj x)) (hne : ∀ v ∈ vsS, ∃ a, v = .ref a ∧ a ≠ x)
    (post : ∀ h' tk' o4' nS' vsS', LawSt w s.heap L lN dE lS lI It vsN vsI i (n + 1) h' (fun z => if z = "told" then some (.ref tl) else m₀ z) lR oE oI o4' o3 o2 o1 nR nS' kvs items vsS' S' Sr → (vsS' = vsS ∨ vsS' = vsS ++ [.ref x]) →
      (∀ b o, h.get? b = some o → b ≠ L → b ≠ lS → b ≠ L + 1 + 1 + 1 + 1 → h'.get? b = some o) → Q .next { s with heap := h', toks := tk' }) :
    wpAny (model PySem.Challenge.rw_kn0093_02.row.prog w) (callerA.deeper (lawE w L)) (execs (forS (nthS (k3B w) 3)) (lawE w L)) Q E { s with heap := h, toks := tk } := by
  unfold lawE
  obtain ⟨sc, hsc⟩ : ∃ sc, sc = scopeAt 602 w.params := ⟨_, rfl⟩
  rw [← hsc]
  conv at hsc => rhs; whnf
  subst hsc
  obtain ⟨st, hst⟩ : ∃ st, st = forS (nthS (k3B w) 3) := ⟨_, rfl⟩
  rw [← hst]
  conv at hst => rhs; whnf
  subst hst
  have F := hS.fr
  obtain ⟨rest, N0, ⟨hr1, hr2, hr3, hr4, hr5⟩, hK, hall⟩ := hS.open2
  have hD := hS.dict
  have TR := topRead_of T
  obtain ⟨v4, d4⟩ := hS.c4
  obtain ⟨v2, d2⟩ := hS.c2
  obtain ⟨q1, q2, q3, q4, q5⟩ := hO
  obtain ⟨l1, l2⟩ := hlt
  obtain ⟨n1, n2, n3, n4, n5, n6, n7, n8⟩ := hS.ne
  obtain ⟨x1, t₁, t₂, t₃, t₄, t₅, t₆, x2⟩ := hx
  have N : News s.heap L h ((x, instObj 576 dx) :: (dx, dictOf [⟨PyData.keyHash w.params "_StringIO__newline", .str "_StringIO__newline" t₁, .str "\n" t₂⟩, ⟨PyData.keyHash w.params "_StringIO__buf", .str "_StringIO__buf" t₃, .str "" t₄⟩, ⟨PyData.keyHash w.params "_StringIO__pos", .str "_StringIO__pos" t₅, .int 0 t₆⟩] 3) :: (tl, listO ys.toArray nT) ::
      (It, oI) :: (lI, listO vsI.toArray 0) :: (lS, listO vsS.toArray nS) :: (lR, listO items.toArray nR) :: (dE, oE) :: (lN, listO vsN.toArray 0) :: (L + 1 + 1 + 1 + 1, o4) :: (L + 1 + 1 + 1, o3) :: (L + 1 + 1, o2) :: (L + 1, o1) :: rest) :=
    List.forall_mem_cons.mpr ⟨⟨x1, hxn x (.inl rfl)⟩, List.forall_mem_cons.mpr ⟨⟨x2, hxn dx (.inr rfl)⟩, List.forall_mem_cons.mpr ⟨hTl _ (.head _), N0⟩⟩⟩
  clear N0
  cases c : look S "wsgi.errors" with
  | some dv =>
    have c' : (look S "wsgi.errors").isSome = true := by rw [c]; rfl
    k_steps
    exact post _ _ _ _ _ (hS.more (Nat.le_succ _)) (.inl rfl) (fun b o e _ _ _ => e)
  | none =>
    have c' : (look S "wsgi.errors").isSome = false := by rw [c]; rfl
    obtain ⟨vI, eI, dvI⟩ := hS.rel.at (hI c)
    have hv : vI = .ref x := by cases vI <;> first | exact dvI.elim | exact congrArg Value.ref dvI.1
    subst hv
    have eI' := (valueAt_look _ _).trans eI
    k_steps
    rename Fr s.heap L _ _ => F1
    rename News s.heap L _ _ => N1
    rename _ = Data.cell (some (Value.ref x)) => d4'
    have k1 := hK _ _ F1 (fun p hp => (N1 p (by simp [hp])).1)
    refine Stop.mk (ListComp_none rfl (by with_unfolding_all rfl) (by decide) rfl (by decide) (by rfl) (by decide) (by with_unfolding_all rfl) ?_)
    k_steps
    refine Stop.mk ⟨lS, vsS, rfl, listO.isL (N1.get (show (lS, listO vsS.toArray nS) ∈ _ by k_mem)), by rw [sizeLine_eq]; omega, ?_, ?_⟩
    · intro C v s₃ E' hC hv hk
      dsimp only at hk
      obtain ⟨a, C', dx', rfl, ha⟩ := hS.strm v hv
      obtain ⟨a', ea, hax⟩ := hne _ hv
      cases ea
      refine wpAny_Name (wpAny_loadName_cell (c := L + 1 + 1 + 1 + 1) (v := .ref x) (by rfl) (by rfl) (by rfl) ⟨_, hk _ _ (N1.get (show (L + 1 + 1 + 1 + 1, _) ∈ _ by k_mem)), d4'⟩ ?_) (by decide)
      exact is_other hax (hk _ _ (k1 _ _ good_inst ha)) (hk _ _ (N1.get (show (x, instObj 576 dx) ∈ _ by k_mem))) ⟨rfl, _, _, rfl, fun _ _ e => e⟩
    intro D h2 tk2 n2 hDn hDo hk2
    dsimp only at hDn hk2 ⊢
    have F2 := F1.keeps hk2
    have N2 := newsAddN F1 (N1.grown hk2) hDn hDo
    have k2 := k1.trans (.of hk2)
    clear F1 N1
    k_steps
    have N3 := newsSub N2 (l' := [(x, instObj 576 dx), (dx, dictOf [⟨PyData.keyHash w.params "_StringIO__newline", .str "_StringIO__newline" t₁, .str "\n" t₂⟩, ⟨PyData.keyHash w.params "_StringIO__buf", .str "_StringIO__buf" t₃, .str "" t₄⟩, ⟨PyData.keyHash w.params "_StringIO__pos", .str "_StringIO__pos" t₅, .int 0 t₆⟩] 3)]) (by repeat (first | exact List.forall_mem_nil _ | refine List.forall_mem_cons.mpr ⟨by k_mem, ?_⟩))
    refine Stop.mk ?_
    show wpAny _ _ (call (.ref 522) [.ref x]) _ _ _
    refine wpAny_call (readS_call (env := envOfC _ _ L 602 (.ref 601)) rfl rfl X T B F2 (by decide) (by decide) N3 ⟨(N3 _ (.head _)).1, _, _, _, _, _, _, (N3 _ (.tail _ (.head _))).1⟩ fun h4 tk4 u4 hk4 => ?_)
    dsimp only at hk4 ⊢
    have F4 := F2.keeps hk4
    have N4 := News.grown (newsTail N2) hk4
    have k4 := k2.trans (.of hk4)
    have hsz : vsS.toArray.size ≤ 3000 := by simpa using hn
    clear F2 N2 N3
    k_steps
    all_goals
      rename Fr s.heap L _ _ => F6
      rename News s.heap L _ _ => N6
      have ep : vsS.toArray.push (Value.ref x) = (vsS ++ [Value.ref x]).toArray := by simp
      rw [ep] at N6
      have k6 := hK _ _ F6 (fun p hp => (N6 p (by simp [hp])).1)
      have hl6 := hS.slen
      refine post _ _ _ _ (vsS ++ [.ref x]) (LawSt.flat (hS.next F6 rfl rfl rfl rfl (newsSub N6 (by repeat (first | exact List.forall_mem_nil _ | refine List.forall_mem_cons.mpr ⟨by k_mem, ?_⟩))) hS.dict (hS.rel.to k6) (hS.row.to k6) hS.rlen (fun v hv => ?_) (by rw [List.length_append, List.length_singleton]; omega) hS.keys hS.hh hS.hu ⟨_, d4'⟩ hS.c3 hS.c2 hS.ne)) (.inr rfl) (fun b o e e1 e2 e3 => hall _ _ [lS, L + 1 + 1 + 1 + 1] F6 (fun p hp => (N6 p (by simp [hp])).1) ?_ b o e e1 (by simp [e2, e3]))
      · rcases List.mem_append.mp hv with hv | hv
        · obtain ⟨a, C, dx', e, q⟩ := hS.strm v hv
          exact ⟨a, C, dx', e, k6 _ _ good_inst q⟩
        · obtain rfl := List.mem_singleton.mp hv
          exact ⟨x, 576, dx, rfl, N6.get (show (x, instObj 576 dx) ∈ _ by k_mem)⟩
      · repeat (first | exact List.forall_mem_nil _ | refine List.forall_mem_cons.mpr ⟨fun q => (by first | exact (N6.get (by k_mem)) | exact absurd (by simp) q), ?_⟩)
end Mine
end
section -- L2u
open PySem PySem.W PyProof.Rows PySem.Calls
set_option maxRecDepth 100000
namespace Mine
set_option maxHeartbeats 4000000
local macro_rules | `(tactic| k_room) => `(tactic| ((try simp only [depth_mark, depth_under_make, depth_under_kw, depth_in1, depth_deeper, depth_caller]); (first | ((show _ + _ < 1000); omega) | ((show _ < 1000); omega))))
local macro_rules | `(tactic| k_all) => `(tactic| assumption)
local macro_rules | `(tactic| walk_at "newTuple") => `(tactic| (k_here; k_dflt (refine' tup_K ?F ?N ?_ ?z; (case F => k_asm); (case N => k_asm); (case z => (simp; done))); intro D' h' F' N' l1 hkT; (try k_lt l1); (try k_sweep)))
section
variable {w : World} {g : Heap} {L lN dE lS lI It : Addr} {vsN vsI : List Value} {i n : Nat} {h : Heap} {m₀ : Str → Option Value} {lR : Addr} {oE oI o4 o3 o2 o1 : Obj} {nR nS : Nat} {kvs : List (Str × Value)} {items vsS : List Value} {S Sr : List (Str × D)}
theorem LawSt.ext (x : LawSt w g L lN dE lS lI It vsN vsI i n h m₀ lR oE oI o4 o3 o2 o1 nR nS kvs items vsS S Sr) {h' : Heap} {a : Addr} (k : ∀ b o, b ≠ a → h.get? b = some o → h'.get? b = some o) (hno : ∀ o, h.get? a = some o → ¬ goodO o) (ha : a ≠ L) (hg : g.get? a = none)
    (hl : ∀ b ∈ [It, lI, lS, lR, dE, lN, L + 1 + 1 + 1 + 1, L + 1 + 1 + 1, L + 1 + 1, L + 1], b ≠ a) : LawSt w g L lN dE lS lI It vsN vsI i n h' m₀ lR oE oI o4 o3 o2 o1 nR nS kvs items vsS S Sr := by
  have K : Kept h h' := fun b o t e => k b o (fun q => hno o (q ▸ e) t) e
  have F' : Fr g L h' (lawM lN dE lR lS m₀) := ⟨x.fr.ns.at' fun o e => k _ _ (Ne.symm ha) e, fun b o e => k b o (fun q => by rw [q, hg] at e; cases e) (x.fr.keep b o e), x.fr.above⟩
  refine { x with fr := F', news := fun p hp => ⟨k _ _ (hl p.1 ?_) (x.news p hp).1, (x.news p hp).2⟩, it := x.it.at fun o e => k _ _ (hl It (by simp)) e, rel := x.rel.to K, row := x.row.to K, strm := fun v hv => let ⟨a, C, dx, e, q⟩ := x.strm v hv; ⟨a, C, dx, e, K _ _ good_inst q⟩ }
  simp only [List.mem_cons, List.not_mem_nil, or_false] at hp ⊢
  rcases hp with hp | hp | hp | hp | hp | hp | hp | hp | hp | hp <;> simp [hp]
theorem LawSt.grow (x : LawSt w g L lN dE lS lI It vsN vsI i n h m₀ lR oE oI o4 o3 o2 o1 nR nS kvs items vsS S Sr) {h' : Heap} (k : ∀ b o, h.get? b = some o → h'.get? b = some o) : LawSt w g L lN dE lS lI It vsN vsI i n h' m₀ lR oE oI o4 o3 o2 o1 nR nS kvs items vsS S Sr :=
  { x with fr := x.fr.keeps k, news := x.news.grown k, it := x.it.at fun o e => k _ _ e, rel := x.rel.to (.of k), row := x.row.to (.of k), strm := fun v hv => let ⟨a, C, dx, e, q⟩ := x.strm v hv; ⟨a, C, dx, e, k _ _ q⟩ }
end
theorem FreshB.mv {P : Params} {h h' : Heap} {x dx y : Addr} {b : Array UInt8} {n : Int} (f : FreshB P h x dx y b n) (k : ∀ a, a = x ∨ a = dx ∨ a = y → ∀ o, h.get? a = some o → h'.get? a = some o) : FreshB P h' x dx y b n :=
  let ⟨a, ⟨t₁, t₂, t₃, b⟩, c⟩ := f; ⟨k _ (.inl rfl) _ a, ⟨t₁, t₂, t₃, k _ (.inr (.inl rfl)) _ b⟩, k _ (.inr (.inr rfl)) _ c⟩
theorem FreshS.mv {P : Params} {h h' : Heap} {x dx : Addr} {b : Str} {n : Int} (f : FreshS P h x dx b n) (k : ∀ a, a = x ∨ a = dx → ∀ o, h.get? a = some o → h'.get? a = some o) : FreshS P h' x dx b n :=
  let ⟨a, t₁, t₂, t₃, t₄, t₅, t₆, b⟩ := f; ⟨k _ (.inl rfl) _ a, t₁, t₂, t₃, t₄, t₅, t₆, k _ (.inr rfl) _ b⟩
/-- the cell of a for's name, stored -/
theorem name_store {w : World} {s : Shared} {Q : Unit → Shared → Prop} {E : Value → Shared → Prop} {L lN dE lS lI It : Addr} {vsN vsI : List Value} {i n : Nat} {h : Heap} {tk : Nat} {m₀ : Str → Option Value} {lR : Addr} {oE oI o4 o3 o2 o1 : Obj} {nR nS : Nat} {kvs : List (Str × Value)} {items vsS : List Value} {S Sr : List (Str × D)} {v : Str} {tv : Tok} {px : Pos}
    (hO : @LT.lt Nat _ (L + 1 + 1 + 1 + 1) lN ∧ @LT.lt Nat _ lN dE ∧ @LT.lt Nat _ dE lS ∧ @LT.lt Nat _ lS lI ∧ @LT.lt Nat _ lI It)
    (hS : LawSt w s.heap L lN dE lS lI It vsN vsI i n h m₀ lR oE oI o4 o3 o2 o1 nR nS kvs items vsS S Sr)
    (post : ∀ h' o3', LawSt w s.heap L lN dE lS lI It vsN vsI i n h' m₀ lR oE oI o4 o3' o2 o1 nR nS kvs items vsS S Sr → o3'.data = .cell (some (.str v tv)) → (∀ b o, h.get? b = some o → b ≠ L → b ≠ L + 1 + 1 + 1 → h'.get? b = some o) → Q () { s with heap := h', toks := tk }) :
    wpAny (model PySem.Challenge.rw_kn0093_02.row.prog w) (callerA.deeper (lawE w L)) (assign (.Name "name" px) (lawE w L) (.str v tv)) Q E { s with heap := h, toks := tk } := by
  unfold lawE
  obtain ⟨sc, hsc⟩ : ∃ sc, sc = scopeAt 602 w.params := ⟨_, rfl⟩
  rw [← hsc]
  conv at hsc => rhs; whnf
  subst hsc
  have F := hS.fr
  obtain ⟨rest, N, ⟨hr1, hr2, hr3, hr4, hr5⟩, hK, hall⟩ := hS.open2
  obtain ⟨v3, d3⟩ := hS.c3
  obtain ⟨q1, q2, q3, q4, q5⟩ := hO
  obtain ⟨n1, n2, n3, n4, n5, n6, n7, n8⟩ := hS.ne
  refine wpAny_assign_Name ?_
  refine' storeX_C (cl := cellsFrom (L + 1) _ []) F N (by rfl) ?U d3 fun h3 o3' F3 N3 d3' => ?_
  case U => k_updF
  dsimp only at N3 ⊢
  have k3 := hK _ _ F3 (fun p hp => (N3 p (by simp [hp])).1)
  refine post h3 o3' (LawSt.flat (hS.cells F3 rfl rfl rfl rfl (newsSub N3 (by repeat (first | exact List.forall_mem_nil _ | refine List.forall_mem_cons.mpr ⟨by k_mem, ?_⟩))) k3 hS.c4 ⟨_, d3'⟩ hS.c2)) d3' fun b o e e1 e2 => hall _ _ [L + 1 + 1 + 1] F3 (fun p hp => (N3 p (by simp [hp])).1) ?_ b o e e1 (by simp [e2])
  repeat (first | exact List.forall_mem_nil _ | refine List.forall_mem_cons.mpr ⟨fun q => (by first | exact (N3.get (by k_mem)) | exact absurd (by simp) q), ?_⟩)
theorem tupiter_notGood {h : Heap} {I l : Addr} {i : Nat} (x : h.IsTupleIter I l i) : ∀ o, h.get? I = some o → ¬ goodO o := fun o e t => by
  obtain ⟨o', ho, hc, hd⟩ := x
  rw [ho] at e; cases e
  rcases t with ⟨q, _⟩ | ⟨C, dx, rfl⟩
  · exact absurd (hc.symm.trans q) (by decide)
  · cases hd
theorem k3_two {w : World} {p : Program} {loose : List Str} {mg mb : Str → Option Value} {mean : ExcName → Option Value} {s : Shared} {A₀ : Around} {base : Heap} {Q : Flow → Shared → Prop} {L lN dE lS lI It : Addr} {vsN vsI : List Value} {i : Nat} {h : Heap} {tk : Nat}
    {m₀ : Str → Option Value} {lR : Addr} {oE oI o4 o3 o2 o1 : Obj} {nR nS n : Nat} {kvs : List (Str × Value)} {items vsS : List Value} {S S' : List (Str × D)} {tl x dx y sx sdx : Addr} {ys : List Value} {nT : Nat} {D0 : Addr} {n0 : Nat} {ta tb : Tok} {px : Pos}
    (X : (hd.heap_39 w.params).In s.heap) (T : Top p loose mean mg mb s.heap) (B : Below A₀ base [] s.heap) (lo : (dE == sysModules) = false) (hO : @LT.lt Nat _ (L + 1 + 1 + 1 + 1) lN ∧ @LT.lt Nat _ lN dE ∧ @LT.lt Nat _ dE lS ∧ @LT.lt Nat _ lS lI ∧ @LT.lt Nat _ lI It)
    (hS : LawSt w s.heap L lN dE lS lI It vsN vsI i n h (fun z => if z = "told" then some (.ref tl) else m₀ z) lR oE oI o4 o3 o2 o1 nR nS kvs items vsS S' S') (hn : n + 2 ≤ 2 * i) (hlen : vsS.length ≤ 2000)
    (hTl : News s.heap L h [(tl, listO ys.toArray nT)]) (hTold : ToldIs ys S) (hx : FreshB w.params h x dx y #[] 0) (hsx : FreshS w.params h sx sdx "" 0)
    (hxn : ∀ a : Addr, @LE.le Nat _ dx a → a ≠ L ∧ s.heap.get? a = none) (hlt : @LT.lt Nat _ It dx ∧ @LT.lt Nat _ dx x ∧ @LT.lt Nat _ x y ∧ @LT.lt Nat _ y sdx ∧ @LT.lt Nat _ sdx sx) (hTlt : @LT.lt Nat _ It tl)
    (hI : look S "wsgi.input" = none → look S' "wsgi.input" = some (.obj x)) (hEr : look S "wsgi.errors" = none → look S' "wsgi.errors" = some (.obj sx)) (hne : ∀ v ∈ vsS, ∃ a, v = .ref a ∧ @LT.lt Nat _ a dx)
    (hD : h.get? D0 = some { cls := .type "tuple", data := .seq #[.str "wsgi.input" ta, .str "wsgi.errors" tb] n0 }) (hDL : D0 ≠ L) (hDI : @LT.lt Nat _ It D0)
    (post : ∀ h' tk', LawInv w s.heap L lN dE lS lI It vsN vsI i h' → Q .next { s with heap := h', toks := tk' }) :
    TwoTurns PySem.Challenge.rw_kn0093_02.row.prog w (callerA.deeper (lawE w L)) (lawE w L) (.Name "name" px) (forS (nthS (k3B w) 3)) (.str "wsgi.input" ta) (.str "wsgi.errors" tb) Q D0 { s with heap := h, toks := tk } := by
  intro H1 hk1 hit1
  dsimp only at hk1 hit1 ⊢
  have lt : ∀ b o, h.get? b = some o → @LT.lt Nat _ b h.objs.size := fun b o e => Heap.lt_size e
  generalize h.objs.size = J at hit1 lt ⊢
  obtain ⟨q1, q2, q3, q4, q5⟩ := hO
  obtain ⟨l1, l2, l3, l4, l5⟩ := hlt
  have hO : @LT.lt Nat _ (L + 1 + 1 + 1 + 1) lN ∧ @LT.lt Nat _ lN dE ∧ @LT.lt Nat _ dE lS ∧ @LT.lt Nat _ lS lI ∧ @LT.lt Nat _ lI It := ⟨q1, q2, q3, q4, q5⟩
  have hLJ : L ≠ J := by
    obtain ⟨oL, _, _, hL, _⟩ := hS.fr.ns
    exact Nat.ne_of_lt (lt _ _ hL)
  have gJ : s.heap.get? J = none := by
    cases c : s.heap.get? J with
    | none => rfl
    | some o => exact absurd (lt _ _ (hS.fr.keep _ _ c)) (Nat.lt_irrefl _)
  have hIJ : @LT.lt Nat _ It J := lt _ _ (hS.news _ (.head _)).1
  have hlJ : ∀ b ∈ [It, lI, lS, lR, dE, lN, L + 1 + 1 + 1 + 1, L + 1 + 1 + 1, L + 1 + 1, L + 1], b ≠ J := by
    have hl : ∀ p ∈ [(It, oI), (lI, listO vsI.toArray 0), (lS, listO vsS.toArray nS), (lR, listO items.toArray nR), (dE, oE), (lN, listO vsN.toArray 0), (L + 1 + 1 + 1 + 1, o4), (L + 1 + 1 + 1, o3), (L + 1 + 1, o2), (L + 1, o1)], p.1 ≠ J := fun p hp => Nat.ne_of_lt (lt _ _ (hS.news p hp).1)
    simpa using hl
  have ne4 : ∀ a : Addr, @LT.lt Nat _ It a → a ≠ L + 1 + 1 + 1 ∧ a ≠ lS ∧ a ≠ L + 1 + 1 + 1 + 1 := fun a ha => ⟨neN (by omega), neN (by omega), neN (by omega)⟩
  have hS1 := hS.grow hk1
  refine name_store hO hS1 fun h2 o3' hS2 d3 hk2 => ?_
  have K2 : ∀ b o, h.get? b = some o → b ≠ L → b ≠ L + 1 + 1 + 1 → h2.get? b = some o := fun b o e e1 e2 => hk2 b o (hk1 b o e) e1 e2
  have xL : ∀ a, a = x ∨ a = dx ∨ a = y → (a ≠ L ∧ s.heap.get? a = none) ∧ @LT.lt Nat _ It a := fun a ha => by
    rcases ha with rfl | rfl | rfl
    · exact ⟨hxn _ (by omega), by omega⟩
    · exact ⟨hxn _ (by omega), by omega⟩
    · exact ⟨hxn _ (by omega), by omega⟩
  have sL : ∀ a, a = sx ∨ a = sdx → (a ≠ L ∧ s.heap.get? a = none) ∧ @LT.lt Nat _ It a := fun a ha => by
    rcases ha with rfl | rfl
    · exact ⟨hxn _ (by omega), by omega⟩
    · exact ⟨hxn _ (by omega), by omega⟩
  have hTL := (hTl _ (.head _)).2
  have hx2 := hx.mv (h' := h2) fun a ha o e => K2 a o e (xL a ha).1.1 (ne4 a (xL a ha).2).1
  have hT2 : News s.heap L h2 [(tl, listO ys.toArray nT)] := fun q hq => by
    obtain rfl := List.mem_singleton.mp hq
    exact ⟨K2 _ _ (hTl _ (.head _)).1 hTL.1 (ne4 tl hTlt).1, hTL⟩
  refine k3_bodyI X T B lo hO hS2 d3 (by omega) hT2 hTold hx2 (fun a ha => (xL a ha).1) ⟨l1, l2, l3⟩ hTlt hI (fun v hv => let ⟨a, e, q⟩ := hne v hv; ⟨a, e, neN (by omega)⟩) fun h3 tk3 o4' nS3 vs3 hS3 hvs3 hk3 => ?_
  have mv3 : ∀ b o, h2.get? b = some o → b ≠ L → @LT.lt Nat _ It b → h3.get? b = some o := fun b o e e1 e2 => hk3 b o e e1 (ne4 b e2).2.1 (ne4 b e2).2.2
  have K3 : ∀ b o, h.get? b = some o → b ≠ L → @LT.lt Nat _ It b → h3.get? b = some o := fun b o e e1 e2 => mv3 b o (K2 b o e e1 (ne4 b e2).1) e1 e2
  have hit3 : h3.IsTupleIter J D0 1 := by
    obtain ⟨o, ho, r⟩ := hit1
    exact ⟨o, mv3 _ _ (hk2 _ _ ho (Ne.symm hLJ) (ne4 J hIJ).1) (Ne.symm hLJ) hIJ, r⟩
  refine ⟨rfl, hit3, ⟨_, K3 _ _ hD hDL hDI, rfl, _, rfl⟩, fun H4 hit4 hs4 => ?_⟩
  dsimp only at hs4 ⊢
  have hS4 := hS3.ext (a := J) (fun b o hb e => hs4.extBut b o hb e) (tupiter_notGood hit3) (Ne.symm hLJ) gJ hlJ
  have K4 : ∀ b o, h.get? b = some o → b ≠ L → @LT.lt Nat _ It b → H4.get? b = some o := fun b o e e1 e2 => hs4.extBut b o (Nat.ne_of_lt (lt _ _ e)) (K3 b o e e1 e2)
  refine name_store hO hS4 fun h5 o3'' hS5 d3' hk5 => ?_
  have K5 : ∀ b o, h.get? b = some o → b ≠ L → @LT.lt Nat _ It b → h5.get? b = some o := fun b o e e1 e2 => hk5 b o (K4 b o e e1 e2) e1 (ne4 b e2).1
  have hsx5 := hsx.mv (h' := h5) fun a ha o e => K5 a o e (sL a ha).1.1 (sL a ha).2
  have hT5 : News s.heap L h5 [(tl, listO ys.toArray nT)] := fun q hq => by
    obtain rfl := List.mem_singleton.mp hq
    exact ⟨K5 _ _ (hTl _ (.head _)).1 hTL.1 hTlt, hTL⟩
  have hlen3 : vs3.length ≤ 2001 := by
    rcases hvs3 with rfl | rfl
    · omega
    · rw [List.length_append, List.length_singleton]; omega
  have hne3 : ∀ v ∈ vs3, ∃ a, v = .ref a ∧ a ≠ sx := fun v hv => by
    have : v ∈ vsS ∨ v = .ref x := by
      rcases hvs3 with rfl | rfl
      · exact .inl hv
      · exact (List.mem_append.mp hv).imp id List.mem_singleton.mp
    rcases this with hv | rfl
    · obtain ⟨a, e, q⟩ := hne v hv
      exact ⟨a, e, neN (by omega)⟩
    · exact ⟨x, rfl, neN (by omega)⟩
  refine k3_bodyE X T B lo hO hS5 d3' (by omega) hT5 hTold hsx5 (fun a ha => (sL a ha).1) ⟨by omega, l5⟩ hTlt hEr hne3 fun h6 tk6 o4'' nS6 vs6 hS6 hvs6 hk6 => ?_
  have mv6 : ∀ b o, h5.get? b = some o → b ≠ L → @LT.lt Nat _ It b → h6.get? b = some o := fun b o e e1 e2 => hk6 b o e e1 (ne4 b e2).2.1 (ne4 b e2).2.2
  have hit6 : h6.IsTupleIter J D0 2 := by
    obtain ⟨o, ho, r⟩ := hit4
    exact ⟨o, mv6 _ _ (hk5 _ _ ho (Ne.symm hLJ) (ne4 J hIJ).1) (Ne.symm hLJ) hIJ, r⟩
  refine ⟨rfl, hit6, ⟨_, mv6 _ _ (K5 _ _ hD hDL hDI) hDL hDI, rfl, _, rfl⟩, fun H7 hs7 => ?_⟩
  dsimp only at hs7 ⊢
  have hS7 := hS6.ext (a := J) (fun b o hb e => hs7 b o hb e) (tupiter_notGood hit6) (Ne.symm hLJ) gJ hlJ
  exact post _ _ ⟨_, _, _, _, _, _, _, _, _, _, _, _, _, _, hS7.more hn⟩
theorem k3_for {w : World} {p : Program} {loose : List Str} {mg mb : Str → Option Value} {mean : ExcName → Option Value} {s : Shared} {A₀ : Around} {base : Heap} {Q : Flow → Shared → Prop} {L lN dE lS lI It : Addr} {vsN vsI : List Value} {i : Nat} {h : Heap} {tk : Nat}
    {m₀ : Str → Option Value} {lR : Addr} {oE oI o4 o3 o2 o1 : Obj} {nR nS n : Nat} {kvs : List (Str × Value)} {items vsS : List Value} {S S' : List (Str × D)} {tl x dx y sx sdx : Addr} {ys : List Value} {nT : Nat}
    (X : (hd.heap_39 w.params).In s.heap) (T : Top p loose mean mg mb s.heap) (B : Below A₀ base [] s.heap) (lo : (dE == sysModules) = false) (hO : @LT.lt Nat _ (L + 1 + 1 + 1 + 1) lN ∧ @LT.lt Nat _ lN dE ∧ @LT.lt Nat _ dE lS ∧ @LT.lt Nat _ lS lI ∧ @LT.lt Nat _ lI It)
    (hS : LawSt w s.heap L lN dE lS lI It vsN vsI i n h (fun z => if z = "told" then some (.ref tl) else m₀ z) lR oE oI o4 o3 o2 o1 nR nS kvs items vsS S' S') (hn : n + 2 ≤ 2 * i) (hvI : vsI.length ≤ 1000)
    (hTl : News s.heap L h [(tl, listO ys.toArray nT)]) (hTold : ToldIs ys S) (hx : FreshB w.params h x dx y #[] 0) (hsx : FreshS w.params h sx sdx "" 0)
    (hxn : ∀ a : Addr, @LE.le Nat _ dx a → a ≠ L ∧ s.heap.get? a = none) (hlt : @LT.lt Nat _ It dx ∧ @LT.lt Nat _ dx x ∧ @LT.lt Nat _ x y ∧ @LT.lt Nat _ y sdx ∧ @LT.lt Nat _ sdx sx) (hTlt : @LT.lt Nat _ It tl)
    (hI : look S "wsgi.input" = none → look S' "wsgi.input" = some (.obj x)) (hEr : look S "wsgi.errors" = none → look S' "wsgi.errors" = some (.obj sx)) (hne : ∀ v ∈ vsS, ∃ a, v = .ref a ∧ @LT.lt Nat _ a dx)
    (post : ∀ h' tk', LawInv w s.heap L lN dE lS lI It vsN vsI i h' → Q .next { s with heap := h', toks := tk' }) :
    wpG (model PySem.Challenge.rw_kn0093_02.row.prog w) (callerA.deeper (lawE w L)) (exec (nthS (k3B w) 3) (lawE w L)) Q (fun _ _ => False) { s with heap := h, toks := tk } := by
  unfold lawE
  obtain ⟨sc, hsc⟩ : ∃ sc, sc = scopeAt 602 w.params := ⟨_, rfl⟩
  rw [← hsc]
  conv at hsc => rhs; whnf
  subst hsc
  obtain ⟨st, hst⟩ : ∃ st, st = nthS (k3B w) 3 := ⟨_, rfl⟩
  rw [← hst]
  conv at hst => rhs; whnf
  subst hst
  have F := hS.fr
  have N := hS.news
  have TR := topRead_of T
  have hlen : vsS.length ≤ 2000 := by have := hS.slen; have := hS.ile; omega
  have hT1 := (hTl _ (.head _)).1
  have hT2 := (hTl _ (.head _)).2
  refine g_ForTwo rfl ?_
  k_steps
  rename Fr s.heap L _ _ => F1
  rename News s.heap L _ _ => N1
  rename ∀ (b : Addr) (o : Obj), Heap.get? h b = some o → _ => hkT
  have hkT' := hkT
  refine Stop.mk ⟨_, _, _, _, rfl, (N1 _ (.head _)).1, ?_⟩
  exact k3_two (s := s) (Q := Q) X T B lo hO (hS.grow hkT) hn hlen (fun q hq => by obtain rfl := List.mem_singleton.mp hq; exact ⟨hkT _ _ hT1, hT2⟩) hTold (hx.mv fun a _ o e => hkT a o e) (hsx.mv fun a _ o e => hkT a o e) hxn hlt hTlt hI hEr hne (N1 _ (.head _)).1 (N1 _ (.head _)).2.1 (by rename (It < _) ∧ _ => lD; exact lD.1) post
end Mine
end
section -- L2v
open PySem PySem.W PyProof.Rows PySem.Calls
set_option maxRecDepth 100000
namespace Mine
set_option maxHeartbeats 4000000
local macro_rules | `(tactic| k_room) => `(tactic| ((try simp only [depth_mark, depth_under_make, depth_under_kw, depth_in1, depth_deeper, depth_caller]); (first | ((show _ + _ < 1000); omega) | ((show _ < 1000); omega))))
local macro_rules | `(tactic| k_all) => `(tactic| assumption)
theorem frBut {g h h' : Heap} {L a : Addr} {m : Str → Option Value} (F : Fr g L h m) (k : ∀ b o, b ≠ a → h.get? b = some o → h'.get? b = some o) (ha : a ≠ L) (hg : g.get? a = none) : Fr g L h' m :=
  ⟨F.ns.at' fun o e => k _ _ (Ne.symm ha) e, fun b o e => k b o (fun q => by rw [q, hg] at e; cases e) (F.keep b o e), F.above⟩
theorem LawSt.told {w : World} {g : Heap} {L lN dE lS lI It tl : Addr} {vsN vsI : List Value} {i n : Nat} {h : Heap} {m₀ : Str → Option Value} {lR : Addr} {oE oI o4 o3 o2 o1 : Obj} {nR nS : Nat} {kvs : List (Str × Value)} {items vsS : List Value} {S Sr : List (Str × D)}
    (x : LawSt w g L lN dE lS lI It vsN vsI i n h m₀ lR oE oI o4 o3 o2 o1 nR nS kvs items vsS S Sr) (e : m₀ "told" = some (.ref tl)) : LawSt w g L lN dE lS lI It vsN vsI i n h (fun z => if z = "told" then some (.ref tl) else m₀ z) lR oE oI o4 o3 o2 o1 nR nS kvs items vsS S Sr := by
  have q : (fun z : Str => if z = "told" then some (.ref tl) else m₀ z) = m₀ := funext fun z => by
    split
    · next h => rw [h, e]
    · rfl
  rw [q]; exact x
theorem k3_walk {w : World} {p : Program} {loose : List Str} {mg mb : Str → Option Value} {mean : ExcName → Option Value} {s : Shared} {A₀ : Around} {base : Heap} {Q : Flow → Shared → Prop} {L lN dE lS lI It : Addr} {vsN vsI : List Value} {i : Nat} {h : Heap} {tk : Nat}
    {xx kd : Int} {tx t1 : Tok} {m₀ : Str → Option Value} {lR : Addr} {oE oI o4 o3 o2 o1 : Obj} {nR nS n : Nat} {kvs : List (Str × Value)} {items vsS : List Value} {S : List (Str × D)}
    (X : (hd.heap_39 w.params).In s.heap) (T : Top p loose mean mg mb s.heap) (B : Below A₀ base [] s.heap) (lo : (dE == sysModules) = false) (hO : @LT.lt Nat _ (L + 1 + 1 + 1 + 1) lN ∧ @LT.lt Nat _ lN dE ∧ @LT.lt Nat _ dE lS ∧ @LT.lt Nat _ lS lI ∧ @LT.lt Nat _ lI It) (hvI : vsI.length ≤ 1000)
    (hS : LawSt w s.heap L lN dE lS lI It vsN vsI i n h (turnM xx kd tx t1 m₀) lR oE oI o4 o3 o2 o1 nR nS kvs items vsS S S) (hn : n + 2 ≤ 2 * i)
    (post : ∀ h' tk', LawInv w s.heap L lN dE lS lI It vsN vsI i h' → Q .next { s with heap := h', toks := tk' }) :
    wpG (model PySem.Challenge.rw_kn0093_02.row.prog w) (callerA.deeper (lawE w L)) (execs (k3B w) (lawE w L)) Q (fun _ _ => False) { s with heap := h, toks := tk } := by
  unfold lawE
  obtain ⟨sc, hsc⟩ : ∃ sc, sc = scopeAt 602 w.params := ⟨_, rfl⟩
  rw [← hsc]
  conv at hsc => rhs; whnf
  subst hsc
  obtain ⟨st, hst⟩ : ∃ st, st = k3B w := ⟨_, rfl⟩
  rw [← hst]
  conv at hst => rhs; whnf
  subst hst
  have F := hS.fr
  have N := hS.news
  have TR := topRead_of T
  obtain ⟨q1, q2, q3, q4, q5⟩ := hO
  obtain ⟨n1, n2, n3, n4, n5, n6, n7, n8⟩ := hS.ne
  -- told
  refine g_execs (lift (Assign_pairsS keyF keyF_mono rfl (by with_unfolding_all rfl) (by with_unfolding_all rfl) (by decide) rfl (by decide) (by rfl) (by rfl) (by decide) rfl rfl ?_))
  k_steps
  refine Stop.mk ⟨lR, items.toArray, _, rfl, listO.isL (N.get (show (lR, listO items.toArray nR) ∈ _ by k_mem)), by have := hS.rlen; rw [List.size_toArray, sizeLine_eq]; omega, hS.row.pairs, F.ns, elt_key (by rfl) rfl, ?_⟩
  intro tl h1 tk1 ys hTn hpl hlen hF hn1 hk1
  dsimp only at hTn hk1 hn1 ⊢
  have F1 := frNew F hn1 hk1
  have N1 := newsNew N hk1
  have k1 := keptNew F hk1
  have hTold : ToldIs ys S := ToldIs.of (hS.row.to k1) hlen hF
  obtain ⟨nT, hT⟩ := hpl
  have hT1 : News s.heap L h1 [(tl, listO ys.toArray nT)] := fun q hq => by
    obtain rfl := List.mem_singleton.mp hq
    exact newFresh F hTn hT
  have hItl : @LT.lt Nat _ It tl := Nat.lt_of_lt_of_le (Heap.lt_size (N _ (.head _)).1) hTn
  have hS1 := hS.same F1 rfl rfl rfl rfl N1 k1
  clear hF hlen
  have Z1 := And.intro F1 (And.intro N1 hT1)
  clear F N
  refine g_execs (g_If (g_test (g_CallName (lift ?_))))
  k_steps
  refine g_callWith rfl (g_args (g_spliced (g_eq (if_neg Bool.false_ne_true) (lift ?_))))
  k_steps
  refine g_spliced0 ?_
  obtain ⟨F1, N1, hT1⟩ := Z1
  have hNd : News s.heap L h1 [(dE, oE)] := newsSub N1 (by simp)
  refine ⟨⟨_, .inl rfl, Looks.of_peek (X.keeps F1.keep) (by kernel_rfl)⟩, g_call (setup_call (env := envOfC _ _ L 602 (.ref 601)) rfl rfl X T B F1 hNd (by decide) (by decide) lo hS1.dict hS1.rel (by have := hS1.klen; omega) hS1.hh hS1.hu fun h2 tk2 oE2 kvs2 x dx y sx sdx hk2 hd2 hdict2 hrel2 hlen2 hbelow f1 f2 f3 f4 hB hSx => ?_)⟩
  dsimp only at hk2 hbelow ⊢
  have f1 := ltN f1
  have f2 := ltN f2
  have f3 := ltN f3
  have f4 := ltN f4
  have hEL : dE ≠ L := (hNd _ (.head _)).2.1
  have hEg : s.heap.get? dE = none := (hNd _ (.head _)).2.2
  have F2 := frBut F1 hk2 hEL hEg
  have k2 : Kept h1 h2 := fun b o t e => hk2 b o (fun q => by
    have := (hNd _ (.head _)).1
    rw [q, this] at e; cases e
    exact dict_notGood hS1.dict t) e
  have N2 : News s.heap L h2 [(It, oI), (lI, listO vsI.toArray 0), (lS, listO vsS.toArray nS), (lR, listO items.toArray nR), (dE, oE2), (lN, listO vsN.toArray 0), (L + 1 + 1 + 1 + 1, o4), (L + 1 + 1 + 1, o3), (L + 1 + 1, o2), (L + 1, o1)] := by
    have up : ∀ q ∈ [(It, oI), (lI, listO vsI.toArray 0), (lS, listO vsS.toArray nS), (lR, listO items.toArray nR), (dE, oE), (lN, listO vsN.toArray 0), (L + 1 + 1 + 1 + 1, o4), (L + 1 + 1 + 1, o3), (L + 1 + 1, o2), (L + 1, o1)], q.1 ≠ dE → h2.get? q.1 = some q.2 ∧ q.1 ≠ L ∧ s.heap.get? q.1 = none := fun q hq e => ⟨hk2 _ _ e (N1 q hq).1, (N1 q hq).2⟩
    repeat (first | exact List.forall_mem_nil _ | refine List.forall_mem_cons.mpr ⟨(by first | exact ⟨hd2, hEL, hEg⟩ | exact up _ (by simp) n2 | exact up _ (by simp) (neN (by omega))), ?_⟩)
  have hxn : ∀ a : Addr, @LE.le Nat _ dx a → a ≠ L ∧ s.heap.get? a = none := fun a ha => by
    refine ⟨fun e => ?_, ?_⟩
    · obtain ⟨oL, _, _, hL, _⟩ := F1.ns
      exact absurd (Nat.lt_of_lt_of_le (hbelow _ _ hL) (e ▸ ha)) (Nat.lt_irrefl _)
    · cases c : s.heap.get? a with
      | none => rfl
      | some o => exact absurd (Nat.lt_of_lt_of_le (hbelow _ _ (F1.keep _ _ c)) ha) (Nat.lt_irrefl _)
  have hIdx : @LT.lt Nat _ It dx := hbelow _ _ (N1 _ (.head _)).1
  have hT2 : News s.heap L h2 [(tl, listO ys.toArray nT)] := fun q hq => by
    obtain rfl := List.mem_singleton.mp hq
    exact ⟨hk2 _ _ (neN (by omega)) (hT1 _ (.head _)).1, (hT1 _ (.head _)).2⟩
  have hstr2 : ∀ v ∈ vsS, ∃ a C dx, v = .ref a ∧ h2.get? a = some (instObj C dx) := fun v hv => let ⟨a, C, dx, e, q⟩ := hS1.strm v hv; ⟨a, C, dx, e, k2 _ _ good_inst q⟩
  have hne : ∀ v ∈ vsS, ∃ a, v = .ref a ∧ @LT.lt Nat _ a dx := fun v hv => let ⟨a, C, dx, e, q⟩ := hS1.strm v hv; ⟨a, e, hbelow _ _ q⟩
  have hkeys2 : ∀ k ∈ (setupS S x sx).map (·.1), k ∈ nameStrs := fun k hk => (setup_keys S x sx hS.hu k hk).elim (hS.keys k) fun e => (by decide : ∀ z ∈ keysAll, z ∈ nameStrs) k e
  have hh2 : ∀ v, look (setupS S x sx) "HTTPS" = some v → ∃ y, v = .str y := fun v e => hS.hh v ((setup_https S x sx hS.hu).symm.trans e)
  have hu2 := setup_scheme S x sx hS.hu
  have hS2 := hS1.next F2 rfl rfl rfl rfl N2 hdict2 hrel2 (hS1.row.to k2) hS1.rlen hstr2 hS1.slen hkeys2 hh2 hu2 hS1.c4 hS1.c3 hS1.c2 hS1.ne
  have Z2 := And.intro F2 (And.intro N2 hT2)
  k_steps
  refine g_nil ?_
  dsimp only
  obtain ⟨F2, N2, hT2⟩ := Z2
  -- laid
  have Z2 := And.intro F2 (And.intro N2 hT2)
  refine g_execs (g_AssignName (g_CallName (lift ?_)) (by with_unfolding_all rfl))
  k_steps
  refine g_callWith rfl (g_args (g_spliced (g_eq (if_neg Bool.false_ne_true) (lift ?_))))
  k_steps
  refine g_spliced (g_eq (if_neg Bool.false_ne_true) (lift ?_))
  k_steps
  refine g_spliced0 ?_
  obtain ⟨F2, N2, hT2⟩ := Z2
  have hNd2 : News s.heap L h2 [(dE, oE2)] := newsSub N2 (by simp)
  obtain ⟨hin, her⟩ := setup_in S x sx hS.hu
  refine ⟨⟨_, .inl rfl, Looks.of_peek (X.keeps F2.keep) (by kernel_rfl)⟩, g_call (laid_call (P := At h2) (env := envOfC _ _ L 602 (.ref 601)) rfl rfl X T B F2 hNd2 (by decide) (by decide) lo hdict2 hrel2 ⟨nR, N2.get (show (lR, listO items.toArray nR) ∈ _ by simp)⟩ n2 (hS1.row.to k2) (by have := hS.len; omega) hS.hh hS.hu hin her (fun _ _ e => e) fun res h3 tk3 items3 n3 hk3 hres hres' hrow3 => ?_)⟩
  dsimp only at hk3 hres ⊢
  have F3 := F2.keeps hk3
  have N3 := N2.grown hk3
  refine wpAny_storeName_local (by rfl) F3.ns (fun h4 hn4 hs4 => ?_) rfl
  dsimp only at hn4 hs4 ⊢
  have hk4 : ∀ b o, b ≠ L → h3.get? b = some o → h4.get? b = some o := fun b o hb e => hs4.extBut b o hb e
  have K4 : ∀ b o, h2.get? b = some o → b ≠ L → h4.get? b = some o := fun b o e hb => hk4 b o hb (hk3 b o e)
  have F4 := frNew F3 hn4 hk4
  have k4 := keptNew F3 hk4
  have k24 : Kept h2 h4 := (Kept.of hk3).trans k4
  have N4 := newsNew (newsAddN F2 N3 hres hres') hk4
  have row4 : RowOf (At h4) h4 items3 (setupS S x sx) := by
    rw [setup_laid S x sx hS.hu]
    exact RowOf.to hrow3 k4
  have rel4 : Rel (At h4) kvs2 (setupS S x sx) := Rel.to hrel2 k24
  have hst : ∀ v ∈ vsS, ∃ a C dx, v = .ref a ∧ h4.get? a = some (instObj C dx) := fun v hv => let ⟨a, C, dx, e, q⟩ := hstr2 v hv; ⟨a, C, dx, e, k24 _ _ good_inst q⟩
  have hS4 := hS2.next F4 rfl rfl rfl rfl (newsSub N4 (by repeat (first | exact List.forall_mem_nil _ | refine List.forall_mem_cons.mpr ⟨by k_mem, ?_⟩))) hdict2 rel4 row4 (by rw [row4.length]; exact dict_len hdict2 rel4 hkeys2) hst hS2.slen hkeys2 hh2 hu2 hS2.c4 hS2.c3 hS2.c2 (hS2.fresh hres)
  have hT4 : News s.heap L h4 [(tl, listO ys.toArray nT)] := fun q hq => by
    obtain rfl := List.mem_singleton.mp hq
    exact ⟨K4 _ _ (hT2 _ (.head _)).1 (hT2 _ (.head _)).2.1, (hT2 _ (.head _)).2⟩
  have hB4 := hB.mv (h' := h4) fun a ha o e => K4 a o e (hxn a (by rcases ha with rfl | rfl | rfl <;> omega)).1
  have hS4x := hSx.mv (h' := h4) fun a ha o e => K4 a o e (hxn a (by rcases ha with rfl | rfl <;> omega)).1
  refine g_execs (k3_for (s := s) X T B lo ⟨q1, q2, q3, q4, q5⟩ (LawSt.told (tl := tl) hS4 rfl) hn hvI hT4 hTold hB4 hS4x hxn ⟨hIdx, f1, f2, f3, f4⟩ hItl (fun e => by rw [hin]; unfold dIn; rw [e]; rfl) (fun e => by rw [her]; unfold dEr; rw [e]; rfl) hne fun h5 tk5 hi => ?_)
  exact g_nil (post _ _ hi)
end Mine
end
section -- L2w
open PySem PySem.W PyProof.Rows PySem.Calls
set_option maxRecDepth 100000
namespace Mine
set_option maxHeartbeats 4000000
local macro_rules | `(tactic| k_room) => `(tactic| ((try simp only [depth_mark, depth_under_make, depth_under_kw, depth_in1, depth_deeper, depth_caller]); (first | ((show _ + _ < 1000); omega) | ((show _ < 1000); omega))))
local macro_rules | `(tactic| k_all) => `(tactic| assumption)
theorem turn_tail {w : World} {p : Program} {loose : List Str} {mg mb : Str → Option Value} {mean : ExcName → Option Value} {s : Shared} {Q : Flow → Shared → Prop} {L lN dE lS lI It : Addr} {vsN vsI : List Value} {i : Nat} {h : Heap} {tk : Nat}
    (X : (hd.heap_39 w.params).In s.heap) (T : Top p loose mean mg mb s.heap) (lo : (dE == sysModules) = false) (hi : LawInv w s.heap L lN dE lS lI It vsN vsI i h)
    (post : ∀ h' tk', LawInv w s.heap L lN dE lS lI It vsN vsI i h' → Q .next { s with heap := h', toks := tk' }) :
    wpG (model PySem.Challenge.rw_kn0093_02.row.prog w) (callerA.deeper (lawE w L)) (execs [turnS w.params 2, turnS w.params 3] (lawE w L)) Q (fun _ _ => False) { s with heap := h, toks := tk } :=
  g_execs (lift (s3_walk X T lo hi fun h1 tk1 hi1 => g_execs (lift (s4_walk X T lo hi1 fun h2 tk2 hi2 => g_nil (post h2 tk2 hi2)))))
theorem turn_body {w : World} {p : Program} {loose : List Str} {mg mb : Str → Option Value} {mean : ExcName → Option Value} {s : Shared} {A₀ : Around} {base : Heap} {Q : Flow → Shared → Prop} {L lN dE lS lI It : Addr} {vsN vsI : List Value} {i : Nat} {h : Heap} {tk : Nat}
    {x : Int} {tx : Tok} {px : Pos} {m₀ : Str → Option Value} {lR : Addr} {oE oI o4 o3 o2 o1 : Obj} {nR nS n : Nat} {kvs : List (Str × Value)} {items vsS : List Value} {S : List (Str × D)}
    (X : (hd.heap_39 w.params).In s.heap) (T : Top p loose mean mg mb s.heap) (B : Below A₀ base [] s.heap) (lo : (dE == sysModules) = false) (hN : NamesAre vsN nameStrs) (hO : @LT.lt Nat _ (L + 1 + 1 + 1 + 1) lN ∧ @LT.lt Nat _ lN dE ∧ @LT.lt Nat _ dE lS ∧ @LT.lt Nat _ lS lI ∧ @LT.lt Nat _ lI It) (hvI : vsI.length ≤ 1000)
    (hS : LawSt w s.heap L lN dE lS lI It vsN vsI i n h m₀ lR oE oI o4 o3 o2 o1 nR nS kvs items vsS S S) (hn : n + 2 ≤ 2 * i)
    (post : ∀ h' tk', LawInv w s.heap L lN dE lS lI It vsN vsI i h' → Q .next { s with heap := h', toks := tk' }) :
    wpAny (model PySem.Challenge.rw_kn0093_02.row.prog w) (callerA.deeper (lawE w L)) (assign (.Name "x" px) (lawE w L) (.int x tx))
      (fun _ s₂ => wpG (model PySem.Challenge.rw_kn0093_02.row.prog w) (callerA.deeper (lawE w L)) (execs (forBody (stmtsAt 602 w.params)) (lawE w L)) Q (fun _ _ => False) s₂) (fun _ _ => False) { s with heap := h, toks := tk } := by
  have tail : ∀ h' tk', LawInv w s.heap L lN dE lS lI It vsN vsI i h' → wpG (model PySem.Challenge.rw_kn0093_02.row.prog w) (callerA.deeper (lawE w L)) (execs [turnS w.params 2, turnS w.params 3] (lawE w L)) Q (fun _ _ => False) { s with heap := h', toks := tk' } :=
    fun h' tk' hi => turn_tail X T lo hi post
  have h3 : ∀ {h kd tx t1 m₀ o4 o3 o2 o1 tk} {QQ : Flow → Shared → Prop}, LawSt w s.heap L lN dE lS lI It vsN vsI i n h (turnM x kd tx t1 m₀) lR oE oI o4 o3 o2 o1 nR nS kvs items vsS S S → (∀ h' tk', LawInv w s.heap L lN dE lS lI It vsN vsI i h' → QQ .next { s with heap := h', toks := tk' }) →
      wpG (model PySem.Challenge.rw_kn0093_02.row.prog w) (callerA.deeper (lawE w L)) (execs (k3B w) (lawE w L)) QQ (fun _ _ => False) { s with heap := h, toks := tk } := fun a b => k3_walk X T B lo hO hvI a hn b
  have h1 : ∀ {h kd tx t1 m₀ o4 o3 o2 o1 tk} {QQ : Flow → Shared → Prop}, LawSt w s.heap L lN dE lS lI It vsN vsI i n h (turnM x kd tx t1 m₀) lR oE oI o4 o3 o2 o1 nR nS kvs items vsS S S → (∀ h' tk', LawInv w s.heap L lN dE lS lI It vsN vsI i h' → QQ .next { s with heap := h', toks := tk' }) →
      wpAny (model PySem.Challenge.rw_kn0093_02.row.prog w) (callerA.deeper (lawE w L)) (execs (k1B w) (lawE w L)) QQ (fun _ _ => False) { s with heap := h, toks := tk } := fun a b => k1_walk X T lo hN hO a (by omega) b
  have h0 : ∀ {h kd tx t1 m₀ o4 o3 o2 o1 tk} {QQ : Flow → Shared → Prop}, LawSt w s.heap L lN dE lS lI It vsN vsI i n h (turnM x kd tx t1 m₀) lR oE oI o4 o3 o2 o1 nR nS kvs items vsS S S → (∀ h' tk', LawInv w s.heap L lN dE lS lI It vsN vsI i h' → QQ .next { s with heap := h', toks := tk' }) →
      wpAny (model PySem.Challenge.rw_kn0093_02.row.prog w) (callerA.deeper (lawE w L)) (execs (k0B w) (lawE w L)) QQ (fun _ _ => False) { s with heap := h, toks := tk } := fun a b => k0_walk X T lo hN hO a (by omega) b
  unfold lawE at tail h3 h1 h0 ⊢
  obtain ⟨sc, hsc⟩ : ∃ sc, sc = scopeAt 602 w.params := ⟨_, rfl⟩
  rw [← hsc] at tail h3 h1 h0 ⊢
  conv at hsc => rhs; whnf
  subst hsc
  obtain ⟨b3, hb3⟩ : ∃ b, b = k3B w := ⟨_, rfl⟩
  rw [← hb3] at h3
  conv at hb3 => rhs; whnf
  subst hb3
  obtain ⟨b1, hb1⟩ : ∃ b, b = k1B w := ⟨_, rfl⟩
  rw [← hb1] at h1
  conv at hb1 => rhs; whnf
  subst hb1
  obtain ⟨b0, hb0⟩ : ∃ b, b = k0B w := ⟨_, rfl⟩
  rw [← hb0] at h0
  conv at hb0 => rhs; whnf
  subst hb0
  obtain ⟨u2, hu2⟩ : ∃ b, b = turnS w.params 2 := ⟨_, rfl⟩
  obtain ⟨u3, hu3⟩ : ∃ b, b = turnS w.params 3 := ⟨_, rfl⟩
  rw [← hu2, ← hu3] at tail
  conv at hu2 => rhs; whnf
  subst hu2
  conv at hu3 => rhs; whnf
  subst hu3
  obtain ⟨st, hst⟩ : ∃ st, st = forBody (stmtsAt 602 w.params) := ⟨_, rfl⟩
  rw [← hst]
  conv at hst => rhs; whnf
  subst hst
  have F := hS.fr
  obtain ⟨rest, N, ⟨hr1, hr2, hr3, hr4, hr5⟩, hK⟩ := hS.open
  have TR := topRead_of T
  k_steps
  refine g_execs ?_
  refine lift ?_
  k_steps
  dsimp only
  rename Fr s.heap L _ _ => F1
  rename News s.heap L _ _ => N1
  have k1 := hK _ _ F1 (fun p hp => (N1 p (by simp [hp])).1)
  have hS1 := hS.same F1 rfl rfl rfl rfl (newsSub N1 (by repeat (first | exact List.forall_mem_nil _ | refine List.forall_mem_cons.mpr ⟨by k_mem, ?_⟩))) k1
  have Z1 := And.intro F1 N1
  refine g_execs ?_
  refine g_If ?_
  refine lift ?_
  k_steps
  · exact h3 (m₀ := lawM lN dE lR lS m₀) hS1 tail
  · refine g_execs ?_
    refine g_If ?_
    refine lift ?_
    k_steps
    · refine lift ?_
      exact h1 (m₀ := lawM lN dE lR lS m₀) hS1 fun h' tk' hi => g_nil (tail h' tk' hi)
    · refine lift ?_
      exact h0 (m₀ := lawM lN dE lR lS m₀) hS1 fun h' tk' hi => g_nil (tail h' tk' hi)
end Mine
end
section -- L2j
open PySem PySem.W PyProof.Rows PySem.Calls
set_option maxRecDepth 100000
namespace Mine
set_option maxHeartbeats 4000000
local macro_rules | `(tactic| k_room) => `(tactic| ((try simp only [depth_mark, depth_under_make, depth_under_kw, depth_in1, depth_deeper, depth_caller]); (first | ((show _ + _ < 1000); omega) | ((show _ < 1000); omega))))

local macro_rules | `(tactic| walk_at "eval ListComp") => `(tactic| (k_here; refine Stop.out ?_))
local macro_rules | `(tactic| walk_at "subscriptTail Name Slice ref ref") => `(tactic| (k_here; refine Stop.out ?_))
theorem nameNews {P : Prop} {h₀ h : Heap} {L : Addr} {news : List (Addr × Obj)} (N : News h₀ L h news) (k : ∀ led, led = news → P) : P := k _ rfl
theorem nameFr {P : Prop} {h₀ h : Heap} {L : Addr} {m : Str → Option Value} (F : Fr h₀ L h m) (k : ∀ m', m' = m → P) : P := k _ rfl
theorem news_without {h₀ h : Heap} {L : Addr} {p q : Addr × Obj} {r : List (Addr × Obj)} (N : News h₀ L h (p :: q :: r)) : News h₀ L h (p :: r) := fun x hx => by
  rcases List.mem_cons.mp hx with rfl | hx
  · exact N _ (.head _)
  · exact N _ (.tail _ (.tail _ hx))
theorem iter_fin {s : Shared} {h₀ h' : Heap} {L l1 : Addr} {m : Str → Option Value} {vsL ys : List Value} {ms nsD : List Int} {n1 tk : Nat} {led : List (Addr × Obj)} (F : Fr h₀ L h' m) (N : News h₀ L h' ((l1, listO vsL.toArray n1) :: led)) (hi : IntsAre vsL ms) (hj : IntsAre ys nsD) (hz : vsL.length + ys.length ≤ 1000) :
    Stop (∃ (l : Addr) (h'' : Heap) (tk' : Nat) (vsI : List Value) (nsI : List Int), Value.ref h'.objs.size = .ref l ∧ ({ s with heap := h'.push { cls := .type "list", data := .seq (vsL.toArray ++ ys.toArray) }, toks := tk } : Shared) = { s with heap := h'', toks := tk' } ∧ Fr h₀ L h'' m ∧ News h₀ L h'' ((l, listO vsI.toArray 0) :: led) ∧ IntsAre vsI nsI ∧ vsI.length ≤ 1000 ∧ (∀ p ∈ led, @LT.lt Nat _ p.1 l)) := by
  refine Stop.mk ⟨_, _, _, vsL ++ ys, ms ++ nsD, rfl, rfl, F.push _, ?_, hi.append hj, by simpa using hz, fun p hp => Heap.lt_size (N p (.tail _ hp)).1⟩
  have e : (vsL ++ ys).toArray = vsL.toArray ++ ys.toArray := by simp
  rw [e]
  exact news_without (News.push F N _)
theorem LawSt.step {w : World} {g : Heap} {L lN dE lS lI It : Addr} {vsN vsI : List Value} {i n : Nat} {h h' : Heap} {m₀ : Str → Option Value} {lR : Addr} {oE oI o4 o3 o2 o1 : Obj} {nR nS : Nat} {kvs : List (Str × Value)} {items vsS : List Value} {S Sr : List (Str × D)}
    (x : LawSt w g L lN dE lS lI It vsN vsI i n h m₀ lR oE oI o4 o3 o2 o1 nR nS kvs items vsS S Sr) (hs : Heap.SameBut It h h') (hit : h'.IsListIter It lI (i + 1)) (hi : i < vsI.length) (hO : @LT.lt Nat _ (L + 1 + 1 + 1 + 1) lN ∧ @LT.lt Nat _ lN dE ∧ @LT.lt Nat _ dE lS ∧ @LT.lt Nat _ lS lI ∧ @LT.lt Nat _ lI It) :
    ∃ oI', LawSt w g L lN dE lS lI It vsN vsI (i + 1) n h' m₀ lR oE oI' o4 o3 o2 o1 nR nS kvs items vsS S Sr := by
  have hk : ∀ b o, b ≠ It → h.get? b = some o → h'.get? b = some o := fun b o hb e => hs.extBut b o hb e
  have hI := x.news _ (.head _)
  have K : Kept h h' := fun b o t e => hk b o (fun q => iter_notGood x.it o (q ▸ e) t) e
  obtain ⟨oI', hI', _⟩ := id hit
  have F' : Fr g L h' (lawM lN dE lR lS m₀) := ⟨x.fr.ns.at' fun o e => hk _ _ (Ne.symm hI.2.1) e, fun b o e => hk b o (fun q => by rw [q, hI.2.2] at e; cases e) (x.fr.keep b o e), x.fr.above⟩
  obtain ⟨q1, q2, q3, q4, q5⟩ := hO
  have up : ∀ q ∈ [(It, oI), (lI, listO vsI.toArray 0), (lS, listO vsS.toArray nS), (lR, listO items.toArray nR), (dE, oE), (lN, listO vsN.toArray 0), (L + 1 + 1 + 1 + 1, o4), (L + 1 + 1 + 1, o3), (L + 1 + 1, o2), (L + 1, o1)], q.1 ≠ It → h'.get? q.1 = some q.2 ∧ q.1 ≠ L ∧ g.get? q.1 = none := fun q hq e => ⟨hk _ _ e (x.news q hq).1, (x.news q hq).2⟩
  refine ⟨oI', { x with fr := F', news := ?_, it := hit, ile := hi, rel := x.rel.to K, row := x.row.to K, strm := fun v hv => let ⟨a, C, dx, e, q⟩ := x.strm v hv; ⟨a, C, dx, e, K _ _ good_inst q⟩ }⟩
  repeat (first | exact List.forall_mem_nil _ | refine List.forall_mem_cons.mpr ⟨(by first | exact ⟨hI', hI.2⟩ | exact up _ (by simp) x.ne.2.2.2.1 | exact up _ (by simp) (neN (by omega))), ?_⟩)
theorem law_walk {w : World} {p : Program} {loose : List Str} {mg mb : Str → Option Value} {mean : ExcName → Option Value} {s : Shared} {A₀ : Around} {base : Heap} {R : Result → Shared → Prop} {sc : Addr} {vs : List Value} {ns : List Int}
    (X : (hd.heap_39 w.params).In s.heap) (T : Top p loose mean mg mb s.heap) (B : Below A₀ base [] s.heap) (hL : s.heap.IsList sc vs.toArray) (hI : IntsAre vs ns) (hlen : ns.length ≤ 63)
    (post : ∀ h' t', (∀ b o, s.heap.get? b = some o → h'.get? b = some o) → R (.ok (.ret (.bool true))) { s with heap := h', toks := t' }) :
    codeG (model PySem.Challenge.rw_kn0093_02.row.prog w) callerA (.call (.ref 602) ⟨[.ref sc], []⟩) R s := by
  refine' g_topCell (binds := [("script", .ref sc)]) T.nolimit X ?ho ?hcd ?hb ?hloc ?hnd (fun L h₁ tk₁ cells F₁ N₁ Y₁ => ?_) ?c1 ?c2 ?c3
  case ho => k_is
  case hcd => k_is
  case hb => exact BindsTo.of_eq rfl
  case hloc => exact rfl
  case hnd => decide
  case c1 => rfl
  case c2 => rfl
  case c3 => rfl
  have TR := topRead_of T
  k_cells Y₁
  have F₂ : Fr s.heap L h₁ (fun _ => none) := frCongr F₁ fun y => by
    unfold bindL
    split
    · rename_i e
      exact nomatch (show some NameKind.cell = some NameKind.local from e)
    · rfl
  clear F₁
  refine g_execs ?_
  refine lift ?_
  k_steps
  dsimp only
  refine g_execs ?_
  refine lift ?_
  k_steps
  dsimp only
  refine g_execs ?_
  refine lift ?_
  k_steps
  dsimp only
  refine g_execs ?_
  refine lift ?_
  k_steps
  dsimp only
  rename Fr s.heap L _ _ => F4
  rename News s.heap L _ _ => N4
  have TR := topRead_of T
  refine g_execs ?_
  refine g_For ?_
  refine nameNews N4 fun led4 hled4 => ?_
  refine nameFr F4 fun m4 hm4 => ?_
  refine wpAny_mono (Q := fun v s' => Stop (∃ (l : Addr) (h' : Heap) (tk : Nat) (vsI : List Value) (nsI : List Int), v = .ref l ∧ s' = { s with heap := h', toks := tk } ∧ Fr s.heap L h' m4 ∧ News s.heap L h' ((l, listO vsI.toArray 0) :: led4) ∧ IntsAre vsI nsI ∧ vsI.length ≤ 1000 ∧ (∀ p ∈ led4, @LT.lt Nat _ p.1 l))) ?_ (fun v s' hq => ?_) fun _ _ e => e
  · k_steps
    refine Stop.mk (ListComp_overRange rfl (by with_unfolding_all rfl) (by decide) rfl (by decide) (by rfl) ?_)
    rename Fr s.heap L _ _ => F5
    rename News s.heap L _ _ => N5
    k_steps
    rename IsRange _ _ _ _ _ _ _ _ => hr
    rename Fr s.heap L _ _ => F6
    rename News s.heap L _ _ => N6
    rename ∀ (b : Addr) (o : Obj), _ = some o → _ = some o => hk6
    dsimp only at hr F6 N6 hk6
    have hmn : (if (30 : Int) < (ns.length : Int) then (30 : Int) else (ns.length : Int)) = ((min ns.length 30 : Nat) : Int) := by split <;> omega
    rw [hmn] at hr
    refine Stop.mk ⟨_, _, _, _, _, _, _, min ns.length 30, rfl, hr, ?_, ?_, ?_, ?_, ?_⟩
    case refine_4 =>
      intro C a t s₂ m₂ E' hC hn hm hk
      dsimp only at hk
      have F7 := F6.keeps hk
      have N7 := N6.grown hk
      have hL₂ : s₂.heap.IsList sc vs.toArray := hL.at fun _ e => F7.keep _ _ e
      obtain ⟨xs, hx⟩ := (ints_pick hI (some a) none (some 30)).items
      k_steps
      refine Stop.mk (subscriptTail_ops (Heap.IsList.typeIs (s := { s₂ with heap := s₂.heap.push _, toks := _ }) (hL₂.push _)) list_getitem_lookup
        (wpAny_getItem_list_slice (hL₂.push _) (Heap.IsSliceOf.new ..) (IsPart.int _ _) IsPart.none (IsPart.int _ _) (by decide) ?_ ?_) (by with_unfolding_all rfl) (by intro _; with_unfolding_all rfl))
      · k_steps
        refine sum_intListG (xs := xs) rfl ⟨_, Heap.get?_push_size _ rfl, rfl, 0, by rw [← hx]⟩ ?_
        intro h8 tk8 t8 hk8
        exact ⟨⟨_, _, rfl⟩, h8, tk8, rfl, fun b o e => hk8 _ _ (Heap.get?_push_of_some _ (Heap.get?_push_of_some _ e))⟩
      · rw [List.size_toArray, hI.length, sizeLine_eq]; omega
    case refine_1 => exact small_one (by decide) (by decide) (by omega) (by omega)
    case refine_2 => rw [rangeSize_nat]; omega
    case refine_3 => exact Nat.le_trans (Nat.min_le_right _ _) (by decide)
    case refine_5 =>
      intro D ys nsD h' tk k hD hDo hiD hlD hk
      dsimp only at hDo hk ⊢
      have F8 := F6.keeps hk
      have N8 := N6.grown hk
      k_steps
      refine PySem.P.add_list (N8 _ (.head _)).1 hDo ?_ ?_
      · subst hled4 hm4
        exact iter_fin F8 N8 (by repeat (first | exact IntsAre.nil | apply IntsAre.cons)) hiD (by rw [hlD]; simp only [List.length_cons, List.length_nil]; omega)
      · simp only [List.size_toArray, List.length_cons, List.length_nil, sizeLine_eq]; omega
  obtain ⟨lI, hI', tkI, vsI, nsI, rfl, rfl, F10, N10, hiI, hzI, hltI⟩ := hq
  have N10' := N10
  refine wpAny_pyIter_list (l := lI) (items := vsI.toArray) ⟨_, (N10 _ (.head _)).1, rfl, _, rfl⟩ ?_
  dsimp only
  have hInv : ∃ lN dE lS vsN, LawInv w s.heap L lN dE lS lI hI'.objs.size vsN vsI 0 (hI'.push { cls := .type "list_iterator", data := .fields #[.ref lI, .int 0 0] }) ∧ NamesAre vsN nameStrs ∧ (dE == sysModules) = false ∧
      (@LT.lt Nat _ (L + 1 + 1 + 1 + 1) lN ∧ @LT.lt Nat _ lN dE ∧ @LT.lt Nat _ dE lS ∧ @LT.lt Nat _ lS lI ∧ @LT.lt Nat _ lI hI'.objs.size) := by
    subst hled4 hm4
    have F11 := F10.push { cls := .type "list_iterator", data := .fields #[.ref lI, .int 0 0] }
    have N11 := News.push F10 N10 { cls := .type "list_iterator", data := .fields #[.ref lI, .int 0 0] }
    have a1 := hltI _ (.head _)
    refine ⟨_, _, _, _, ⟨_, _, _, _, _, _, _, _, _, _, [], [], [], [], frCongr F11 (lawM_congr (by rfl) (by rfl) (by rfl) (by rfl)), N11, ⟨_, Heap.get?_push_size _ rfl, rfl, rfl⟩, Nat.zero_le _, ?_, trivial, trivial, Nat.zero_le _, (fun _ hv => nomatch hv), Nat.le_refl _, (fun _ hv => nomatch hv), (fun _ hv => nomatch hv), (fun _ hv => nomatch hv), ⟨_, by assumption⟩, ⟨_, by assumption⟩, ⟨_, by assumption⟩, ?_⟩, ?_, ?_, ?_⟩
    · assumption
    · have a2 := Heap.lt_size (N10 _ (.tail _ (.tail _ (.head _)))).1
      have a3 := hltI _ (.tail _ (.head _))
      rename (_ < _) ∧ (_ < _) ∧ (L + 1 + 1 + 1 + 1 < _) ∧ (L + 1 + 1 + 1 < _) ∧ _ => br
      refine ⟨?_, ?_, ?_, Nat.ne_of_lt a2, Nat.ne_of_lt a3, ?_, ?_, ?_⟩
      all_goals k_ne
    · exact ⟨⟨_, rfl⟩, ⟨_, rfl⟩, ⟨_, rfl⟩, ⟨_, rfl⟩, ⟨_, rfl⟩, ⟨_, rfl⟩, ⟨_, rfl⟩, ⟨_, rfl⟩, ⟨_, rfl⟩, ⟨_, rfl⟩, ⟨_, rfl⟩, ⟨_, rfl⟩, ⟨_, rfl⟩, ⟨_, rfl⟩, ⟨_, rfl⟩, trivial⟩
    · assumption
    · have a2 := Heap.lt_size (N10 _ (.head _)).1
      rename _ ∧ _ ∧ _ ∧ _ ∧ _ ∧ _ ∧ _ => b1
      refine ⟨?_, ?_, ?_, a1, a2⟩
      · rename (L + 1 + 1 + 1 + 1 < _) ∧ (L + 1 + 1 + 1 < _) ∧ _ => b0
        exact b0.1
      · rename (_ < _) ∧ (L + 1 + 1 + 1 + 1 < _) ∧ (L + 1 + 1 + 1 < _) ∧ _ => b0
        exact b0.1
      · exact b1.2.1
  obtain ⟨lN, dE, lS, vsN, hInv, hNam, hlo, hO⟩ := hInv
  refine g_forLoop (fun n s' => ∃ h tk i, s' = { s with heap := h, toks := tk } ∧ LawInv w s.heap L lN dE lS lI hI'.objs.size vsN vsI i h ∧ n = vsI.length - i) ?turn vsI.length ⟨_, _, 0, rfl, hInv, rfl⟩
  rintro n _ ⟨h, tk, i, rfl, hi, rfl⟩
  obtain ⟨m₀, lR, oE, oI, o4, o3, o2, o1, nR, nS, kvs, items, vsS, S, hS⟩ := hi
  have FI := hS.fr
  have NI := hS.news
  have hIt := hS.it
  have hlI : h.IsList lI vsI.toArray := ⟨_, (NI _ (.tail _ (.head _))).1, rfl, _, rfl⟩
  by_cases hend : i < vsI.length
  · obtain ⟨nx, tx, ex⟩ : ∃ n t, vsI[i] = .int n t := hiI.allInts vsI[i] (by simp)
    refine wpAny_pyNext_list_item (x := .int nx tx) hIt hlI (by rw [← ex]; simp [hend]) fun h₁ hit₁ hs₁ => ?_
    dsimp only
    obtain ⟨oI', hS1⟩ := hS.step hs₁ hit₁ hend hO
    refine turn_body (s := s) X T B hlo hNam hO hzI hS1 (by omega) fun h' tk' hi => ?_
    exact ⟨vsI.length - (i + 1), by omega, h', tk', i + 1, rfl, hi, rfl⟩
  · refine wpAny_pyNext_list_end rfl hIt hlI (by simp; omega) fun h₁ he => ?_
    dsimp only
    have hk₁ : ∀ b o, s.heap.get? b = some o → h₁.get? b = some o := fun b o e => he b o (fun q => by
      have := (NI _ (.head _)).2.2
      rw [← q, e] at this
      cases this) (FI.keep _ _ e)
    refine g_execs ?_
    refine lift ?_
    k_steps
    all_goals exact post _ _ hk₁
end Mine
end
/- The names under which the head would lay twins of its own constants are taken, so that it lays none: the twins' equations would make
the compiled file four times too large, and the head does not need them. -/
namespace Mine
theorem law_holds.tw10007947361888340627 : True := trivial
theorem law_holds.tw10024239376800412576 : True := trivial
theorem law_holds.tw10027879121665395642 : True := trivial
theorem law_holds.tw10028117763298573888 : True := trivial
theorem law_holds.tw10079444305495103266 : True := trivial
theorem law_holds.tw10093380194815717143 : True := trivial
theorem law_holds.tw10102834934717047885 : True := trivial
theorem law_holds.tw10108825076125807744 : True := trivial
theorem law_holds.tw10188763426450519768 : True := trivial
theorem law_holds.tw10189704592693192966 : True := trivial
theorem law_holds.tw10222300733896627045 : True := trivial
theorem law_holds.tw10242277825702978295 : True := trivial
theorem law_holds.tw10264638600885302300 : True := trivial
theorem law_holds.tw10283916278828761575 : True := trivial
theorem law_holds.tw10296202853966499060 : True := trivial
theorem law_holds.tw10301956948240465243 : True := trivial
theorem law_holds.tw10346744231138586394 : True := trivial
theorem law_holds.tw10350734228115807855 : True := trivial
theorem law_holds.tw1035469204868569938 : True := trivial
theorem law_holds.tw10362271348294423435 : True := trivial
theorem law_holds.tw10368410895845634921 : True := trivial
theorem law_holds.tw10371022188087798493 : True := trivial
theorem law_holds.tw10441050188594101415 : True := trivial
theorem law_holds.tw10458381655096516384 : True := trivial
theorem law_holds.tw1046446015878126456 : True := trivial
theorem law_holds.tw10465528174321978529 : True := trivial
theorem law_holds.tw10486713781251687710 : True := trivial
theorem law_holds.tw10516828495840041881 : True := trivial
theorem law_holds.tw10517181812226103804 : True := trivial
theorem law_holds.tw1053317679998426468 : True := trivial
theorem law_holds.tw10566571302883470556 : True := trivial
theorem law_holds.tw10609929442622069884 : True := trivial
theorem law_holds.tw10666784280354678857 : True := trivial
theorem law_holds.tw10667895100797718341 : True := trivial
theorem law_holds.tw10679931392274172632 : True := trivial
theorem law_holds.tw10709909458450059161 : True := trivial
theorem law_holds.tw10725132931349513577 : True := trivial
theorem law_holds.tw10726639523019406850 : True := trivial
theorem law_holds.tw10764541510735364805 : True := trivial
theorem law_holds.tw10786798759134214714 : True := trivial
theorem law_holds.tw10803361673654935901 : True := trivial
theorem law_holds.tw10812634152524527747 : True := trivial
theorem law_holds.tw10817052189556005596 : True := trivial
theorem law_holds.tw10876394233666535175 : True := trivial
theorem law_holds.tw10929289806422889615 : True := trivial
theorem law_holds.tw10944507229479926786 : True := trivial
theorem law_holds.tw10954758410522031216 : True := trivial
theorem law_holds.tw10958410103948607464 : True := trivial
theorem law_holds.tw10968802771074238664 : True := trivial
theorem law_holds.tw1096898596823417342 : True := trivial
theorem law_holds.tw10977758072711909379 : True := trivial
theorem law_holds.tw10983241140555628109 : True := trivial
theorem law_holds.tw1099259369241382048 : True := trivial
theorem law_holds.tw11046636381182338224 : True := trivial
theorem law_holds.tw11097158420108258118 : True := trivial
theorem law_holds.tw11097350217990362986 : True := trivial
theorem law_holds.tw11098625913536864229 : True := trivial
theorem law_holds.tw11100686419730198450 : True := trivial
theorem law_holds.tw11126432536435168541 : True := trivial
theorem law_holds.tw11129157725520112330 : True := trivial
theorem law_holds.tw11133525997344109421 : True := trivial
theorem law_holds.tw11167238688639235718 : True := trivial
theorem law_holds.tw11182679623053108816 : True := trivial
theorem law_holds.tw11206171021150027133 : True := trivial
theorem law_holds.tw11253982270263490198 : True := trivial
theorem law_holds.tw11283290899035178999 : True := trivial
theorem law_holds.tw11289095316329951393 : True := trivial
theorem law_holds.tw11297062200503488469 : True := trivial
theorem law_holds.tw11315637435222106236 : True := trivial
theorem law_holds.tw11330957891505755796 : True := trivial
theorem law_holds.tw11347954631545130290 : True := trivial
theorem law_holds.tw11378576750377235499 : True := trivial
theorem law_holds.tw11404014056486942332 : True := trivial
theorem law_holds.tw11406521765507704686 : True := trivial
theorem law_holds.tw11426015686315989412 : True := trivial
theorem law_holds.tw11463670642173560981 : True := trivial
theorem law_holds.tw11470271118054631628 : True := trivial
theorem law_holds.tw11484002064277903863 : True := trivial
theorem law_holds.tw11532970265236058100 : True := trivial
theorem law_holds.tw11544315989524547432 : True := trivial
theorem law_holds.tw11556845855556705167 : True := trivial
theorem law_holds.tw11576900812866516365 : True := trivial
theorem law_holds.tw11583271856484122956 : True := trivial
theorem law_holds.tw11609493526922420660 : True := trivial
theorem law_holds.tw11666318101497114028 : True := trivial
theorem law_holds.tw11676059495700223700 : True := trivial
theorem law_holds.tw11677100312832694166 : True := trivial
theorem law_holds.tw11690447701083486646 : True := trivial
theorem law_holds.tw11721147071786614939 : True := trivial
theorem law_holds.tw11803358882649189518 : True := trivial
theorem law_holds.tw11807458097852795031 : True := trivial
theorem law_holds.tw11823568539219059922 : True := trivial
theorem law_holds.tw11846676642670509255 : True := trivial
theorem law_holds.tw1186782194237197914 : True := trivial
theorem law_holds.tw11885607885636368867 : True := trivial
theorem law_holds.tw1191432763711471526 : True := trivial
theorem law_holds.tw11918526154901971515 : True := trivial
theorem law_holds.tw11924911360389889469 : True := trivial
theorem law_holds.tw1193751542720294520 : True := trivial
theorem law_holds.tw11956458263131016624 : True := trivial
theorem law_holds.tw11966672015165255308 : True := trivial
theorem law_holds.tw11977050620070087417 : True := trivial
theorem law_holds.tw12001131798957381970 : True := trivial
theorem law_holds.tw12029126673135917974 : True := trivial
theorem law_holds.tw12108977868540685583 : True := trivial
theorem law_holds.tw12116493165278983582 : True := trivial
theorem law_holds.tw12134408205421670959 : True := trivial
theorem law_holds.tw12134956360726941196 : True := trivial
theorem law_holds.tw12149405283708829123 : True := trivial
theorem law_holds.tw12153922251378674784 : True := trivial
theorem law_holds.tw12210932052861102225 : True := trivial
theorem law_holds.tw12218498018843733332 : True := trivial
theorem law_holds.tw12223724995276690173 : True := trivial
theorem law_holds.tw12253411696296436870 : True := trivial
theorem law_holds.tw12275847060699157868 : True := trivial
theorem law_holds.tw12291295341487003417 : True := trivial
theorem law_holds.tw12294597709558488554 : True := trivial
theorem law_holds.tw12296726922439171297 : True := trivial
theorem law_holds.tw12303009252429188658 : True := trivial
theorem law_holds.tw12320438053989627958 : True := trivial
theorem law_holds.tw1232645469590886286 : True := trivial
theorem law_holds.tw123295346585929383 : True := trivial
theorem law_holds.tw12342728606916771844 : True := trivial
theorem law_holds.tw12394330538082041428 : True := trivial
theorem law_holds.tw12395405093167943222 : True := trivial
theorem law_holds.tw12411438589965969376 : True := trivial
theorem law_holds.tw12419048959643632839 : True := trivial
theorem law_holds.tw12423290165067640415 : True := trivial
theorem law_holds.tw1242418559920758562 : True := trivial
theorem law_holds.tw12442163767917924457 : True := trivial
theorem law_holds.tw12456547296908542839 : True := trivial
theorem law_holds.tw12459966957829302596 : True := trivial
theorem law_holds.tw1247253217256132012 : True := trivial
theorem law_holds.tw12476058986133298565 : True := trivial
theorem law_holds.tw12481875629721207810 : True := trivial
theorem law_holds.tw12503156628232749375 : True := trivial
theorem law_holds.tw12547139144490466682 : True := trivial
theorem law_holds.tw12597187120891498251 : True := trivial
theorem law_holds.tw12610764987094191714 : True := trivial
theorem law_holds.tw12622292602297523153 : True := trivial
theorem law_holds.tw12624917743002284683 : True := trivial
theorem law_holds.tw12626328134170644701 : True := trivial
theorem law_holds.tw12634321019024901981 : True := trivial
theorem law_holds.tw12645607732203181651 : True := trivial
theorem law_holds.tw12663309570017281627 : True := trivial
theorem law_holds.tw12668044768207566790 : True := trivial
theorem law_holds.tw12684681026606017882 : True := trivial
theorem law_holds.tw12731736397290755891 : True := trivial
theorem law_holds.tw12732824653754844360 : True := trivial
theorem law_holds.tw12780804625047726367 : True := trivial
theorem law_holds.tw12795448055554024986 : True := trivial
theorem law_holds.tw12800644894191811977 : True := trivial
theorem law_holds.tw12831907817818079685 : True := trivial
theorem law_holds.tw12847567107135931479 : True := trivial
theorem law_holds.tw12850535167719870617 : True := trivial
theorem law_holds.tw1285599515219305098 : True := trivial
theorem law_holds.tw12874571214893485439 : True := trivial
theorem law_holds.tw12889673554181485818 : True := trivial
theorem law_holds.tw12949845418750544790 : True := trivial
theorem law_holds.tw12957172226269068610 : True := trivial
theorem law_holds.tw12977093529070104392 : True := trivial
theorem law_holds.tw13012089966726956846 : True := trivial
theorem law_holds.tw13028658284911697911 : True := trivial
theorem law_holds.tw1303389685018741030 : True := trivial
theorem law_holds.tw13055523775352357715 : True := trivial
theorem law_holds.tw13068417504975948891 : True := trivial
theorem law_holds.tw13087128984098923117 : True := trivial
theorem law_holds.tw13092103797297032270 : True := trivial
theorem law_holds.tw13116430531795314387 : True := trivial
theorem law_holds.tw13182730311906835528 : True := trivial
theorem law_holds.tw13220211186989608806 : True := trivial
theorem law_holds.tw13250372474279835810 : True := trivial
theorem law_holds.tw13257055565626018733 : True := trivial
theorem law_holds.tw13281950902743806629 : True := trivial
theorem law_holds.tw13287204720269558064 : True := trivial
theorem law_holds.tw13294052699122959228 : True := trivial
theorem law_holds.tw13301187468288870568 : True := trivial
theorem law_holds.tw13336368349410954346 : True := trivial
theorem law_holds.tw13342137609418717338 : True := trivial
theorem law_holds.tw13342518741750886279 : True := trivial
theorem law_holds.tw1335265377702380343 : True := trivial
theorem law_holds.tw13388431603621797793 : True := trivial
theorem law_holds.tw13392613628428298086 : True := trivial
theorem law_holds.tw13397297893571687751 : True := trivial
theorem law_holds.tw13402424001964919149 : True := trivial
theorem law_holds.tw1341266762083198811 : True := trivial
theorem law_holds.tw13425932534011304816 : True := trivial
theorem law_holds.tw13429453918920967058 : True := trivial
theorem law_holds.tw13431030151845061361 : True := trivial
theorem law_holds.tw13454136545276886934 : True := trivial
theorem law_holds.tw13476665736869980405 : True := trivial
theorem law_holds.tw13478230802861573701 : True := trivial
theorem law_holds.tw13482675847692870326 : True := trivial
theorem law_holds.tw13528896222378765290 : True := trivial
theorem law_holds.tw13536078969547264968 : True := trivial
theorem law_holds.tw13543480682446532469 : True := trivial
theorem law_holds.tw13590972695719381181 : True := trivial
theorem law_holds.tw13642005409729077643 : True := trivial
theorem law_holds.tw13650905803964671038 : True := trivial
theorem law_holds.tw13667737974841707781 : True := trivial
theorem law_holds.tw13674158931818614880 : True := trivial
theorem law_holds.tw13677857801504540592 : True := trivial
theorem law_holds.tw13687284890087897937 : True := trivial
theorem law_holds.tw13709617746848070560 : True := trivial
theorem law_holds.tw13756832539634530601 : True := trivial
theorem law_holds.tw1376783240425437725 : True := trivial
theorem law_holds.tw1377309892636839040 : True := trivial
theorem law_holds.tw13780023080261437657 : True := trivial
theorem law_holds.tw13800329570527188203 : True := trivial
theorem law_holds.tw13800757232730249582 : True := trivial
theorem law_holds.tw13809215584158714917 : True := trivial
theorem law_holds.tw1382677567924326555 : True := trivial
theorem law_holds.tw13840902789983287329 : True := trivial
theorem law_holds.tw13848119269249539950 : True := trivial
theorem law_holds.tw1385162719727133579 : True := trivial
theorem law_holds.tw13882729330811710610 : True := trivial
theorem law_holds.tw13902218012105463410 : True := trivial
theorem law_holds.tw13921793114692110018 : True := trivial
theorem law_holds.tw13956741780833797525 : True := trivial
theorem law_holds.tw13958071646730322851 : True := trivial
theorem law_holds.tw13983371404066579822 : True := trivial
theorem law_holds.tw14006344214667878806 : True := trivial
theorem law_holds.tw14051398506283589457 : True := trivial
theorem law_holds.tw14064573792008682920 : True := trivial
theorem law_holds.tw14160533322030094474 : True := trivial
theorem law_holds.tw1419239623039772522 : True := trivial
theorem law_holds.tw14289194402921355359 : True := trivial
theorem law_holds.tw14326059299131336239 : True := trivial
theorem law_holds.tw14335913921861858828 : True := trivial
theorem law_holds.tw14350573489546498162 : True := trivial
theorem law_holds.tw14351635765420936899 : True := trivial
theorem law_holds.tw14358080080312658767 : True := trivial
theorem law_holds.tw14375881129149169379 : True := trivial
theorem law_holds.tw14377833709258309704 : True := trivial
theorem law_holds.tw14489315793263303861 : True := trivial
theorem law_holds.tw14497384708736915567 : True := trivial
theorem law_holds.tw14498155544194170393 : True := trivial
theorem law_holds.tw14499810825090155391 : True := trivial
theorem law_holds.tw14521376392698553312 : True := trivial
theorem law_holds.tw14531881819706719225 : True := trivial
theorem law_holds.tw14545874151571354728 : True := trivial
theorem law_holds.tw14571795756577361901 : True := trivial
theorem law_holds.tw14596297492920191028 : True := trivial
theorem law_holds.tw14646867148444618371 : True := trivial
theorem law_holds.tw14677013365202126530 : True := trivial
theorem law_holds.tw14746732674962391887 : True := trivial
theorem law_holds.tw14774650325386425613 : True := trivial
theorem law_holds.tw14828999820898988419 : True := trivial
theorem law_holds.tw14844349234554566270 : True := trivial
theorem law_holds.tw14854378212777193641 : True := trivial
theorem law_holds.tw14872900085578418628 : True := trivial
theorem law_holds.tw14875730727996063832 : True := trivial
theorem law_holds.tw14883556706271630602 : True := trivial
theorem law_holds.tw14892801356780361778 : True := trivial
theorem law_holds.tw14925382992726071281 : True := trivial
theorem law_holds.tw14957179600199517237 : True := trivial
theorem law_holds.tw1496123403401453975 : True := trivial
theorem law_holds.tw14983226153234331074 : True := trivial
theorem law_holds.tw14988988175077273356 : True := trivial
theorem law_holds.tw14997073306097389879 : True := trivial
theorem law_holds.tw1499712698015984848 : True := trivial
theorem law_holds.tw15006436103509636135 : True := trivial
theorem law_holds.tw15014403891855920072 : True := trivial
theorem law_holds.tw15031514592837009168 : True := trivial
theorem law_holds.tw15039968919637362723 : True := trivial
theorem law_holds.tw15088961453551581880 : True := trivial
theorem law_holds.tw15123554796541802991 : True := trivial
theorem law_holds.tw15140378357190847165 : True := trivial
theorem law_holds.tw15150646450996357022 : True := trivial
theorem law_holds.tw15154110283740273250 : True := trivial
theorem law_holds.tw15162217921772873613 : True := trivial
theorem law_holds.tw15191720212996534143 : True := trivial
theorem law_holds.tw15202863084288179589 : True := trivial
theorem law_holds.tw15242022910975006910 : True := trivial
theorem law_holds.tw15272395603832836080 : True := trivial
theorem law_holds.tw15274831704391544125 : True := trivial
theorem law_holds.tw15293083901398250104 : True := trivial
theorem law_holds.tw15320506598460614908 : True := trivial
theorem law_holds.tw15333956030411951890 : True := trivial
theorem law_holds.tw15341342317828512493 : True := trivial
theorem law_holds.tw15352218221683021774 : True := trivial
theorem law_holds.tw15352839923633478061 : True := trivial
theorem law_holds.tw15359609613788013507 : True := trivial
theorem law_holds.tw15448297888555860652 : True := trivial
theorem law_holds.tw15452448965706171373 : True := trivial
theorem law_holds.tw15472126771306010800 : True := trivial
theorem law_holds.tw15483129889696659574 : True := trivial
theorem law_holds.tw1550374771381668074 : True := trivial
theorem law_holds.tw15514866124879379921 : True := trivial
theorem law_holds.tw15522444059895599089 : True := trivial
theorem law_holds.tw15527639110640922598 : True := trivial
theorem law_holds.tw15533563059666576871 : True := trivial
theorem law_holds.tw1553815827575651469 : True := trivial
theorem law_holds.tw15544829507116839252 : True := trivial
theorem law_holds.tw15609566024721092083 : True := trivial
theorem law_holds.tw15617896438947887921 : True := trivial
theorem law_holds.tw15623931887893595886 : True := trivial
theorem law_holds.tw15644819842384902770 : True := trivial
theorem law_holds.tw15646520184464998804 : True := trivial
theorem law_holds.tw15661869461025623997 : True := trivial
theorem law_holds.tw1567021292681222707 : True := trivial
theorem law_holds.tw15695062497276918967 : True := trivial
theorem law_holds.tw15720521576913467304 : True := trivial
theorem law_holds.tw15726739188670627701 : True := trivial
theorem law_holds.tw15732109348078318572 : True := trivial
theorem law_holds.tw15741379261994504178 : True := trivial
theorem law_holds.tw15789929832340015234 : True := trivial
theorem law_holds.tw15796309260620551687 : True := trivial
theorem law_holds.tw15829985883664642994 : True := trivial
theorem law_holds.tw15837452725152343555 : True := trivial
theorem law_holds.tw15837584211629593338 : True := trivial
theorem law_holds.tw15848713872586308078 : True := trivial
theorem law_holds.tw15873654808861938513 : True := trivial
theorem law_holds.tw1588742098881680585 : True := trivial
theorem law_holds.tw15917412866852771543 : True := trivial
theorem law_holds.tw16009327648451700120 : True := trivial
theorem law_holds.tw16057390660189216267 : True := trivial
theorem law_holds.tw16066104587097768911 : True := trivial
theorem law_holds.tw16074064945343616743 : True := trivial
theorem law_holds.tw160851071654074740 : True := trivial
theorem law_holds.tw1608705131773203619 : True := trivial
theorem law_holds.tw16092355726972411579 : True := trivial
theorem law_holds.tw16098122237329998606 : True := trivial
theorem law_holds.tw16098570224071239113 : True := trivial
theorem law_holds.tw16099233806120587224 : True := trivial
theorem law_holds.tw16106779387088534511 : True := trivial
theorem law_holds.tw16122234104351945819 : True := trivial
theorem law_holds.tw16165715940066559518 : True := trivial
theorem law_holds.tw16174998905534648557 : True := trivial
theorem law_holds.tw16184459414616452189 : True := trivial
theorem law_holds.tw16190568399584723965 : True := trivial
theorem law_holds.tw16190678330180157336 : True := trivial
theorem law_holds.tw16192464803593610453 : True := trivial
theorem law_holds.tw16202244259718314570 : True := trivial
theorem law_holds.tw1622690429015379626 : True := trivial
theorem law_holds.tw16245577235439221107 : True := trivial
theorem law_holds.tw16307713440670912930 : True := trivial
theorem law_holds.tw16332274672890094952 : True := trivial
theorem law_holds.tw16381176275627223697 : True := trivial
theorem law_holds.tw16406091861079842607 : True := trivial
theorem law_holds.tw16461882675039125421 : True := trivial
theorem law_holds.tw16462895619179043833 : True := trivial
theorem law_holds.tw16470317323979864763 : True := trivial
theorem law_holds.tw16482278838752557086 : True := trivial
theorem law_holds.tw16563099163409725306 : True := trivial
theorem law_holds.tw16606368319796509530 : True := trivial
theorem law_holds.tw16611002227686233599 : True := trivial
theorem law_holds.tw16612359704951912572 : True := trivial
theorem law_holds.tw16625653849559256525 : True := trivial
theorem law_holds.tw16641252976520058099 : True := trivial
theorem law_holds.tw16691439815215545270 : True := trivial
theorem law_holds.tw1670043908289496885 : True := trivial
theorem law_holds.tw16701994192336326122 : True := trivial
theorem law_holds.tw16708887144172644987 : True := trivial
theorem law_holds.tw16720094985154256693 : True := trivial
theorem law_holds.tw16760957895259694429 : True := trivial
theorem law_holds.tw16765433158599729185 : True := trivial
theorem law_holds.tw16771549258648962210 : True := trivial
theorem law_holds.tw16805829885119392726 : True := trivial
theorem law_holds.tw1681173693875575501 : True := trivial
theorem law_holds.tw16827775902095551856 : True := trivial
theorem law_holds.tw16836969012518115619 : True := trivial
theorem law_holds.tw1685627985566243432 : True := trivial
theorem law_holds.tw16871385213344756426 : True := trivial
theorem law_holds.tw16873695467490121585 : True := trivial
theorem law_holds.tw16883458599210261866 : True := trivial
theorem law_holds.tw16893121556090616931 : True := trivial
theorem law_holds.tw1689763614830377041 : True := trivial
theorem law_holds.tw16914220770136414715 : True := trivial
theorem law_holds.tw16935243356766158856 : True := trivial
theorem law_holds.tw16963379459963715452 : True := trivial
theorem law_holds.tw16978406815995349258 : True := trivial
theorem law_holds.tw17027635718292003107 : True := trivial
theorem law_holds.tw17028624522117568015 : True := trivial
theorem law_holds.tw17046799393618780204 : True := trivial
theorem law_holds.tw17057571662750997169 : True := trivial
theorem law_holds.tw17089861810051081540 : True := trivial
theorem law_holds.tw1710076424337546998 : True := trivial
theorem law_holds.tw17137235678499792623 : True := trivial
theorem law_holds.tw17156363617357476176 : True := trivial
theorem law_holds.tw17169043682955552997 : True := trivial
theorem law_holds.tw17183477848116922584 : True := trivial
theorem law_holds.tw1722738952054099684 : True := trivial
theorem law_holds.tw17248354013995264833 : True := trivial
theorem law_holds.tw1724926542741425601 : True := trivial
theorem law_holds.tw17249539165995611551 : True := trivial
theorem law_holds.tw17253691774821329096 : True := trivial
theorem law_holds.tw17253903310271361901 : True := trivial
theorem law_holds.tw17255088995462705879 : True := trivial
theorem law_holds.tw17264387287909652857 : True := trivial
theorem law_holds.tw17274716441693411508 : True := trivial
theorem law_holds.tw17294823503141414406 : True := trivial
theorem law_holds.tw17305254018735503138 : True := trivial
theorem law_holds.tw17309000430359075326 : True := trivial
theorem law_holds.tw17311987242748728955 : True := trivial
theorem law_holds.tw17333074002647195236 : True := trivial
theorem law_holds.tw17345407343664743607 : True := trivial
theorem law_holds.tw17348551593414719351 : True := trivial
theorem law_holds.tw17352347295132562470 : True := trivial
theorem law_holds.tw17364227736987735495 : True := trivial
theorem law_holds.tw1737005901722704485 : True := trivial
theorem law_holds.tw17371252989657294990 : True := trivial
theorem law_holds.tw17419225075052043924 : True := trivial
theorem law_holds.tw17458534234597298029 : True := trivial
theorem law_holds.tw17470365217354309832 : True := trivial
theorem law_holds.tw17499823404086765753 : True := trivial
theorem law_holds.tw17523808032732122987 : True := trivial
theorem law_holds.tw17529362906406652863 : True := trivial
theorem law_holds.tw1755247457520882261 : True := trivial
theorem law_holds.tw17553930602362091883 : True := trivial
theorem law_holds.tw17562025525947693838 : True := trivial
theorem law_holds.tw17566352759061798047 : True := trivial
theorem law_holds.tw17580165497215679439 : True := trivial
theorem law_holds.tw1762888911704233025 : True := trivial
theorem law_holds.tw17635003217326761883 : True := trivial
theorem law_holds.tw17713402740875732926 : True := trivial
theorem law_holds.tw17758146289354676595 : True := trivial
theorem law_holds.tw17775403365899300489 : True := trivial
theorem law_holds.tw1778412455037948541 : True := trivial
theorem law_holds.tw17830944117370523080 : True := trivial
theorem law_holds.tw17848598403364733487 : True := trivial
theorem law_holds.tw17865009358878524859 : True := trivial
theorem law_holds.tw17884844454425935293 : True := trivial
theorem law_holds.tw17899081815984039989 : True := trivial
theorem law_holds.tw1791086108937442324 : True := trivial
theorem law_holds.tw17911580528928914924 : True := trivial
theorem law_holds.tw17923851452625207687 : True := trivial
theorem law_holds.tw17942499455142895165 : True := trivial
theorem law_holds.tw17942709131360195518 : True := trivial
theorem law_holds.tw17974257514489008736 : True := trivial
theorem law_holds.tw17993387198741990920 : True := trivial
theorem law_holds.tw18006792725990754497 : True := trivial
theorem law_holds.tw18051328159682125866 : True := trivial
theorem law_holds.tw18088736630749135056 : True := trivial
theorem law_holds.tw18090433342136740992 : True := trivial
theorem law_holds.tw180908045013255413 : True := trivial
theorem law_holds.tw18116031599527039140 : True := trivial
theorem law_holds.tw18135211599370774712 : True := trivial
theorem law_holds.tw18153520721480276881 : True := trivial
theorem law_holds.tw18155623678392573649 : True := trivial
theorem law_holds.tw18155977372800253590 : True := trivial
theorem law_holds.tw18175461317813798535 : True := trivial
theorem law_holds.tw1819244514083003361 : True := trivial
theorem law_holds.tw1819975233463548508 : True := trivial
theorem law_holds.tw18203989763732354715 : True := trivial
theorem law_holds.tw18221428039690301666 : True := trivial
theorem law_holds.tw18234560199702728603 : True := trivial
theorem law_holds.tw18254337876149969668 : True := trivial
theorem law_holds.tw18261290160731607033 : True := trivial
theorem law_holds.tw18269650602155537469 : True := trivial
theorem law_holds.tw18309190362041527269 : True := trivial
theorem law_holds.tw18312799740870528207 : True := trivial
theorem law_holds.tw18326849912455186884 : True := trivial
theorem law_holds.tw18340385619391811705 : True := trivial
theorem law_holds.tw18340598423539479173 : True := trivial
theorem law_holds.tw18430954121086234272 : True := trivial
theorem law_holds.tw1905533677188600702 : True := trivial
theorem law_holds.tw1909877003179415225 : True := trivial
theorem law_holds.tw1928719863018725356 : True := trivial
theorem law_holds.tw1929443778124869092 : True := trivial
theorem law_holds.tw1973129929022764952 : True := trivial
theorem law_holds.tw1980014416275693142 : True := trivial
theorem law_holds.tw1989176631692091739 : True := trivial
theorem law_holds.tw1995169965324791860 : True := trivial
theorem law_holds.tw1997475870405608531 : True := trivial
theorem law_holds.tw2006301483956418059 : True := trivial
theorem law_holds.tw2008241840959921210 : True := trivial
theorem law_holds.tw2016121425191149895 : True := trivial
theorem law_holds.tw2017991025062827469 : True := trivial
theorem law_holds.tw2039724139929955007 : True := trivial
theorem law_holds.tw2043166853727251185 : True := trivial
theorem law_holds.tw2055734563569237896 : True := trivial
theorem law_holds.tw2075624079617657780 : True := trivial
theorem law_holds.tw2078624436916829710 : True := trivial
theorem law_holds.tw2090888555730037645 : True := trivial
theorem law_holds.tw2096525686368166746 : True := trivial
theorem law_holds.tw2112619612379961697 : True := trivial
theorem law_holds.tw2127001594154878533 : True := trivial
theorem law_holds.tw2136269947727277649 : True := trivial
theorem law_holds.tw2139172203440323022 : True := trivial
theorem law_holds.tw2139843940965253949 : True := trivial
theorem law_holds.tw2142710703020379005 : True := trivial
theorem law_holds.tw2143268655074302082 : True := trivial
theorem law_holds.tw2152083551845799040 : True := trivial
theorem law_holds.tw217386770830766740 : True := trivial
theorem law_holds.tw2175471002772951711 : True := trivial
theorem law_holds.tw218528332313867021 : True := trivial
theorem law_holds.tw2211468639325271704 : True := trivial
theorem law_holds.tw2269544990204364226 : True := trivial
theorem law_holds.tw228058311090241170 : True := trivial
theorem law_holds.tw2295933128562542503 : True := trivial
theorem law_holds.tw2303879751551577860 : True := trivial
theorem law_holds.tw2322801206320994539 : True := trivial
theorem law_holds.tw2325693721150917532 : True := trivial
theorem law_holds.tw2327590871639926724 : True := trivial
theorem law_holds.tw2376695672464595844 : True := trivial
theorem law_holds.tw2382714987290314120 : True := trivial
theorem law_holds.tw2384872892506856444 : True := trivial
theorem law_holds.tw2384963693675321470 : True := trivial
theorem law_holds.tw2387193687640843687 : True := trivial
theorem law_holds.tw2395105632611409283 : True := trivial
theorem law_holds.tw2401843486660128364 : True := trivial
theorem law_holds.tw2414074194907454277 : True := trivial
theorem law_holds.tw2414130084998747865 : True := trivial
theorem law_holds.tw2414361068126709639 : True := trivial
theorem law_holds.tw2446358144275080391 : True := trivial
theorem law_holds.tw245764215241151709 : True := trivial
theorem law_holds.tw2470889107711209942 : True := trivial
theorem law_holds.tw2503670479209048990 : True := trivial
theorem law_holds.tw2557128651999224082 : True := trivial
theorem law_holds.tw2558664710541493025 : True := trivial
theorem law_holds.tw2578278018795888234 : True := trivial
theorem law_holds.tw2589748818833699389 : True := trivial
theorem law_holds.tw2602977815382960713 : True := trivial
theorem law_holds.tw2643161274291862537 : True := trivial
theorem law_holds.tw2643271747718453845 : True := trivial
theorem law_holds.tw2644310842459337959 : True := trivial
theorem law_holds.tw2665602086022161900 : True := trivial
theorem law_holds.tw2695550118857162214 : True := trivial
theorem law_holds.tw270554467692517631 : True := trivial
theorem law_holds.tw2731376850318366449 : True := trivial
theorem law_holds.tw2782419253953178936 : True := trivial
theorem law_holds.tw2788888992717563140 : True := trivial
theorem law_holds.tw2798143973674455058 : True := trivial
theorem law_holds.tw2823118279179183905 : True := trivial
theorem law_holds.tw2829063650774624953 : True := trivial
theorem law_holds.tw2851267720448770887 : True := trivial
theorem law_holds.tw2856731137302751260 : True := trivial
theorem law_holds.tw2865737869514987218 : True := trivial
theorem law_holds.tw2887050238494874643 : True := trivial
theorem law_holds.tw2887994833065977647 : True := trivial
theorem law_holds.tw2903333896348957400 : True := trivial
theorem law_holds.tw2907507879108658156 : True := trivial
theorem law_holds.tw2924946361707170262 : True := trivial
theorem law_holds.tw293627430662643474 : True := trivial
theorem law_holds.tw3005452535816212104 : True := trivial
theorem law_holds.tw3012480247710183994 : True := trivial
theorem law_holds.tw3024374315939245509 : True := trivial
theorem law_holds.tw3033269912633744064 : True := trivial
theorem law_holds.tw3035144380315620824 : True := trivial
theorem law_holds.tw3046938939346580660 : True := trivial
theorem law_holds.tw3077249439568447194 : True := trivial
theorem law_holds.tw3110860835449505704 : True := trivial
theorem law_holds.tw3127913417769977931 : True := trivial
theorem law_holds.tw312863333873483875 : True := trivial
theorem law_holds.tw3136910860242942599 : True := trivial
theorem law_holds.tw3152906847767001463 : True := trivial
theorem law_holds.tw3158129796062787159 : True := trivial
theorem law_holds.tw3186734533307500241 : True := trivial
theorem law_holds.tw3196237028118051783 : True := trivial
theorem law_holds.tw3234938669768167354 : True := trivial
theorem law_holds.tw3253820488102484341 : True := trivial
theorem law_holds.tw3307954989432871184 : True := trivial
theorem law_holds.tw3329330481660614911 : True := trivial
theorem law_holds.tw3339164412607631549 : True := trivial
theorem law_holds.tw3366817510852727610 : True := trivial
theorem law_holds.tw3416923247095428876 : True := trivial
theorem law_holds.tw3426384778480675251 : True := trivial
theorem law_holds.tw3438298445031660282 : True := trivial
theorem law_holds.tw3487968232213910406 : True := trivial
theorem law_holds.tw3494445600050047599 : True := trivial
theorem law_holds.tw3545908947808057021 : True := trivial
theorem law_holds.tw3551631022101015893 : True := trivial
theorem law_holds.tw3586223124089845285 : True := trivial
theorem law_holds.tw3595789414353437717 : True := trivial
theorem law_holds.tw3607733795294823564 : True := trivial
theorem law_holds.tw3625451137614018508 : True := trivial
theorem law_holds.tw3663427449441712954 : True := trivial
theorem law_holds.tw3672438013989251361 : True := trivial
theorem law_holds.tw367903286550418209 : True := trivial
theorem law_holds.tw3682559726232862161 : True := trivial
theorem law_holds.tw3692103080737180250 : True := trivial
theorem law_holds.tw3756308257209627903 : True := trivial
theorem law_holds.tw3772654092419426264 : True := trivial
theorem law_holds.tw3776956092104397036 : True := trivial
theorem law_holds.tw3808703085821546077 : True := trivial
theorem law_holds.tw3816018429785431304 : True := trivial
theorem law_holds.tw3850334171643177529 : True := trivial
theorem law_holds.tw3850375180904979519 : True := trivial
theorem law_holds.tw3850404396616230974 : True := trivial
theorem law_holds.tw3882201998751590657 : True := trivial
theorem law_holds.tw3882250662718909693 : True := trivial
theorem law_holds.tw3882529693313664476 : True := trivial
theorem law_holds.tw3896150654470677357 : True := trivial
theorem law_holds.tw3910120701321347557 : True := trivial
theorem law_holds.tw3920392572372402345 : True := trivial
theorem law_holds.tw3927331946688356228 : True := trivial
theorem law_holds.tw3955097671198598788 : True := trivial
theorem law_holds.tw3956099054510807996 : True := trivial
theorem law_holds.tw3958906441317128266 : True := trivial
theorem law_holds.tw3959601488294255719 : True := trivial
theorem law_holds.tw3974387499553966400 : True := trivial
theorem law_holds.tw3979707639553702691 : True := trivial
theorem law_holds.tw4008084134468147086 : True := trivial
theorem law_holds.tw4012412122566942357 : True := trivial
theorem law_holds.tw4030767218360268280 : True := trivial
theorem law_holds.tw4037582482628031876 : True := trivial
theorem law_holds.tw4072507727158212662 : True := trivial
theorem law_holds.tw4080157896497106081 : True := trivial
theorem law_holds.tw4124640904062056756 : True := trivial
theorem law_holds.tw415365407113419659 : True := trivial
theorem law_holds.tw4211113817173803656 : True := trivial
theorem law_holds.tw4329158554759489670 : True := trivial
theorem law_holds.tw4335992446042490282 : True := trivial
theorem law_holds.tw4358403320081769719 : True := trivial
theorem law_holds.tw4360515638614775343 : True := trivial
theorem law_holds.tw4370086069003782432 : True := trivial
theorem law_holds.tw4433843952089619705 : True := trivial
theorem law_holds.tw4439653461905209652 : True := trivial
theorem law_holds.tw4441770287765753910 : True := trivial
theorem law_holds.tw445335354869643106 : True := trivial
theorem law_holds.tw4464252984393422682 : True := trivial
theorem law_holds.tw447027507633508388 : True := trivial
theorem law_holds.tw4492043994082249198 : True := trivial
theorem law_holds.tw4503035019201841076 : True := trivial
theorem law_holds.tw4515466672771955728 : True := trivial
theorem law_holds.tw4517222822008671029 : True := trivial
theorem law_holds.tw4524032621918665186 : True := trivial
theorem law_holds.tw455179833554555240 : True := trivial
theorem law_holds.tw4575823598074768960 : True := trivial
theorem law_holds.tw4581845663705801772 : True := trivial
theorem law_holds.tw4593294709026258786 : True := trivial
theorem law_holds.tw4614512636035447770 : True := trivial
theorem law_holds.tw462603977267732627 : True := trivial
theorem law_holds.tw4635674611617693574 : True := trivial
theorem law_holds.tw4643041051132140158 : True := trivial
theorem law_holds.tw4781243967656130014 : True := trivial
theorem law_holds.tw4797790103318477656 : True := trivial
theorem law_holds.tw4818577856007422655 : True := trivial
theorem law_holds.tw4820369329881294799 : True := trivial
theorem law_holds.tw4913491355128607118 : True := trivial
theorem law_holds.tw4916342969005030805 : True := trivial
theorem law_holds.tw4963573110770748834 : True := trivial
theorem law_holds.tw4991859449750346478 : True := trivial
theorem law_holds.tw4992725456586698614 : True := trivial
theorem law_holds.tw4995542688137877417 : True := trivial
theorem law_holds.tw5037970770195530229 : True := trivial
theorem law_holds.tw503957847093417577 : True := trivial
theorem law_holds.tw5044595872519035376 : True := trivial
theorem law_holds.tw5045712524691215523 : True := trivial
theorem law_holds.tw5087963091746180759 : True := trivial
theorem law_holds.tw5117662029339320154 : True := trivial
theorem law_holds.tw519298541982818421 : True := trivial
theorem law_holds.tw5212653520564569363 : True := trivial
theorem law_holds.tw5222685764011923507 : True := trivial
theorem law_holds.tw5274592661964301406 : True := trivial
theorem law_holds.tw5277994541964179845 : True := trivial
theorem law_holds.tw5364902710198789758 : True := trivial
theorem law_holds.tw5405950176245079350 : True := trivial
theorem law_holds.tw5432952435368640112 : True := trivial
theorem law_holds.tw5455921660152230842 : True := trivial
theorem law_holds.tw5488932636959071455 : True := trivial
theorem law_holds.tw5640673133297012132 : True := trivial
theorem law_holds.tw5647190250986860303 : True := trivial
theorem law_holds.tw5725672013846136890 : True := trivial
theorem law_holds.tw5731563423909890137 : True := trivial
theorem law_holds.tw576407869801174206 : True := trivial
theorem law_holds.tw5765542928187402639 : True := trivial
theorem law_holds.tw5769158387606399586 : True := trivial
theorem law_holds.tw5788490908846893860 : True := trivial
theorem law_holds.tw5791418645094131800 : True := trivial
theorem law_holds.tw5842969613912506279 : True := trivial
theorem law_holds.tw5898729028444588960 : True := trivial
theorem law_holds.tw5907203647135998699 : True := trivial
theorem law_holds.tw5914491427308094424 : True := trivial
theorem law_holds.tw5920216800500632969 : True := trivial
theorem law_holds.tw5926295103528105954 : True := trivial
theorem law_holds.tw5950301352895977177 : True := trivial
theorem law_holds.tw5981114437932730796 : True := trivial
theorem law_holds.tw5994716906283268228 : True := trivial
theorem law_holds.tw602461330855297101 : True := trivial
theorem law_holds.tw6041440012092600215 : True := trivial
theorem law_holds.tw607667584577438428 : True := trivial
theorem law_holds.tw6116483010803129801 : True := trivial
theorem law_holds.tw6119071299663865417 : True := trivial
theorem law_holds.tw6122225920155410508 : True := trivial
theorem law_holds.tw6159533029260741167 : True := trivial
theorem law_holds.tw6168114395901332020 : True := trivial
theorem law_holds.tw6177970194926469781 : True := trivial
theorem law_holds.tw6189876280036216102 : True := trivial
theorem law_holds.tw6265907326580845545 : True := trivial
theorem law_holds.tw631266038723830076 : True := trivial
theorem law_holds.tw6317479115527610633 : True := trivial
theorem law_holds.tw6319825239189999033 : True := trivial
theorem law_holds.tw6333624483447246961 : True := trivial
theorem law_holds.tw6345391036791879355 : True := trivial
theorem law_holds.tw6346621912233149993 : True := trivial
theorem law_holds.tw6347680836309536272 : True := trivial
theorem law_holds.tw6354221664691742131 : True := trivial
theorem law_holds.tw6377815916425241027 : True := trivial
theorem law_holds.tw6381524096760519305 : True := trivial
theorem law_holds.tw6499956759230125245 : True := trivial
theorem law_holds.tw6553333263825352884 : True := trivial
theorem law_holds.tw6564709946809587534 : True := trivial
theorem law_holds.tw6580623548314892615 : True := trivial
theorem law_holds.tw660297872995803996 : True := trivial
theorem law_holds.tw6603102845771900818 : True := trivial
theorem law_holds.tw6667284449218939238 : True := trivial
theorem law_holds.tw6674817763981286723 : True := trivial
theorem law_holds.tw6677821561840896501 : True := trivial
theorem law_holds.tw6709271908398517637 : True := trivial
theorem law_holds.tw6719018230134327050 : True := trivial
theorem law_holds.tw6723812968561706957 : True := trivial
theorem law_holds.tw6727219029552735585 : True := trivial
theorem law_holds.tw6747315666322679634 : True := trivial
theorem law_holds.tw6751701741844952029 : True := trivial
theorem law_holds.tw6765152471904792315 : True := trivial
theorem law_holds.tw6776455111828631412 : True := trivial
theorem law_holds.tw6785346068080328177 : True := trivial
theorem law_holds.tw6856271012784772064 : True := trivial
theorem law_holds.tw6861490101519172755 : True := trivial
theorem law_holds.tw6869992995446874880 : True := trivial
theorem law_holds.tw6881874429007886204 : True := trivial
theorem law_holds.tw6882020374766023752 : True := trivial
theorem law_holds.tw6890789416708739275 : True := trivial
theorem law_holds.tw6934448944433832347 : True := trivial
theorem law_holds.tw6952626026076278478 : True := trivial
theorem law_holds.tw699380112222796084 : True := trivial
theorem law_holds.tw7014720503175028613 : True := trivial
theorem law_holds.tw7052821283958023361 : True := trivial
theorem law_holds.tw7065687269430880089 : True := trivial
theorem law_holds.tw7067974818453428095 : True := trivial
theorem law_holds.tw7087491825025586495 : True := trivial
theorem law_holds.tw7089819591129360890 : True := trivial
theorem law_holds.tw7116731048869669803 : True := trivial
theorem law_holds.tw7120836010843673076 : True := trivial
theorem law_holds.tw7169296243666066974 : True := trivial
theorem law_holds.tw718173064312146323 : True := trivial
theorem law_holds.tw7185456241796803578 : True := trivial
theorem law_holds.tw7221428835167493151 : True := trivial
theorem law_holds.tw723553956927101924 : True := trivial
theorem law_holds.tw7283070072754485986 : True := trivial
theorem law_holds.tw7304591109411159013 : True := trivial
theorem law_holds.tw7311554392007033315 : True := trivial
theorem law_holds.tw7313538909654459803 : True := trivial
theorem law_holds.tw7345768897557615242 : True := trivial
theorem law_holds.tw7346270606818648071 : True := trivial
theorem law_holds.tw7351129398174139865 : True := trivial
theorem law_holds.tw7356349956106387506 : True := trivial
theorem law_holds.tw7404543985812422374 : True := trivial
theorem law_holds.tw7407239408455114201 : True := trivial
theorem law_holds.tw7408322871517469003 : True := trivial
theorem law_holds.tw7408472829698581751 : True := trivial
theorem law_holds.tw745255978533919091 : True := trivial
theorem law_holds.tw7472407996622490835 : True := trivial
theorem law_holds.tw7479968899032947501 : True := trivial
theorem law_holds.tw7480714314260584917 : True := trivial
theorem law_holds.tw7484302960587174374 : True := trivial
theorem law_holds.tw7495221243884187115 : True := trivial
theorem law_holds.tw7497986649931050792 : True := trivial
theorem law_holds.tw7510824731391710808 : True := trivial
theorem law_holds.tw7544913113114293122 : True := trivial
theorem law_holds.tw7556614973213307419 : True := trivial
theorem law_holds.tw7566432030715092817 : True := trivial
theorem law_holds.tw7604666192120794032 : True := trivial
theorem law_holds.tw7636989558263936852 : True := trivial
theorem law_holds.tw7675160084493405025 : True := trivial
theorem law_holds.tw7695934317539461687 : True := trivial
theorem law_holds.tw7696488724909661519 : True := trivial
theorem law_holds.tw7699555767970713544 : True := trivial
theorem law_holds.tw7703727192748681421 : True := trivial
theorem law_holds.tw7743764779111840046 : True := trivial
theorem law_holds.tw7767266014307106701 : True := trivial
theorem law_holds.tw7769649832755249146 : True := trivial
theorem law_holds.tw7775064044895347852 : True := trivial
theorem law_holds.tw7820799176418779761 : True := trivial
theorem law_holds.tw7917754353467396125 : True := trivial
theorem law_holds.tw8035577848987061507 : True := trivial
theorem law_holds.tw8040771413219435098 : True := trivial
theorem law_holds.tw8061732933902216757 : True := trivial
theorem law_holds.tw8069529665006113395 : True := trivial
theorem law_holds.tw808278469055374699 : True := trivial
theorem law_holds.tw811035903429128223 : True := trivial
theorem law_holds.tw8131574967351443871 : True := trivial
theorem law_holds.tw8157880013524578536 : True := trivial
theorem law_holds.tw8170779377897787297 : True := trivial
theorem law_holds.tw8176227357466254829 : True := trivial
theorem law_holds.tw8191475993861738794 : True := trivial
theorem law_holds.tw8210953160692291510 : True := trivial
theorem law_holds.tw8249079356659094474 : True := trivial
theorem law_holds.tw8266603773606604290 : True := trivial
theorem law_holds.tw8283681822388582728 : True := trivial
theorem law_holds.tw8285764192309689115 : True := trivial
theorem law_holds.tw8297313697389066934 : True := trivial
theorem law_holds.tw8312275703017117140 : True := trivial
theorem law_holds.tw8312341600987523519 : True := trivial
theorem law_holds.tw8330938851228082562 : True := trivial
theorem law_holds.tw8348593887167344805 : True := trivial
theorem law_holds.tw8386679336120195906 : True := trivial
theorem law_holds.tw841179935631392477 : True := trivial
theorem law_holds.tw8413839820570837369 : True := trivial
theorem law_holds.tw8417186165934385351 : True := trivial
theorem law_holds.tw8441880690091102137 : True := trivial
theorem law_holds.tw8472228645029834797 : True := trivial
theorem law_holds.tw8481075993509181622 : True := trivial
theorem law_holds.tw850272041215511910 : True := trivial
theorem law_holds.tw8514742172934523775 : True := trivial
theorem law_holds.tw8549365171731915398 : True := trivial
theorem law_holds.tw8553002610548859549 : True := trivial
theorem law_holds.tw8570087061310353148 : True := trivial
theorem law_holds.tw863230966790177721 : True := trivial
theorem law_holds.tw8634839017697508684 : True := trivial
theorem law_holds.tw8652346329174877282 : True := trivial
theorem law_holds.tw8666519363043736892 : True := trivial
theorem law_holds.tw8685087848568736164 : True := trivial
theorem law_holds.tw8715444014776630742 : True := trivial
theorem law_holds.tw8720880381367431298 : True := trivial
theorem law_holds.tw8763168800255643514 : True := trivial
theorem law_holds.tw8785698371604719795 : True := trivial
theorem law_holds.tw8790382262760724670 : True := trivial
theorem law_holds.tw8796305342591271336 : True := trivial
theorem law_holds.tw8806649888931605024 : True := trivial
theorem law_holds.tw881140697980615281 : True := trivial
theorem law_holds.tw8829074647290719032 : True := trivial
theorem law_holds.tw8835965917227929528 : True := trivial
theorem law_holds.tw8854015012368427407 : True := trivial
theorem law_holds.tw8856317710758748564 : True := trivial
theorem law_holds.tw8860054118572591635 : True := trivial
theorem law_holds.tw8890443458166856008 : True := trivial
theorem law_holds.tw8909828626151137519 : True := trivial
theorem law_holds.tw8922897050441119698 : True := trivial
theorem law_holds.tw8939018918628865471 : True := trivial
theorem law_holds.tw8957123355933967898 : True := trivial
theorem law_holds.tw8970147916757833333 : True := trivial
theorem law_holds.tw8982592368679156308 : True := trivial
theorem law_holds.tw8984152853971343422 : True := trivial
theorem law_holds.tw8984712037535005518 : True := trivial
theorem law_holds.tw8989625286065859495 : True := trivial
theorem law_holds.tw9009705080361974123 : True := trivial
theorem law_holds.tw9013377322688217293 : True := trivial
theorem law_holds.tw9032088933897422861 : True := trivial
theorem law_holds.tw9032369906271771983 : True := trivial
theorem law_holds.tw9069877914133315304 : True := trivial
theorem law_holds.tw907578622648922086 : True := trivial
theorem law_holds.tw9168033884955339765 : True := trivial
theorem law_holds.tw9184033795430018204 : True := trivial
theorem law_holds.tw9187647767651647856 : True := trivial
theorem law_holds.tw9207643191828677137 : True := trivial
theorem law_holds.tw9212889513913684515 : True := trivial
theorem law_holds.tw9220624806794609946 : True := trivial
theorem law_holds.tw9255152265573255198 : True := trivial
theorem law_holds.tw926570990666696690 : True := trivial
theorem law_holds.tw9288214680346807717 : True := trivial
theorem law_holds.tw9290190842861060508 : True := trivial
theorem law_holds.tw9317688335297629284 : True := trivial
theorem law_holds.tw9403268196540146800 : True := trivial
theorem law_holds.tw9423440377400516374 : True := trivial
theorem law_holds.tw9432226000188453795 : True := trivial
theorem law_holds.tw9442120237013122589 : True := trivial
theorem law_holds.tw9483915327669328748 : True := trivial
theorem law_holds.tw9502071092897418529 : True := trivial
theorem law_holds.tw9524400087533092186 : True := trivial
theorem law_holds.tw9525127294725463027 : True := trivial
theorem law_holds.tw9529696498207198238 : True := trivial
theorem law_holds.tw9548147230944474901 : True := trivial
theorem law_holds.tw9552830710289189752 : True := trivial
theorem law_holds.tw9606376775287448836 : True := trivial
theorem law_holds.tw9611832331244035263 : True := trivial
theorem law_holds.tw9629251133229016361 : True := trivial
theorem law_holds.tw9659893776534165664 : True := trivial
theorem law_holds.tw9682718004065560343 : True := trivial
theorem law_holds.tw972601921857779769 : True := trivial
theorem law_holds.tw9746213474893016414 : True := trivial
theorem law_holds.tw9758047768218912823 : True := trivial
theorem law_holds.tw9758593294864014727 : True := trivial
theorem law_holds.tw9771763415549976096 : True := trivial
theorem law_holds.tw9779807473162285230 : True := trivial
theorem law_holds.tw981846192996546977 : True := trivial
theorem law_holds.tw9843604407834444796 : True := trivial
theorem law_holds.tw9849722394096787677 : True := trivial
theorem law_holds.tw9871626496009991038 : True := trivial
theorem law_holds.tw9875236377963488844 : True := trivial
theorem law_holds.tw9889521400790421688 : True := trivial
theorem law_holds.tw9897484093202304508 : True := trivial
theorem law_holds.tw9952934120092978494 : True := trivial
theorem law_holds.tw9965324091349369512 : True := trivial
theorem law_holds.tw9975692261777386857 : True := trivial
theorem law_holds.tw9989359697036934923 : True := trivial
theorem law_holds.tw9992725586745946429 : True := trivial
theorem law_holds.tw8075568018651887793 : True := trivial
end Mine
section -- L2z
open PySem PySem.W PyProof.Rows PySem.Calls
set_option maxRecDepth 100000
namespace Mine
set_option maxHeartbeats 4000000
set_option Elab.async true in
set_option maxHeartbeats 8000000 in
theorem law_holds : PySem.Challenge.rw_kn0093_02.Holds := by
  w_on
  o_law
  o_head (kHook hd.heap_39 heapAs (fun _ => by kernel_rfl))
  case hw => w_witness2
  w_top off
  intro w s₀ s₁ mg mb G Y fa o pm cd doc dV kV ho hd hcd hD hmg hg args vals as hpre hlay hrd hwl hlo
  have KX := kIn_of Y
  refine Ground.open G ?_
  intro T _ _ TE TW
  have hfa : fa = 602 := by
    have e := mg_of (v := .ref 602) KX T.g (n := "law") (by kernel_rfl)
    have e' := (show mg "law" = some (.ref fa) from hmg)
    rw [e] at e'
    cases e'
    rfl
  subst hfa
  clear hmg ho hd hcd hD TE TW
  wrow_args hpre hlay hrd hwl hlo
  rename IntsAre _ _ => hI
  rename Heap.IsList _ _ _ => hL
  rename ¬ _ => hc
  have key := law_walk (s := s₁) (R := fun r s' => r = .ok (.ret (.bool true)) ∧ ∃ h' t', s' = { s₁ with heap := h', toks := t' } ∧ ∀ b o, s₁.heap.get? b = some o → h'.get? b = some o) KX T (below_caller _) hL hI (by omega) fun h' t' hk => ⟨rfl, h', t', rfl, hk⟩
  refine g_call (g_codeMono key fun r s' hr => ?_)
  obtain ⟨rfl, h', t', rfl, hk⟩ := hr
  refine GoodW.toG ⟨.inl ⟨_, _, _, rfl, fun _ => rfl, ReadsW.bool true, ?_, fun _ => ⟨List.nodup_nil, fun _ h => nomatch h⟩⟩, hk, rfl, hg⟩
  first | rfl | with_unfolding_all rfl | kernel_rfl
end Mine
end
theorem PySem.Challenge.cw_kn0093_02_holds : PySem.Challenge.rw_kn0093_02.Holds := by
  exact Mine.law_holds
