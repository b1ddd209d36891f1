import PyProof.Rows.All
import Wide.All
import OpenK.AllK
import Wide.FinOn
import Lean
import PySem.Challenge.RW_bw0028_01
open PySem PySem.W PySem.Calls PyProof.Rows
set_option Elab.async false
set_option maxRecDepth 100000
set_option linter.unusedSimpArgs false
set_option linter.unusedVariables false

namespace Mine
open Sem (wp)
/-! A logic of contexts beneath the claim's caller: what a refused int(text) asks -/
def HB (Γ : Ctx) : Prop := (Γ.below.map (·.1)).any Code.isCaller = true
def HC (Γ : Ctx) : Prop := (Γ.code :: Γ.below.map (·.1)).any Code.isCaller = true
theorem HB.hc {Γ : Ctx} (h : HB Γ) : HC Γ := by
  unfold HC; unfold HB at h
  rw [List.any_cons, h, Bool.or_true]
theorem HC.enter {Γ : Ctx} (h : HC Γ) (c : Code) (hd : Option Value) (p : Pos) : HB (Γ.enter c hd p) := h
def wpC {α : Type} (M : Model) (A : Around) (t : Sem α) (Q : α → Shared → Prop) (E : Value → Shared → Prop) (s : Shared) : Prop :=
  ∀ Γ p, Γ.In A → HC Γ → wp M Γ t (fun a _ s' => Q a s') (fun e _ s' => E e s') p s
def codeC (M : Model) (A : Around) (c : Code) (R : Result → Shared → Prop) (s : Shared) : Prop :=
  ∀ Γ p, Γ.code = c → Γ.Below A → HB Γ → wpCode M Γ R p s
section
variable {α β : Type} {M : Model} {A : Around} {E : Value → Shared → Prop} {s : Shared}
theorem wpC_of {t : Sem α} {Q : α → Shared → Prop} (h : wpAny M A t Q E s) : wpC M A t Q E s := fun Γ p hΓ _ => h Γ p hΓ
theorem codeC_of {c : Code} {R : Result → Shared → Prop} (h : codeAny M A c R s) : codeC M A c R s := fun Γ p hc hΓ _ => h Γ p hc hΓ
theorem wpC_pure {a : α} {Q : α → Shared → Prop} (h : Q a s) : wpC M A (pure a) Q E s := fun _ _ _ _ => h
theorem wpC_mono {t : Sem α} {Q Q' : α → Shared → Prop} {E' : Value → Shared → Prop} (h : wpC M A t Q E s) (hQ : ∀ a s, Q a s → Q' a s) (hE : ∀ e s, E e s → E' e s) : wpC M A t Q' E' s :=
  fun Γ p hΓ hh => Sem.wp_mono M Γ t (fun a _ s => hQ a s) (fun e _ s => hE e s) p s (h Γ p hΓ hh)
theorem wpC_bind {m : Sem α} {f : α → Sem β} {Q : β → Shared → Prop} (h : wpC M A m (fun a s' => wpC M A (f a) Q E s') E s) : wpC M A (m >>= f) Q E s := fun Γ p hΓ hh => by
  rw [Sem.wp_bind']
  exact Sem.wp_mono M Γ m (fun a p' s' h' => h' Γ p' hΓ hh) (fun _ _ _ h' => h') p s (h Γ p hΓ hh)
theorem wpC_tryCatch {m : Sem α} {k : Value → Sem α} {Q : α → Shared → Prop} (h : wpC M A m Q (fun e s' => wpC M A (k e) Q E s') s) : wpC M A (tryCatch m k) Q E s := fun Γ p hΓ hh => by
  rw [Sem.wp_tryCatch']
  exact Sem.wp_mono M Γ m (fun _ _ _ h' => h') (fun e p' s' h' => h' Γ p' hΓ hh) p s (h Γ p hΓ hh)
theorem wpC_onRaise {m : Sem α} {k : Value → Sem Unit} {Q : α → Shared → Prop} (h : wpC M A m Q (fun e s' => wpC M A (k e) (fun _ s'' => E e s'') E s') s) : wpC M A (m.onRaise k) Q E s := fun Γ p hΓ hh => by
  rw [Sem.wp_onRaise]
  exact Sem.wp_mono M Γ m (fun _ _ _ h' => h') (fun e p' s' h' => h' Γ p' hΓ hh) p s (h Γ p hΓ hh)
theorem wpC_attempt {m : Sem α} {Q : Except Value α → Shared → Prop} (h : wpC M A m (fun a => Q (.ok a)) (fun e => Q (.error e)) s) : wpC M A m.attempt Q E s := fun Γ p hΓ hh => by
  rw [Sem.wp_attempt]; exact h Γ p hΓ hh
theorem wpC_holding {vs : List Value} {m : Sem α} {Q : α → Shared → Prop} (h : wpC M A m Q E s) : wpC M A (holding vs m) Q E s := fun Γ p hΓ hh => by
  rw [Sem.wp_holding]; exact h Γ p hΓ hh
theorem wpC_run {c : Code} {h : Option Value} {Q : Flow → Shared → Prop}
    (hc : codeC M (A.mark h) c (fun r s' => match r with | .ok f => Q f s' | .error e => E e s') s) (hnb : h ≠ some byPass := by intro x; cases x) : wpC M A (run c h) Q E s :=
  fun Γ p hΓ hh => by rw [Sem.wp_run]; exact hc _ p rfl (hΓ.enter c h p hnb) (hh.enter c h p)
theorem wpC_runValue {c : Code} {Q : Value → Shared → Prop} (hc : codeC M A c (fun r s' => match r with | .ok (.ret v) => Q v s' | .ok _ => False | .error e => E e s') s) :
    wpC M A (runValue c) Q E s := fun Γ p hΓ hh => by rw [Sem.wp_runValue]; exact hc _ p rfl (hΓ.enter c none p (by intro x; cases x)) (hh.enter c none p)
theorem wpC_call {f : Value} {pos : List Value} {kw : List (Str × Value)} {Q : Value → Shared → Prop}
    (hc : codeC M A (.call f ⟨pos, kw⟩) (fun r s' => match r with | .ok (.ret v) => Q v s' | .ok _ => False | .error e => E e s') s) : wpC M A (call f pos kw) Q E s := wpC_runValue hc
theorem codeC_of_tree {c : Code} {R : Result → Shared → Prop}
    (h : wpC M (A.under c) (M.den c) (fun fin s' => match fin with | .done f => R (.ok f) s' | .again c' => c'.quiet = true ∧ codeC M A c' R s') (fun e s' => R (.error e) s') s) : codeC M A c R s := fun Γ p hc hΓ hb => by
  rw [wpCode_iff_wp, hc]
  refine Sem.wp_mono M Γ _ (fun fin p' s' h' => ?_) (fun _ _ _ h' => h') p s (h Γ p (hc ▸ hΓ.in) hb.hc)
  cases fin with
  | done f => exact h'
  | again c' => exact ⟨h'.1, h'.2 (Γ.goto c') p' rfl (hΓ.goto c') hb⟩
/-- beneath the caller nothing is marked -/
theorem wpC_mark {own : List String} {e : Value} {Q : Unit → Shared → Prop} (h : Q () s) : wpC M A (markTheRefusal own e) Q E s := fun Γ p hΓ hh => by
  have hm : pythonCodeMadeTheCall own (((Γ.code, p) :: Γ.below).map (·.1)) = false := by
    unfold pythonCodeMadeTheCall
    refine Bool.and_eq_false_iff.mpr (Or.inl (Bool.and_eq_false_iff.mpr (Or.inl ?_)))
    exact congrArg (fun b => !b) hh
  unfold markTheRefusal
  rw [Sem.wp_bind']
  show wp M Γ (if pythonCodeMadeTheCall own (((Γ.code, p) :: Γ.below).map (·.1)) = true then _ else _) _ _ p s
  rw [hm]
  exact h
end
section
variable {prog : Program} {w : World} {A : Around} {E : Value → Shared → Prop} {s : Shared} {R : Result → Shared → Prop}
theorem codeC_func {body : List Stmt} {env : Env}
    (h : wpC (model prog w) (A.deeper env) (execs body env) (fun f s' => R (.ok (.ret (match f with | .ret v => v | _ => .none))) s')
      (fun e s' => wpC (model prog w) (A.deeper env) (leaving env e) (fun _ s'' => R (.error e) s'') (fun e' s'' => R (.error e') s'') s') s) :
    codeC (model prog w) A (.func body env) R s := by
  refine codeC_of_tree ?_
  show wpC _ (A.deeper env) (do point; match ← (execs body env).onRaise (leaving env) with | .ret v => ret v | _ => ret .none) _ _ s
  refine wpC_bind (wpC_of (wpAny_point (wpC_bind (wpC_onRaise (wpC_mono h (fun f s' h' => ?_) fun _ _ h' => h')))))
  cases f <;> exact wpC_pure h'
end
end Mine

namespace Mine
/-! the head's last step, at the caller's own context -/
theorem caller_has : HC (⟨.builtin "claim.caller" {}, none, none, [], none⟩ : PySem.Ctx) := by
  unfold HC
  decide +kernel
theorem wp_of_wpC_done {M : Model} {A : Around} {Γ : PySem.Ctx} {t : Sem Fin} {R : Result → Shared → Prop} {s : Shared} (hin : Γ.In A) (hh : HC Γ)
    (h : wpC M A t (fun fin s' => ∃ f, fin = .done f ∧ R (.ok f) s') (fun e s' => R (.error e) s') s) (p : Pos) :
    Sem.wp M Γ t (Sem.finPost M Γ R) (fun e _ s' => R (.error e) s') p s :=
  Sem.wp_mono M Γ t (fun fin p' s' h' => by obtain ⟨f, rfl, hf⟩ := h'; exact hf) (fun _ _ _ h' => h') p s (h Γ p hin hh)
theorem thread_endsC {prog : Program} {w : World} {t : Sem Fin} {s : Shared} {R : Result → Shared → Prop} (hreg : s.asleep)
    (h : wpC (model prog w) callerA t (fun fin s' => ∃ f, fin = .done f ∧ (R (.ok f) s' ∧ leftWithCleanup s'.gens = false)) (fun e s' => R (.error e) s' ∧ leftWithCleanup s'.gens = false) s) :
    ∃ n r s' s'', runN (denote table) prog w n s ⟨t, .builtin "claim.caller" {}, default, []⟩ = .halted (outcomeOf r) s' ∧
      schedN (denote table) prog w n (.single s ⟨t, .builtin "claim.caller" {}, default, []⟩) = .halted (outcomeOf r) s' ∧ s'.forget = s''.forget ∧ R r s'' := by
  obtain ⟨n, r, s₁, s₂, hs, hn, hfo, hR⟩ := wp_halts_full (M := model prog w) (R := R) hreg (wp_of_wpC_done (R := fun r s' => R r s' ∧ leftWithCleanup s'.gens = false) caller_in caller_has h default)
  exact ⟨n, r, s₂, s₁, hn, hs, hfo, hR⟩
theorem callFromC {c : ClaimW} {tree : List Value → Sem Fin} {w : World} {s : Shared} {free : Addr → Prop} {gens : Prop} {kept : Heap → Prop} (hz : s.asleep) (hgens : s.gens = #[])
    (spec : ∀ args, c.pre args = true → WData.layableAll args = true → ∀ ord : List DictEntry → List DictEntry, (∀ l, (ord l).Perm l) →
      ∃ vs s₁, layAllW c.records (classAt s.heap) w.params ord args s = some (vs, s₁) ∧
        wpC (model c.prog w) callerA (tree vs) (fun fin s' => ∃ f, fin = .done f ∧ (c.Ends s args vs s₁ (.ok f) s' ∧ s'.os = s.os ∧ AllBare s'.gens ∧ kept s'.heap))
          (fun e s' => c.Ends s args vs s₁ (.error e) s' ∧ s'.os = s.os ∧ AllBare s'.gens ∧ kept s'.heap) s₁) :
    c.CallFrom (fun vs => ⟨tree vs, .builtin "claim.caller" {}, default, []⟩) w free gens kept s := by
  intro args hpre hlay ord hord
  obtain ⟨vs, s₁, hlaid, hcode⟩ := spec args hpre hlay ord hord
  have hal := layAllW_rest _ _ _ hlaid
  obtain ⟨k, r, s₂, s₃, hrun, hsched, hfo, hends, hos, hkp⟩ := thread_endsC (prog := c.prog) (w := w) (t := tree vs) (s := s₁) (R := fun r s' => c.Ends s args vs s₁ r s' ∧ s'.os = s.os ∧ kept s'.heap)
    (Shared.asleep_of_life hal.2.2.2 hz)
    (wpC_mono hcode (fun _ _ ⟨f, e, h1, h2, h3, h4⟩ => ⟨f, e, ⟨h1, h2, h4⟩, leftWithCleanup_false_of_bare h3⟩) fun _ _ ⟨h1, h2, h3, h4⟩ => ⟨⟨h1, h2, h4⟩, leftWithCleanup_false_of_bare h3⟩)
  obtain ⟨eh, _, _, eo, _⟩ := Shared.forget_eq hfo
  have hends := hends.congr eh
  have hkp : kept s₂.heap := eh.symm ▸ hkp
  have hos : s₂.os = s.os := eo.trans hos
  have hlife : s₂.heap.life = s.heap.life := (runN_life _ _ _ hrun).trans hal.2.2.2
  refine ⟨vs, s₁, hlaid, k, _, s₂, hsched, ?_, (fun _ i x hx => by rw [hgens] at hx; simp at hx), hkp, by rw [hlife], Shared.rest_eq hos⟩
  rcases hends with ⟨v, rfl, d1, d2, d3, d4, d5⟩ | ⟨e, ob, cls, rfl, d1, d2, d3, d4, d5⟩
  · exact .inl ⟨v, rfl, d1, d2, d3, fun b o y _ => d4 b o y, d5⟩
  · exact .inr ⟨e, ob, cls, rfl, d1, d2, d3, d4, fun b o y _ => d5 b o y⟩
/-- what the walk must show, beneath the caller -/
abbrev WalkC (q : Program) (loose : List Str) (XP : (Str → Option Value) → Heap → Prop) (YP : World → Heap → Prop) (r : RowW) (d : DefRec) (kwd : List (Str × Expr)) (run : Value → List Value → Sem Value) : Prop :=
  ∀ (w : World) (s₀ s₁ : Shared) (mg mb : Str → Option Value), Ground q loose r.records XP w s₀ mg mb s₁.heap → YP w s₁.heap → ∀ (a : Addr) (o : Obj) (pm cd doc dV kV : Value), s₁.heap.get? a = some o →
    o.data = .func { docDef d.name d.params d.body d.scope pm cd doc with defaults := dV, kwdefaults := kV } → s₁.heap.CodeRec cd d.name → Dflts mg s₁.heap d.params kwd dV kV → mg d.name = some (.ref a) → s₁.gens = #[] →
    ∀ (args : List WData) (vals : List Value) (as : List Addr), r.claim.pre args = true → WData.layableAll args = true → ReadsAllW r.records (classAt s₀.heap) s₁.heap vals args as → WellAll w.params s₁.heap vals args → (∀ a ∈ as, (a == sysModules) = false) →
      wpC (model r.prog w) callerA (run (.ref a) vals) (fun v s' => GoodWG r.claim (classAt s₀.heap) (ExcName.means s₀.heap) args s₁ (.ok (.ret v)) s')
        (fun e s' => GoodWG r.claim (classAt s₀.heap) (ExcName.means s₀.heap) args s₁ (.error e) s') s₁
end Mine
namespace Mine.PySem.W
open _root_.PySem.Spec _root_.PySem.W
open Mine
/-- the head of an open row whose walk is shown beneath the caller -/
theorem holds_open {r : OpenRow} {q : Program} {loose : List Str} {Xt : Shared → Bool} {XP : (Str → Option Value) → Heap → Prop} {α : Type} {Yf : Shared → α} {Ya : World → α} {YP : World → Heap → Prop} {d : DefRec} {kwd : List (Str × Expr)} {N : Nat}
    (left : LeftO r.prog q loose Xt Yf Ya N) (hY : ∀ w s, Yf s = Ya w → YP w s.heap) (hYk : ∀ w h h', YP w h → (∀ b o, h.get? b = some o → h'.get? b = some o) → YP w h')
    (hX : ∀ s, Xt s = true → XP (s.heap.nsMap mainGlobals) s.heap) (hXk : ∀ mg h h', XP mg h → (∀ b o, h.get? b = some o → h'.get? b = some o) → XP mg h')
    (hdef : defOf q r.name = some (d, kwd)) (hp : r.prog.theDef r.name = some (d.params, d.body, d.scope)) (hk : kwWritten? d.params.kwonlyargs d.params.kw_defaults = some kwd) (hRf : ∀ s, Xt s = true → RecFacts r.records s.heap) (hwr : (!r.writes || r.records.isEmpty) = true)
    (k1 : r.wellSaid = true) (ok : (chainsOk q && opensWell r.prog && (frees r.toRowW && r.within.isEmpty)) = true) (hb : r.prog.bare) (hw : r.toRowW.promised)
    (call : WalkC q loose XP YP r.toRowW d kwd fun f vs => PySem.call f vs) : r.Holds := by
  obtain ⟨ok, k5⟩ := Bool.and_eq_true_iff.mp ok
  obtain ⟨hch, o1⟩ := Bool.and_eq_true_iff.mp ok
  obtain ⟨k5, k6⟩ := Bool.and_eq_true_iff.mp k5
  obtain ⟨hsame, hu, ha, hap, hm⟩ := frees_parts k5
  refine ⟨k1, hw, ⟨hb, o1, by show r.toRowW.makers.map _ = []; rw [hm]; rfl⟩, hw.witness, fun w => ⟨(left.behind hX hch w).1, fun s' hs' => ?_⟩⟩
  obtain ⟨s₀, hf, hg0, s, hT, hz, hgens, hg, G00, y⟩ := (left.behind (XP := fun mg h => XP mg h ∧ RecFacts r.records h) (fun s hs => ⟨hX s hs, hRf s hs⟩) hch w).2 s' hs'
  have G0 : Ground q loose [] XP w s (s.heap.nsMap mainGlobals) (s.heap.nsMap builtinsNs) s.heap := ⟨G00.T, G00.B, G00.D, G00.TE, G00.TD, G00.W, G00.X.1, G00.cls, G00.has, G00.apart, G00.once, G00.K⟩
  have RF := G00.X.2
  refine ⟨s₀, hf, hg0, s, hT, fun n hn => ?_, RF.1, RF.2.1, ?_⟩
  · obtain rfl : n = r.name := by split at hn <;> simp_all
    exact pinned_of_view hg G0 hdef hp hk
  have hgens : s.gens = #[] := Array.eq_empty_of_size_eq_zero (beq_iff_eq.mp hgens)
  have G : Ground q loose r.records XP w s _ _ s.heap := RF.ground G0
  have hi := ident_freeW hu ha hap
  have hwi : r.toRowW.claim.within = [] := List.isEmpty_iff.mp k6
  refine callFromC (c := r.toRowW.claim) (tree := fun vs => do match ← nsGet mainNs r.name with
      | some f => do ret (← PySem.call f vs)
      | none => unsupported "claim.caller:no-such-global") hz hgens fun args hpre hlay ord hord => ?_
  obtain ⟨⟨vs, s₁⟩, hlaid⟩ := Option.isSome_iff_exists.mp (layAllW_isSome (P := w.params) (ord := ord) G.has args r.args s (pre_splitW hpre).1)
  have keeps := layAllW_keeps _ _ _ hlaid
  have hal := layAllW_rest _ _ _ hlaid
  obtain ⟨as, hrd, hin, hold⟩ := reads_layAllW hord _ _ _ hlaid hlay s₁.heap (fun _ _ e => e)
  have L : Laid r.records w s s₁ args vs as := ⟨⟨ord, hord, hlaid⟩, hrd, hin, hold, keeps, hal.1.trans hgens, hal.2.2.1⟩
  have G₁ := G.keeps hXk keeps
  obtain ⟨a, o, pm, cd, doc, dV, kV, h1, h2, h3, h4, h5⟩ := G₁.fn hdef
  have hc := call w s s₁ _ _ G₁ (hYk _ _ _ (hY w s y) keeps) a o pm cd doc dV kV h2 h3 h4 h5 (defOf_name hdef ▸ h1) L.gens args vs as hpre hlay L.reads L.well (L.low G.low)
  refine ⟨vs, s₁, hlaid, wpC_bind (wpC_of (wpAny_nsGet G₁.T.g ?_))⟩
  rw [h1]
  refine wpC_bind (wpC_mono hc (fun v s' g => wpC_pure ?_) fun e s' g => ?_)
  · have z := g.laid (c := r.toRowW.claim) hsame hwi hi L
    exact ⟨_, rfl, z.1, z.2.1, z.2.2, fun q => ⟨namesKept_of hT hg _ keeps g.2.1.old, noTable hwr q⟩⟩
  · have z := g.laid (c := r.toRowW.claim) hsame hwi hi L
    exact ⟨z.1, z.2.1, z.2.2, fun q => ⟨namesKept_of hT hg _ keeps g.2.1.old, noTable hwr q⟩⟩
end Mine.PySem.W

namespace Mine
set_option maxHeartbeats 8000000 in
open_top hd for PySem.Challenge.rw_bw0028_01
end Mine

namespace Mine

/-- what a call of the def at f with vs does, wherever a def calls it -/
def Ctr (f : Addr) (vs : List Value) (sz : Nat) (news : List (Addr × Obj)) (Ret : Value → List (Addr × Obj) → Prop) (Exc : String → Prop) : Prop :=
  ∀ (w : World) (mean : ExcName → Option Value) (mg mb : Str → Option Value) (dp un : Nat) (gd : Option (List Code)) (cn : Str) (cs : Scope) (a : Addr) (ccd : Value) (cl : List (Str × Addr)) (outer : List Env) (A₀ : Around) (base h₀ : Heap) (L : Addr) (m : Str → Option Value) (s : Shared) (Q E : Value → Shared → Prop),
    Below A₀ base outer h₀ → Fr h₀ L s.heap m → (Mine.hd.heap_39 w.params).In h₀ → News h₀ L s.heap news →
    Top Mine.hd.view_39 (looseW Mine.hd.view_39
      [Str.ofString "round_fast", Str.ofString "fzero", Str.ofString "fone", Str.ofString "ften", Str.ofString "fnan",
        Str.ofString "finf", Str.ofString "fninf", Str.ofString "shifts_down", Str.ofString "from_man_exp",
        Str.ofString "from_int", Str.ofString "from_rational", Str.ofString "mpf_pos", Str.ofString "mpf_mul",
        Str.ofString "mpf_div", Str.ofString "reciprocal_rnd", Str.ofString "mpf_pow_int",
        Str.ofString "str_to_man_exp", Str.ofString "special_str", Str.ofString "from_str"]) mean mg mb h₀ →
    cs.kind = .function → dp + sz < recursionLimit → un + 8 * sz < cLine →
    (∀ r news' h' tk', Fr h₀ L h' m → News h₀ L h' news' → Ret r news' → Q r { s with heap := h', toks := tk' }) →
    (∀ X e g₂ h' tk', Exc X → RaisedN base (envX cn cs L a ccd cl :: outer) e (.type X) news h' → Fr h₀ L g₂ m → g₂.UpToSlots h' → E (.ref e) { s with heap := h', toks := tk' }) →
    wpAny (model PySem.Challenge.rw_bw0028_01.row.prog w) (ktrTop dp un gd cn cs L a ccd cl outer) (call (.ref f) vs) Q E s

/-- an equation that no search shall use by itself -/
structure Is {α : Type} (v e : α) : Prop where
  out : v = e

/-- the words of whole numbers -/
def shr (a n : Int) : Int := a.fdiv (2 ^ n.toNat)
def shl (a n : Int) : Int := a * 2 ^ n.toNat
def band (a b : Int) : Int := Builtin.bitAnd a b
def bl (a : Int) : Int := (Builtin.Int.intBits a : Int)

section
variable {prog : Program} {w : World} {A : Around} {E : Value → Shared → Prop} {s : Shared} {a n b : Int} {t u : Tok} {Q : Value → Shared → Prop}
theorem r_shr (hn : 0 ≤ n) (h : ∀ v t' k', Is v (shr a n) → Q (.int v t') { s with toks := k' }) : wpAny (model prog w) A (binaryOp .RShift (.int a t) (.int n u)) Q E s :=
  rshift_int hn (h _ _ _ ⟨rfl⟩)
theorem r_ishr (hn : 0 ≤ n) (h : ∀ v t' k', Is v (shr a n) → Q (.int v t') { s with toks := k' }) : wpAny (model prog w) A (inplaceOp .RShift (.int a t) (.int n u)) Q E s :=
  irshift_int hn (h _ _ _ ⟨rfl⟩)
theorem r_band (h : ∀ v t' k', Is v (band a b) → Q (.int v t') { s with toks := k' }) : wpAny (model prog w) A (binaryOp .BitAnd (.int a t) (.int b u)) Q E s :=
  and_int (h _ _ _ ⟨rfl⟩)
theorem r_bl (h : ∀ v t' k', Is v (bl a) → Q (.int v t') { s with toks := k' }) : wpAny (model prog w) A (call (.builtin "int.bit_length") [.int a t]) Q E s :=
  call_int_bit_length (h _ _ _ ⟨rfl⟩)
theorem r_bl_known (hb : Is b (bl a)) (h : ∀ t' k', Q (.int b t') { s with toks := k' }) : wpAny (model prog w) A (call (.builtin "int.bit_length") [.int a t]) Q E s :=
  call_int_bit_length (by have e : (Builtin.Int.intBits a : Int) = b := hb.out.symm
                          rw [e]
                          exact h _ _)
theorem r_shl (hn : 0 ≤ n) (hb : (Builtin.Int.intBits a : Int) + n ≤ 2 ^ 27) (h : ∀ v t' k', Is v (shl a n) → Q (.int v t') { s with toks := k' }) : wpAny (model prog w) A (binaryOp .LShift (.int a t) (.int n u)) Q E s :=
  lshift_int hn hb (h _ _ _ ⟨rfl⟩)
theorem r_shl1 (hn : 0 ≤ n) (hb : n ≤ 1000000) (h : ∀ v t' k', Is v (shl 1 n) → Q (.int v t') { s with toks := k' }) : wpAny (model prog w) A (binaryOp .LShift (.int 1 t) (.int n u)) Q E s :=
  lshift_int_small hn hb (by decide) (h _ _ _ ⟨rfl⟩)
theorem r_add (h : ∀ t' k', Q (.int (a + b) t') { s with toks := k' }) : wpAny (model prog w) A (binaryOp .Add (.int a t) (.int b u)) Q E s := add_int (h _ _)
theorem r_sub (h : ∀ t' k', Q (.int (a - b) t') { s with toks := k' }) : wpAny (model prog w) A (binaryOp .Sub (.int a t) (.int b u)) Q E s := sub_int (h _ _)
theorem r_iadd (h : ∀ t' k', Q (.int (a + b) t') { s with toks := k' }) : wpAny (model prog w) A (inplaceOp .Add (.int a t) (.int b u)) Q E s := iadd_int (h _ _)
theorem r_isub (h : ∀ t' k', Q (.int (a - b) t') { s with toks := k' }) : wpAny (model prog w) A (inplaceOp .Sub (.int a t) (.int b u)) Q E s := isub_int (h _ _)
theorem r_neg (h : ∀ t' k', Q (.int (-a) t') { s with toks := k' }) : wpAny (model prog w) A (unaryOp .USub (.int a t)) Q E s := neg_int (h _ _)
end
section
variable {M : Model} {A : Around} {E : Value → Shared → Prop} {s : Shared} {name : Str} {scope : Scope} {L a : Addr} {cd : Value} {h₀ : Heap} {m : Str → Option Value} {news : List (Addr × Obj)}
theorem r_st {x : Str} {v : Value} {Q : Unit → Shared → Prop} (F : Fr h₀ L s.heap m) (N : News h₀ L s.heap news)
    (h : ∀ h' k', Fr h₀ L h' (fun y => if y = x then some v else m y) → News h₀ L h' news → Q () { s with heap := h', toks := k' })
    (hk : scope.kind = .function := by rfl) (hl : (envOf name scope L a cd).kindOf x = some .local := by rfl) :
    wpAny M A (storeName (envOf name scope L a cd) x v) Q E s :=
  stN F N (fun h' F' N' => h h' _ F' N') hk hl
end

/-- a tree whose value is one whole number, whatever the road: the roads meet -/
theorem cut_int {M : Model} {A : Around} {tr : Sem Value} {Q E : Value → Shared → Prop} {s : Shared} (x : Int)
    (h1 : wpAny M A tr (fun v s' => ∃ t' k', v = .int x t' ∧ s' = { s with toks := k' }) E s)
    (h2 : ∀ t' k', Q (.int x t') { s with toks := k' }) : wpAny M A tr Q E s :=
  wpAny_mono h1 (fun v s' ⟨t', k', e1, e2⟩ => by subst e1; subst e2; exact h2 t' k') fun _ _ h => h

/-- a contract at a call -/
theorem Ctr.use {f : Addr} {vs : List Value} {sz : Nat} {news : List (Addr × Obj)} {Ret : Value → List (Addr × Obj) → Prop} {Exc : String → Prop}
    {w : World} {mean : ExcName → Option Value} {mg mb : Str → Option Value} {dp un : Nat} {gd : Option (List Code)} {cn : Str} {cs : Scope} {a : Addr} {ccd : Value} {cl : List (Str × Addr)} {outer : List Env} {A₀ : Around} {base h₀ : Heap} {L : Addr} {m : Str → Option Value} {s : Shared} {Q E : Value → Shared → Prop}
    (C : Ctr f vs sz news Ret Exc)
    (B : Below A₀ base outer h₀) (F : Fr h₀ L s.heap m) (X : (Mine.hd.heap_39 w.params).In h₀) (N : News h₀ L s.heap news)
    (T : Top Mine.hd.view_39 (looseW Mine.hd.view_39
      [Str.ofString "round_fast", Str.ofString "fzero", Str.ofString "fone", Str.ofString "ften", Str.ofString "fnan",
        Str.ofString "finf", Str.ofString "fninf", Str.ofString "shifts_down", Str.ofString "from_man_exp",
        Str.ofString "from_int", Str.ofString "from_rational", Str.ofString "mpf_pos", Str.ofString "mpf_mul",
        Str.ofString "mpf_div", Str.ofString "reciprocal_rnd", Str.ofString "mpf_pow_int",
        Str.ofString "str_to_man_exp", Str.ofString "special_str", Str.ofString "from_str"]) mean mg mb h₀)
    (hk : cs.kind = .function) (hd : dp + sz < recursionLimit) (hu : un + 8 * sz < cLine)
    (hexc : ∀ X e g₂ h' tk', Exc X → RaisedN base (envX cn cs L a ccd cl :: outer) e (.type X) news h' → Fr h₀ L g₂ m → g₂.UpToSlots h' → E (.ref e) { s with heap := h', toks := tk' })
    (hret : ∀ r news' h' tk', Fr h₀ L h' m → News h₀ L h' news' → Ret r news' → Q r { s with heap := h', toks := tk' }) :
    wpAny (model PySem.Challenge.rw_bw0028_01.row.prog w) (ktrTop dp un gd cn cs L a ccd cl outer) (call (.ref f) vs) Q E s :=
  C _ _ _ _ _ _ _ _ _ _ _ _ _ _ _ _ _ _ _ _ _ B F X N T hk hd hu hret hexc

/-- trailing noughts, as the text reckons them -/
def tz (n : Int) : Int := if n = 0 then 0 else bl (band n (-n)) - 1
theorem bl_pos {m : Int} (h : m ≠ 0) : 1 ≤ bl m := by
  unfold bl Builtin.Int.intBits
  rw [if_neg (by simpa using h)]
  omega
theorem band_neg_pos {k : Nat} : band ((k + 1 : Nat) : Int) (-((k + 1 : Nat) : Int)) ≠ 0 := by
  unfold band Builtin.bitAnd
  have h1 : decide ((0 : Int) ≤ ((k + 1 : Nat) : Int)) = true := decide_eq_true (by omega)
  have h2 : decide ((0 : Int) ≤ -((k + 1 : Nat) : Int)) = false := decide_eq_false (by omega)
  rw [h1, h2]
  have h3 : Builtin.bitNot (-((k + 1 : Nat) : Int)) = (k : Int) := by unfold Builtin.bitNot; omega
  show ((k + 1 : Nat) : Int) - (((((k + 1 : Nat) : Int).toNat &&& (Builtin.bitNot (-((k + 1 : Nat) : Int))).toNat : Nat)) : Int) ≠ 0
  rw [h3]
  have h4 : ((k + 1 : Nat) : Int).toNat &&& (k : Int).toNat ≤ (k : Int).toNat := Nat.and_le_right
  have h5 : (k : Int).toNat = k := Int.toNat_natCast k
  omega
theorem band_comm (a b : Int) : band a b = band b a := by
  unfold band Builtin.bitAnd
  cases decide (0 ≤ a) <;> cases decide (0 ≤ b) <;> simp only [Nat.and_comm, Nat.or_comm]
theorem tz_nonneg (n : Int) : 0 ≤ tz n := by
  unfold tz
  split
  · omega
  · rename_i h
    have : band n (-n) ≠ 0 := by
      rcases Int.lt_or_gt_of_ne h with h1 | h1
      · obtain ⟨k, hk⟩ : ∃ k : Nat, -n = ((k + 1 : Nat) : Int) := ⟨(-n - 1).toNat, by omega⟩
        have : n = -((k + 1 : Nat) : Int) := by omega
        rw [band_comm, hk, this]
        exact band_neg_pos
      · obtain ⟨k, hk⟩ : ∃ k : Nat, n = ((k + 1 : Nat) : Int) := ⟨(n - 1).toNat, by omega⟩
        rw [hk]
        exact band_neg_pos
    have := bl_pos this
    omega
/-- the table shifts_down -/
def sdv (rnd : Str) (sg : Int) : Int := if rnd = Str.ofString "f" then (if sg = 0 then 1 else 0) else if rnd = Str.ofString "c" then (if sg = 0 then 0 else 1) else if rnd = Str.ofString "d" then 1 else 0
def WayOk (rnd : Str) : Prop := rnd = Str.ofString "n" ∨ rnd = Str.ofString "f" ∨ rnd = Str.ofString "c" ∨ rnd = Str.ofString "u" ∨ rnd = Str.ofString "d"
theorem cut_sd {M : Model} {A : Around} {tr : Sem Value} {Q E : Value → Shared → Prop} {s : Shared} {rnd : Str} {sg : Int} (hW : WayOk rnd) (hS : sg = 0 ∨ sg = 1)
    (h1 : wpAny M A tr (fun v s' => ∃ t' k', v = .int (sdv rnd sg) t' ∧ s' = { s with toks := k' }) E s)
    (h2 : ∀ t' k', Q (.int (sdv rnd sg) t') { s with toks := k' }) : wpAny M A tr Q E s := cut_int _ h1 h2
/-- what _normalize gives for a man above 0: man, exp, bc -/
def stripF (man ex bc : Int) : Int × Int × Int :=
  if band man 1 = 0 then (shr man (tz man), ex + tz man, bc - tz man) else (man, ex, bc)
def oneF (x : Int × Int × Int) : Int × Int × Int := if x.1 = 1 then (1, x.2.1, 1) else x
def roundF (sg man bc prec : Int) (rnd : Str) : Int :=
  if rnd = Str.ofString "n" then
    (if band (shr man (bc - prec - 1)) 1 ≠ 0 ∧ (band (shr man (bc - prec - 1)) 2 ≠ 0 ∨ band man (shl 1 (bc - prec - 1) - 1) ≠ 0) then shr (shr man (bc - prec - 1)) 1 + 1 else shr (shr man (bc - prec - 1)) 1)
  else if sdv rnd sg ≠ 0 then shr man (bc - prec) else -(shr (-man) (bc - prec))
def normF (sg man ex bc prec : Int) (rnd : Str) : Int × Int × Int :=
  oneF (if 0 < bc - prec then stripF (roundF sg man bc prec rnd) (ex + (bc - prec)) prec else stripF man ex bc)
/-- a frame's names by their places -/
def fm (ns : List Str) (os : List (Option Value)) (y : Str) : Option Value := os.getD (ns.idxOf y) none
theorem fm_get {ns : List Str} {os : List (Option Value)} {x : Str} {i : Nat} (hi : ns.idxOf x = i) : fm ns os x = os.getD i none := by rw [fm, hi]
theorem fm_set {ns : List Str} {os : List (Option Value)} {x : Str} {i : Nat} {v : Value} (hi : ns.idxOf x = i) (hlt : i < ns.length) (hlen : os.length = ns.length) :
    (fun y => if y = x then some v else fm ns os y) = fm ns (os.set i (some v)) := by
  funext y
  unfold fm
  by_cases h : y = x
  · subst h
    rw [if_pos rfl, hi]
    simp [List.getD, hlen, hlt]
  · rw [if_neg h]
    have hx : ns[i]? = some x := by
      subst hi
      rw [List.getElem?_eq_getElem hlt]
      exact congrArg some (List.getElem_idxOf hlt)
    have hne : ns.idxOf y ≠ i := by
      intro e
      have h2 : ns[ns.idxOf y]? = some x := by rw [e]; exact hx
      have h3 : ns.idxOf y < ns.length := by omega
      rw [List.getElem?_eq_getElem h3, List.getElem_idxOf h3] at h2
      exact h (Option.some.inj h2)
    simp [List.getD, List.getElem?_set_ne (Ne.symm hne)]
theorem lookup_rev : ∀ (ns : List Str) (vs : List Value) (y : Str), ns.Nodup → vs.length = ns.length → List.lookup y (List.zip ns vs).reverse = (vs.map some).getD (ns.idxOf y) none
  | [], [], _, _, _ => rfl
  | n :: ns, v :: vs, y, hn, hl => by
    have ih := lookup_rev ns vs y (List.nodup_cons.mp hn).2 (by simpa using hl)
    rw [List.zip_cons_cons, List.reverse_cons, List.lookup_append, ih]
    by_cases h : y = n
    · subst h
      have hno := (List.nodup_cons.mp hn).1
      have e : ns.idxOf y = ns.length := List.idxOf_eq_length hno
      rw [e]
      have e2 : vs[ns.length]? = none := List.getElem?_eq_none (by simp at hl; omega)
      simp [List.getD, List.lookup, List.idxOf_cons, e2]
    · have h1 : (y == n) = false := by simpa using h
      have h2 : (n == y) = false := by simpa using fun e : n = y => h e.symm
      simp [List.getD, List.lookup, List.idxOf_cons, h1, h2]
theorem fm_base {ns₁ ns₂ : List Str} {vs : List Value} {k : Nat} (nd : ns₁.Nodup) (hl : vs.length = ns₁.length) :
    (fun y => List.lookup y (List.zip ns₁ vs).reverse) = fm (ns₁ ++ ns₂) (vs.map some ++ List.replicate k none) := by
  funext y
  rw [lookup_rev ns₁ vs y nd hl]
  unfold fm
  rw [List.idxOf_append]
  by_cases h : y ∈ ns₁
  · have hlt := List.idxOf_lt_length_of_mem h
    rw [if_pos h]
    simp [List.getD, List.getElem?_append, hl, hlt]
  · rw [if_neg h, List.idxOf_eq_length h]
    have e2 : (vs.map some)[ns₁.length]? = none := List.getElem?_eq_none (by simp [hl])
    have e3 : (vs.map some ++ List.replicate k none)[ns₂.idxOf y + ns₁.length]?.getD none = none := by
      rw [List.getElem?_append_right (by simp [hl])]
      rw [List.getElem?_replicate]
      split <;> rfl
    simp only [List.getD]
    rw [e2, e3]
    rfl

section
variable {w : World} {mean : ExcName → Option Value} {mg mb : Str → Option Value} {M : Model} {A : Around} {E : Value → Shared → Prop} {s : Shared} {h₀ : Heap} {L a : Addr} {m : Str → Option Value} {cn : Str} {cs : Scope} {ccd : Value} {x : Str} {pos : Pos} {v : Value} {Q : Value → Shared → Prop}
theorem gname (e : ∀ P, nsIn (Mine.hd.heap_39 P) mainGlobals x = some (some v)) (hd : (x == ("__debug__" : Str)) = false) (F : Fr h₀ L s.heap m) (X : (Mine.hd.heap_39 w.params).In h₀)
    (T : Top Mine.hd.view_39 (looseW Mine.hd.view_39
      [Str.ofString "round_fast", Str.ofString "fzero", Str.ofString "fone", Str.ofString "ften", Str.ofString "fnan",
        Str.ofString "finf", Str.ofString "fninf", Str.ofString "shifts_down", Str.ofString "from_man_exp",
        Str.ofString "from_int", Str.ofString "from_rational", Str.ofString "mpf_pos", Str.ofString "mpf_mul",
        Str.ofString "mpf_div", Str.ofString "reciprocal_rnd", Str.ofString "mpf_pow_int",
        Str.ofString "str_to_man_exp", Str.ofString "special_str", Str.ofString "from_str"]) mean mg mb h₀)
    (hk : cs.kind = .function) (hx : (envOf cn cs L a ccd).kindOf x = some .globalImplicit) (h : Q v s) :
    wpAny M A (eval (.Name x pos) (envOf cn cs L a ccd)) Q E s := name_K F X (topRead_of T) (e _) h hk hx hd
theorem bname (e : ∀ P, nsIn (Mine.hd.heap_39 P) mainGlobals x = some none) (hv : bootBuiltins x = some v) (hn : x ≠ "__name__") (hd : (x == ("__debug__" : Str)) = false) (F : Fr h₀ L s.heap m) (X : (Mine.hd.heap_39 w.params).In h₀)
    (T : Top Mine.hd.view_39 (looseW Mine.hd.view_39
      [Str.ofString "round_fast", Str.ofString "fzero", Str.ofString "fone", Str.ofString "ften", Str.ofString "fnan",
        Str.ofString "finf", Str.ofString "fninf", Str.ofString "shifts_down", Str.ofString "from_man_exp",
        Str.ofString "from_int", Str.ofString "from_rational", Str.ofString "mpf_pos", Str.ofString "mpf_mul",
        Str.ofString "mpf_div", Str.ofString "reciprocal_rnd", Str.ofString "mpf_pow_int",
        Str.ofString "str_to_man_exp", Str.ofString "special_str", Str.ofString "from_str"]) mean mg mb h₀)
    (hk : cs.kind = .function) (hx : (envOf cn cs L a ccd).kindOf x = some .globalImplicit) (h : Q v s) :
    wpAny M A (eval (.Name x pos) (envOf cn cs L a ccd)) Q E s := name_B F X (topRead_of T) (e _) hv hn h hk hx hd
end

def sgF (man : Int) : Int := if man < 0 then 1 else 0
def absF (man : Int) : Int := if man < 0 then -man else man
def strip0F (man ex bc : Int) : Int × Int × Int :=
  if band man 1 = 0 then (if band man 2 ≠ 0 then (shr man 1, ex + 1, bc - 1) else (shr man (tz man), ex + tz man, bc - tz man)) else (man, ex, bc)
theorem bl_neg (a : Int) : bl (-a) = bl a := by
  unfold bl Builtin.Int.intBits
  by_cases h : a = 0
  · subst h; rfl
  · have h2 : ¬ (-a == 0) = true := by simp; omega
    have h3 : ¬ (a == 0) = true := by simpa using h
    rw [if_neg h2, if_neg h3, Int.natAbs_neg]
theorem bl_zero : bl 0 = 0 := rfl

section
variable {prog : Program} {w : World} {A₀ A : Around} {s : Shared} {base h₀ : Heap} {L : Addr} {m : Str → Option Value} {news : List (Addr × Obj)} {K : Frag} {p : Program} {loose : List Str} {mean : ExcName → Option Value} {mg mb : Str → Option Value}
theorem code_defT {env : Env} {outer : List Env} {R : Result → Shared → Prop} {name qual : Str} {params : Arguments} {body : List Stmt} {scope : Scope} {dV kV doc pm cdv ct oc : Value} {an od : Option Addr} {osl : Array (Option Value)} {f : Addr} {args : Args} {binds : List (Str × Value)}
    (B : Below A₀ base outer h₀) (F : Fr h₀ L s.heap m) (X₀ : K.In h₀) (N : News h₀ L s.heap news) (T : Top p loose mean mg mb h₀) (hA : A.frames = some (env :: outer)) (hf : env.frame = some L) (hke : env.scope.kind = .function)
    (ho : K.lookup f = some ⟨oc, od, .func (fnOf name qual params body scope dV kV doc pm an cdv ct), osl⟩) (hcd : codeIn K cdv qual = true) (hroom : A.depth < recursionLimit)
    (hbind : BindsTo s (fnOf name qual params body scope dV kV doc pm an cdv ct) args binds) (hloc : ∀ y ∈ binds, scope.names.lookup y.1 = some .local)
    (h : ∀ g L' h₁ tk, Fr h₀ L g m → Fr g L' h₁ (fun y => binds.reverse.lookup y) → News g L' h₁ news → Below A base (env :: outer) g → K.In g → Top p loose mean mg mb g →
      wpAny (model prog w) (A.deeper (envOf qual scope L' f cdv)) (execs body (envOf qual scope L' f cdv))
        (fun fl s' => LeaveK h₀ L m g R (match fl with | .ret v => v | _ => .none) s')
        (fun e s' => wpAny (model prog w) (A.deeper (envOf qual scope L' f cdv)) (leaving (envOf qual scope L' f cdv) e) (fun _ s'' => R (.error e) s'') (fun e' s'' => R (.error e') s'') s')
        { s with heap := h₁, toks := tk })
    (hco : scope.isCoroutine = false) (hgen : scope.isGenerator = false) (hk : scope.kind = .function)
    (hcell : ∀ x ∈ scope.names, x.2 ≠ .cell) : codeAny (model prog w) A (.call (.ref f) args) R s :=
  code_def B F X₀ N T hA hf hke ho hcd hroom hbind hloc (fun g L' h₁ FG F' N' B' X' T' => h g L' h₁ _ FG F' N' B' X' T') hco hgen hk hcell
end

theorem log2_of_bl {a : Int} (h : bl a ≤ 8000) : a.natAbs.log2 < 9000 := by
  unfold bl Builtin.Int.intBits at h
  by_cases h0 : a = 0
  · subst h0; decide
  · rw [if_neg (by simpa using h0)] at h; omega
theorem bl_nat {a k : Nat} : bl (a : Int) ≤ (k : Int) ↔ a < 2 ^ k := by
  unfold bl Builtin.Int.intBits
  by_cases h : a = 0
  · subst h
    have : (0 : Nat) < 2 ^ k := Nat.two_pow_pos k
    simp [this]
  · have h2 : ¬ ((a : Int) == 0) = true := by simpa using h
    rw [if_neg h2, Int.natAbs_natCast]
    have := @Nat.log2_lt a k h
    omega
theorem bl_nonneg (a : Int) : 0 ≤ bl a := by unfold bl; omega
theorem lt_bl (a : Nat) : a < 2 ^ (bl (a : Int)).toNat := by
  have h : bl (a : Int) ≤ ((bl (a : Int)).toNat : Int) := by have := bl_nonneg (a : Int); omega
  exact bl_nat.mp h
theorem bl_mono {a b : Int} (h0 : 0 ≤ a) (h : a ≤ b) : bl a ≤ bl b := by
  obtain ⟨x, rfl⟩ := Int.eq_ofNat_of_zero_le h0
  obtain ⟨y, rfl⟩ := Int.eq_ofNat_of_zero_le (Int.le_trans h0 h)
  have h1 := lt_bl y
  have h2 : bl (x : Int) ≤ ((bl (y : Int)).toNat : Int) := bl_nat.mpr (by omega)
  have := bl_nonneg (y : Int)
  omega
theorem bl_shl {a n : Int} (h0 : 0 ≤ a) (hn : 0 ≤ n) : bl (shl a n) ≤ bl a + n := by
  obtain ⟨x, rfl⟩ := Int.eq_ofNat_of_zero_le h0
  obtain ⟨k, rfl⟩ := Int.eq_ofNat_of_zero_le hn
  have h1 := lt_bl x
  have e : shl (x : Int) (k : Int) = ((x * 2 ^ k : Nat) : Int) := by unfold shl; simp
  have h2 : bl ((x * 2 ^ k : Nat) : Int) ≤ (((bl (x : Int)).toNat + k : Nat) : Int) := bl_nat.mpr (by
    rw [Nat.pow_add]
    exact Nat.mul_lt_mul_of_pos_right h1 (Nat.two_pow_pos k))
  have := bl_nonneg (x : Int)
  rw [e]
  omega
theorem shl_nonneg {a n : Int} (h0 : 0 ≤ a) : 0 ≤ shl a n := Int.mul_nonneg h0 (Int.le_of_lt (Int.pow_pos (by decide)))
theorem shl_pos {a n : Int} (h0 : 0 < a) : 0 < shl a n := Int.mul_pos h0 (Int.pow_pos (by decide))
theorem bl_fdiv {a b : Int} (h0 : 0 ≤ a) (hb : 0 < b) : bl (a.fdiv b) ≤ bl a := by
  have e : a.fdiv b = a / b := Int.fdiv_eq_ediv_of_nonneg a (Int.le_of_lt hb)
  rw [e]
  refine bl_mono (Int.ediv_nonneg h0 (Int.le_of_lt hb)) ?_
  exact Int.ediv_le_self b h0
theorem bl_succ {a : Int} (h0 : 0 ≤ a) : bl (a + 1) ≤ bl a + 1 := by
  obtain ⟨x, rfl⟩ := Int.eq_ofNat_of_zero_le h0
  have h1 := lt_bl x
  have h2 : bl ((x + 1 : Nat) : Int) ≤ (((bl (x : Int)).toNat + 1 : Nat) : Int) := bl_nat.mpr (by
    have := Nat.two_pow_pos (bl (x : Int)).toNat
    rw [Nat.pow_succ]; omega)
  have := bl_nonneg (x : Int)
  have e : ((x : Int) + 1) = ((x + 1 : Nat) : Int) := by omega
  rw [e]
  omega
section
variable {prog : Program} {w : World} {A : Around} {E : Value → Shared → Prop} {s : Shared} {a n b : Int} {t u : Tok} {Q : Value → Shared → Prop}
theorem r_xor0 (ha : a = 0 ∨ a = 1) (h : ∀ t' k', Q (.int a t') { s with toks := k' }) : wpAny (model prog w) A (binaryOp .BitXor (.int a t) (.int 0 u)) Q E s :=
  xor_int (by have e : Builtin.bitXor a 0 = a := by rcases ha with e | e <;> subst e <;> decide
              rw [e]; exact h _ _)
theorem r_shlb (hn : 0 ≤ n) (h0 : 0 ≤ a) (hb : bl a + n ≤ 100000000) (h : ∀ v t' k', Is v (shl a n) → bl v ≤ bl a + n → 0 ≤ v → (0 < a → 0 < v) → Q (.int v t') { s with toks := k' }) : wpAny (model prog w) A (binaryOp .LShift (.int a t) (.int n u)) Q E s :=
  lshift_int hn (by unfold bl at hb; omega) (h _ _ _ ⟨rfl⟩ (bl_shl h0 hn) (shl_nonneg h0) shl_pos)
theorem r_divmod {h₀ : Heap} {L : Addr} {m : Str → Option Value} {news : List (Addr × Obj)} (F : Fr h₀ L s.heap m) (N : News h₀ L s.heap news) (h0 : 0 ≤ a) (hb : 0 < b) (hl : bl b ≤ 8000)
    (h : ∀ q r t1 t2 k' h' d, Is q (a.fdiv b) → Is r (a.fmod b) → bl q ≤ bl a → 0 ≤ q → 0 ≤ r → r < b → (q ≠ 0 ∨ r = a) → Fr h₀ L h' m → News h₀ L h' ((d, { cls := .type "tuple", data := .seq #[.int q t1, .int r t2] }) :: news) → (∀ p ∈ news, p.1 < d) →
      Q (.ref d) { s with toks := k', heap := h' }) : wpAny (model prog w) A (call (.builtin "divmod") [.int a t, .int b u]) Q E s := by
  have e1 : a.fdiv b = a / b := Int.fdiv_eq_ediv_of_nonneg a (Int.le_of_lt hb)
  have e2 : a.fmod b = a % b := Int.fmod_eq_emod_of_nonneg a (Int.le_of_lt hb)
  refine divmod_N F N (by omega) (fun h' F' N' => h _ _ _ _ _ _ _ ⟨rfl⟩ ⟨rfl⟩ (bl_fdiv h0 hb) ?_ ?_ ?_ ?_ F' N' (fun p hp => Heap.lt_size (N p hp).1)) (Or.inl (PyProof.noPylong_of_log2 (log2_of_bl hl)))
  · rw [e1]; exact Int.ediv_nonneg h0 (Int.le_of_lt hb)
  · rw [e2]; exact Int.emod_nonneg a (by omega)
  · rw [e2]; exact Int.emod_lt_of_pos a hb
  · rw [e1, e2]
    have := Int.mul_ediv_add_emod a b
    by_cases hq : a / b = 0
    · right; rw [hq, Int.mul_zero] at this; omega
    · left; exact hq
end
/-- p over q by the text's own road; m2 above 0 -/
def divX (c1 c2 prec : Int) : Int := if prec - c1 + c2 + 5 < 5 then 5 else prec - c1 + c2 + 5
def divF (sg m1 e1 c1 m2 e2 c2 prec : Int) (rnd : Str) : Int × Int × Int :=
  if m2 = 1 then normF sg m1 (e1 - e2) c1 prec rnd
  else if (shl m1 (divX c1 c2 prec)).fmod m2 ≠ 0 then
    normF sg (shl ((shl m1 (divX c1 c2 prec)).fdiv m2) 1 + 1) (e1 - e2 - (divX c1 c2 prec + 1)) (bl (shl ((shl m1 (divX c1 c2 prec)).fdiv m2) 1 + 1)) prec rnd
  else normF sg ((shl m1 (divX c1 c2 prec)).fdiv m2) (e1 - e2 - divX c1 c2 prec) (bl ((shl m1 (divX c1 c2 prec)).fdiv m2)) prec rnd
theorem drop1 {h₀ h : Heap} {L : Addr} {q : Addr × Obj} {r news : List (Addr × Obj)} (N : News h₀ L h (q :: r)) (hs : ∀ p ∈ news, p ∈ r) : News h₀ L h (q :: news) := fun p hp => N p ((List.mem_cons.mp hp).elim (fun e => by rw [e]; exact List.mem_cons_self ..) fun e => List.mem_cons_of_mem _ (hs p e))
theorem ltdrop {b : Addr} {r news : List (Addr × Obj)} (l : ∀ p ∈ r, p.1 < b) (hs : ∀ p ∈ news, p ∈ r) : ∀ p ∈ news, p.1 < b := fun p hp => l p (hs p hp)
theorem lt_head {a b : Addr} {o : Obj} {r : List (Addr × Obj)} (l : ∀ p ∈ (a, o) :: r, p.1 < b) : a < b := l _ (List.mem_cons_self ..)

/-- a tuple of four whole numbers stands there -/
def I4 (h : Heap) (p : Addr) (a b c d : Int) : Prop := ∃ t1 t2 t3 t4, IsTup h p #[.int a t1, .int b t2, .int c t3, .int d t4]
theorem i4_news {h₀ h : Heap} {L p : Addr} {news : List (Addr × Obj)} {a b c d : Int} {t1 t2 t3 t4 : Tok} (N : News h₀ L h news) (hm : (p, ({ cls := .type "tuple", data := .seq #[.int a t1, .int b t2, .int c t3, .int d t4] } : Obj)) ∈ news) : I4 h p a b c d :=
  ⟨t1, t2, t3, t4, _, N.get hm, rfl, _, rfl⟩
section
variable {w : World} {h₀ h : Heap} {L : Addr} {m : Str → Option Value}
theorem i4_22 (F : Fr h₀ L h m) (X : (Mine.hd.heap_39 w.params).In h₀) : I4 h 22 0 0 0 0 := ⟨_, _, _, _, tupK (X.keeps F.keep) (by with_unfolding_all rfl)⟩
theorem i4_25 (F : Fr h₀ L h m) (X : (Mine.hd.heap_39 w.params).In h₀) : I4 h 25 0 0 (-123) (-1) := ⟨_, _, _, _, tupK (X.keeps F.keep) (by with_unfolding_all rfl)⟩
theorem i4_26 (F : Fr h₀ L h m) (X : (Mine.hd.heap_39 w.params).In h₀) : I4 h 26 0 0 (-456) (-2) := ⟨_, _, _, _, tupK (X.keeps F.keep) (by with_unfolding_all rfl)⟩
theorem i4_27 (F : Fr h₀ L h m) (X : (Mine.hd.heap_39 w.params).In h₀) : I4 h 27 1 0 (-789) (-3) := ⟨_, _, _, _, tupK (X.keeps F.keep) (by with_unfolding_all rfl)⟩
end
theorem shaped_tup (ns : List Int) : PySem.SeqAt.shaped (.tuple (ns.map PyData.int)) = true := by
  have h1 := PySem.W.depthAll_ints ns
  have h2 : PyData.depth (.tuple (ns.map PyData.int)) ≤ 64 := by simp only [PyData.depth]; omega
  show (PyData.canLay0 (.tuple (ns.map PyData.int)) && decide (PyData.depth (.tuple (ns.map PyData.int)) ≤ 64)) = true
  rw [Bool.and_eq_true]
  exact ⟨by simp only [PyData.canLay0]; exact PySem.W.canLayAll0_ints ns, decide_eq_true h2⟩
theorem I4.reads {h : Heap} {p : Addr} {a b c d : Int} (x : I4 h p a b c d) : Reads h (.ref p) (.tuple ([a, b, c, d].map PyData.int)) [] := by
  obtain ⟨t1, t2, t3, t4, o, ho, hc, n, hd⟩ := x
  exact Reads.tuple ho hc hd (readsAll_of_ints (.cons a t1 (.cons b t2 (.cons c t3 (.cons d t4 .nil)))))
section
variable {prog : Program} {w : World} {A : Around} {E : Value → Shared → Prop} {s : Shared} {p q : Addr} {a b c d a' b' c' d' : Int} {Q : Value → Shared → Prop}
theorem r_eq4 (hp : I4 s.heap p a b c d) (hq : I4 s.heap q a' b' c' d') (hu : A.units + 64 < cLine) (h : Q (.bool (decide (a = a' ∧ b = b' ∧ c = c' ∧ d = d'))) s) : wpAny (model prog w) A (compareOp .Eq (.ref p) (.ref q)) Q E s :=
  eq_dataH_same hp.reads hq.reads (shaped_tup _) (shaped_tup _) hu (by simp only [PySem.SeqAt.noMix]; exact noMix_ints _ _)
    (by simp only [PySem.Spec.same]; rw [same_ints]; simpa using h)
theorem r_ne4 (hp : I4 s.heap p a b c d) (hq : I4 s.heap q a' b' c' d') (hu : A.units + 64 < cLine) (h : Q (.bool (!decide (a = a' ∧ b = b' ∧ c = c' ∧ d = d'))) s) : wpAny (model prog w) A (compareOp .NotEq (.ref p) (.ref q)) Q E s :=
  ne_dataH_same hp.reads hq.reads (shaped_tup _) (shaped_tup _) hu (by simp only [PySem.SeqAt.noMix]; exact noMix_ints _ _)
    (by simp only [PySem.Spec.same]; rw [same_ints]; simpa using h)
end
theorem raised_drop {base h : Heap} {l : List Env} {e : Addr} {cls : Value} {news' news : List (Addr × Obj)} (R : RaisedN base l e cls news' h) (hs : ∀ p ∈ news, p ∈ news') : RaisedN base l e cls news h :=
  let ⟨B, a0, h1, h2, h3⟩ := R
  ⟨B, a0, h1, fun q hq => h2 q (hs q hq), h3⟩
end Mine

namespace Mine
open Sem (wp)
/-! structural rules beneath the caller -/
structure Hid (P : Prop) : Prop where
  out : P
/-- a def stands there -/
structure DefAtM (h : Heap) (a : Addr) : Prop where
  out : ∃ o fd, h.get? a = some o ∧ o.data = .func fd
def isFn (K : Frag) (a : Addr) : Bool := match K.lookup a with | some ⟨_, _, .func _, _⟩ => true | _ => false
theorem fnAt {w : World} {h₀ h : Heap} {L a : Addr} {m : Str → Option Value} (F : Fr h₀ L h m) (X : (Mine.hd.heap_39 w.params).In h₀) (hf : ∀ P, isFn (Mine.hd.heap_39 P) a = true) : DefAtM h a := by
  have h1 := hf w.params
  unfold isFn at h1
  cases q : (Mine.hd.heap_39 w.params).lookup a with
  | none => rw [q] at h1; cases h1
  | some o =>
    obtain ⟨c, d, dt, sl⟩ := o
    rw [q] at h1
    cases dt <;> first | exact ⟨_, _, F.keep _ _ (X _ _ q), rfl⟩ | (exact absurd h1 (by simp))
theorem fn_54 (P : Params) : isFn (Mine.hd.heap_39 P) 54 = true := by kernel_rfl
theorem fn_62 (P : Params) : isFn (Mine.hd.heap_39 P) 62 = true := by kernel_rfl
theorem fn_70 (P : Params) : isFn (Mine.hd.heap_39 P) 70 = true := by kernel_rfl
theorem fn_118 (P : Params) : isFn (Mine.hd.heap_39 P) 118 = true := by kernel_rfl
theorem fn_127 (P : Params) : isFn (Mine.hd.heap_39 P) 127 = true := by kernel_rfl
theorem fn_132 (P : Params) : isFn (Mine.hd.heap_39 P) 132 = true := by kernel_rfl
theorem fn_139 (P : Params) : isFn (Mine.hd.heap_39 P) 139 = true := by kernel_rfl
theorem fn_146 (P : Params) : isFn (Mine.hd.heap_39 P) 146 = true := by kernel_rfl
theorem fn_151 (P : Params) : isFn (Mine.hd.heap_39 P) 151 = true := by kernel_rfl
theorem fn_158 (P : Params) : isFn (Mine.hd.heap_39 P) 158 = true := by kernel_rfl
theorem fn_165 (P : Params) : isFn (Mine.hd.heap_39 P) 165 = true := by kernel_rfl
theorem fn_172 (P : Params) : isFn (Mine.hd.heap_39 P) 172 = true := by kernel_rfl
theorem fn_179 (P : Params) : isFn (Mine.hd.heap_39 P) 179 = true := by kernel_rfl
theorem fn_186 (P : Params) : isFn (Mine.hd.heap_39 P) 186 = true := by kernel_rfl
section
variable {α : Type} {M : Model} {A : Around} {E : Value → Shared → Prop} {s : Shared} {env : Env}
theorem codeC_mono {c : Code} {R R' : Result → Shared → Prop} (h : codeC M A c R s) (hR : ∀ r s', R r s' → R' r s') : codeC M A c R' s :=
  fun Γ p hc hΓ hb => wpCode_mono hR (h Γ p hc hΓ hb)
theorem wpC_keep {vs : List Value} {m : Sem α} {Q : α → Shared → Prop} (h : wpC M A m Q E s) : wpC M A (m.keep vs) Q E s := fun Γ p hΓ hh => by rw [Sem.wp_keep]; exact h Γ p hΓ hh
theorem wpC_standAt {pos : Pos} {Q : Unit → Shared → Prop} (h : Q () s) : wpC M A (standAt pos) Q E s := wpC_of (wpAny_standAt h)
theorem wpC_loud {vs : List Value} {m : Sem Value} {Q : Value → Shared → Prop} (h : wpC M A m Q E s) : wpC M A (operate vs m) Q E s := fun Γ p hΓ hh => by
  rw [Sem.wp_operate]; exact h Γ p hΓ hh
theorem C_execs_nil {Q : Flow → Shared → Prop} (h : Q .next s) : wpC M A (execs [] env) Q E s := wpC_of (wpAny_execs_nil h)
theorem C_execs_cons {st : Stmt} {rest : List Stmt} {Q : Flow → Shared → Prop}
    (h : wpC M A (exec st env) (fun f s' => match f with | .next => wpC M A (execs rest env) Q E s' | f => Q f s') E s) : wpC M A (execs (st :: rest) env) Q E s := by
  rw [execs_cons]
  refine wpC_bind (wpC_mono h (fun f s' h' => ?_) fun _ _ x => x)
  cases f <;> first | exact h' | exact wpC_pure h'
theorem wp_cut {Γ : PySem.Ctx} (J : Shared → Prop) {Q : Flow → Pos → Shared → Prop} {E' : Value → Pos → Shared → Prop} : ∀ (k : Nat) (l : List Stmt) (p : Pos) (s : Shared),
    wp M Γ (execs (l.take k) env) (fun f _ s' => f = .next ∧ J s') E' p s → (∀ p' s', J s' → wp M Γ (execs (l.drop k) env) Q E' p' s') → wp M Γ (execs l env) Q E' p s
  | 0, l, p, s, h1, h2 => h2 p s (And.right h1)
  | k + 1, [], p, s, h1, h2 => h2 p s (And.right h1)
  | k + 1, st :: l, p, s, h1, h2 => by
    rw [List.take_succ_cons, execs_cons, Sem.wp_bind'] at h1
    rw [execs_cons, Sem.wp_bind']
    refine Sem.wp_mono M Γ _ (fun f p' s' h' => ?_) (fun _ _ _ h' => h') _ _ h1
    cases f with
    | next => exact wp_cut J k l p' s' h' h2
    | ret v => exact absurd (And.left h') (by intro e; cases e)
    | brk => exact absurd (And.left h') (by intro e; cases e)
    | cont => exact absurd (And.left h') (by intro e; cases e)
/-- the first k statements, then the rest -/
theorem C_cut (k : Nat) (J : Shared → Prop) {l : List Stmt} {Q : Flow → Shared → Prop}
    (h1 : wpC M A (execs (l.take k) env) (fun f s' => Hid (f = .next ∧ J s')) E s) (h2 : ∀ s', J s' → wpC M A (execs (l.drop k) env) Q E s') : wpC M A (execs l env) Q E s :=
  fun Γ p hΓ hh => wp_cut J k l p s (wpC_mono h1 (fun _ _ q => q.out) (fun _ _ x => x) Γ p hΓ hh) fun p' s' hj => h2 s' hj Γ p' hΓ hh
theorem A_cut (k : Nat) (J : Shared → Prop) {l : List Stmt} {Q : Flow → Shared → Prop}
    (h1 : wpAny M A (execs (l.take k) env) (fun f s' => Hid (f = .next ∧ J s')) E s) (h2 : ∀ s', J s' → wpAny M A (execs (l.drop k) env) Q E s') : wpAny M A (execs l env) Q E s :=
  fun Γ p hΓ => wp_cut J k l p s (wpAny_mono h1 (fun _ _ q => q.out) (fun _ _ x => x) Γ p hΓ) fun p' s' hj => h2 s' hj Γ p' hΓ
theorem wp_cutR {Γ : PySem.Ctx} (J : Shared → Prop) {Q : Flow → Pos → Shared → Prop} {E' : Value → Pos → Shared → Prop} : ∀ (k : Nat) (l : List Stmt) (p : Pos) (s : Shared),
    wp M Γ (execs (l.take k) env) (fun f p' s' => match f with | .next => J s' | f => Q f p' s') E' p s → (∀ p' s', J s' → wp M Γ (execs (l.drop k) env) Q E' p' s') → wp M Γ (execs l env) Q E' p s
  | 0, l, p, s, h1, h2 => h2 p s h1
  | k + 1, [], p, s, h1, h2 => h2 p s h1
  | k + 1, st :: l, p, s, h1, h2 => by
    rw [List.take_succ_cons, execs_cons, Sem.wp_bind'] at h1
    rw [execs_cons, Sem.wp_bind']
    refine Sem.wp_mono M Γ _ (fun f p' s' h' => ?_) (fun _ _ _ h' => h') _ _ h1
    cases f with
    | next => exact wp_cutR J k l p' s' h' h2
    | ret v => exact h'
    | brk => exact h'
    | cont => exact h'
/-- the first k statements, which may return, then the rest -/
theorem C_cutR (k : Nat) (J : Shared → Prop) {l : List Stmt} {Q : Flow → Shared → Prop}
    (h1 : wpC M A (execs (l.take k) env) (fun f s' => match f with | .next => Hid (J s') | f => Q f s') E s) (h2 : ∀ s', J s' → wpC M A (execs (l.drop k) env) Q E s') : wpC M A (execs l env) Q E s :=
  fun Γ p hΓ hh => wp_cutR J k l p s (Sem.wp_mono M Γ _ (fun f _ s' q => by cases f <;> first | exact q.out | exact q) (fun _ _ _ x => x) p s (h1 Γ p hΓ hh)) fun p' s' hj => h2 s' hj Γ p' hΓ hh
theorem A_cutR (k : Nat) (J : Shared → Prop) {l : List Stmt} {Q : Flow → Shared → Prop}
    (h1 : wpAny M A (execs (l.take k) env) (fun f s' => match f with | .next => Hid (J s') | f => Q f s') E s) (h2 : ∀ s', J s' → wpAny M A (execs (l.drop k) env) Q E s') : wpAny M A (execs l env) Q E s :=
  fun Γ p hΓ => wp_cutR J k l p s (Sem.wp_mono M Γ _ (fun f _ s' q => by cases f <;> first | exact q.out | exact q) (fun _ _ _ x => x) p s (h1 Γ p hΓ)) fun p' s' hj => h2 s' hj Γ p' hΓ
theorem C_If {test : Expr} {body orelse : List Stmt} {pos : Pos} {Q : Flow → Shared → Prop}
    (h : wpC M A (isTrue test env (eval test env)) (fun b s₂ => if b then wpC M A (execs body env) Q E s₂ else wpC M A (execs orelse env) Q E s₂) E s) :
    wpC M A (exec (.If test body orelse pos) env) Q E s := by
  rw [exec_If]
  refine wpC_bind (wpC_standAt (wpC_bind (wpC_mono h (fun b s₂ h₂ => ?_) fun _ _ x => x)))
  cases b <;> exact h₂
theorem C_Assign_Name {x : Str} {pos' : Pos} {value : Expr} {pos : Pos} {Q : Flow → Shared → Prop}
    (h : wpC M A (eval value env) (fun v s₁ => wpAny M A (storeName env x v) (fun _ => Q .next) E s₁) E s)
    (hs : swapsWith value (some (.Name x pos')) pos.line env = pure false := by rfl) : wpC M A (exec (.Assign [.Name x pos'] value pos) env) Q E s := by
  rw [exec_Assign_Name env x pos' value pos hs]
  exact wpC_bind (wpC_standAt (wpC_bind (wpC_mono h (fun v s₁ h₁ => wpC_bind (wpC_standAt (wpC_bind (wpC_of (wpAny_bindName (wpAny_mono h₁ (fun _ _ q => wpC_pure q) fun _ _ x => x)))))) fun _ _ x => x)))
theorem C_Assign_Tuple {elts : List Expr} {k : Nat} {tpos : Pos} {value : Expr} {pos : Pos} {Q : Flow → Shared → Prop}
    (h : wpC M A (eval value env) (fun v s₁ => wpAny M A (assign (.Tuple elts k tpos) env v) (fun _ => Q .next) E s₁) E s)
    (hs : swapsWithSole [.Tuple elts k tpos] value pos.line env = pure false := by rfl)
    (hw : swappedStores [.Tuple elts k tpos] value env = pure none := by rfl) : wpC M A (exec (.Assign [.Tuple elts k tpos] value pos) env) Q E s := by
  rw [exec_Assign]
  refine wpC_bind (wpC_standAt ?_)
  rw [hs]
  refine wpC_bind (wpC_pure ?_)
  rw [if_neg (by decide)]
  refine wpC_bind (wpC_mono h (fun v s₁ h₁ => ?_) fun _ _ x => x)
  rw [hw]
  refine wpC_bind (wpC_pure ?_)
  show wpC M A (do assignAll v [assign (.Tuple elts k tpos) env]; pure .next) Q E s₁
  exact wpC_bind (wpC_of (wpAny_mono h₁ (fun _ _ x => wpC_pure x) fun _ _ x => x))
theorem C_Return {e : Expr} {pos : Pos} {Q : Flow → Shared → Prop} (h : wpC M A (eval e env) (fun v => Q (.ret v)) E s) : wpC M A (exec (.Return (some e) pos) env) Q E s := by
  rw [exec_Return_some]
  exact wpC_bind (wpC_standAt (wpC_bind (wpC_mono h (fun v s₁ q => wpC_pure q) fun _ _ x => x)))
theorem C_Compare {l : Expr} {op : CmpOp} {r : Expr} {pos : Pos} {Q : Value → Shared → Prop}
    (h : wpC M A (eval l env) (fun a s₁ => wpC M A (eval r env) (fun b s₂ => wpC M A (compareOp op a b) Q E s₂) E s₁) E s)
    (hm : behindInMarks op r = false := by with_unfolding_all rfl) : wpC M A (eval (.Compare l [op] [r] pos) env) Q E s := by
  rw [eval_Compare1, markedBehindIn_of_false hm]
  exact wpC_bind (wpC_mono h (fun a s₁ h₁ => wpC_bind (wpC_holding (wpC_mono h₁ (fun b s₂ h₂ => wpC_bind (wpC_standAt (wpC_loud h₂))) fun _ _ x => x))) fun _ _ x => x)
theorem C_isTrue_Compare {l : Expr} {op : CmpOp} {r : Expr} {pos : Pos} {whole : Sem Value} {Q : Bool → Shared → Prop}
    (h : wpC M A (eval l env) (fun a s₁ => wpC M A (eval r env) (fun b s₂ => wpC M A (compareOp op a b) (fun c s₃ => wpC M A (truthy c) Q E s₃) E s₂) E s₁) E s)
    (hm : behindInMarks op r = false := by with_unfolding_all rfl) : wpC M A (isTrue (.Compare l [op] [r] pos) env whole) Q E s := by
  rw [isTrue_Compare1, markedBehindIn_of_false hm]
  exact wpC_bind (wpC_mono h (fun a s₁ h₁ => wpC_bind (wpC_holding (wpC_mono h₁ (fun b s₂ h₂ => wpC_bind (wpC_standAt (wpC_bind (wpC_loud (wpC_mono h₂ (fun c s₃ h₃ => wpC_holding h₃) fun _ _ x => x))))) fun _ _ x => x))) fun _ _ x => x)
theorem C_spliced_nil {pos : Pos} {Q : List Value → Shared → Prop} (h : Q [] s) : wpC M A (spliced (backTo pos (starEach [] env))) Q E s := wpC_of (Calls.spliced_nil h)
theorem C_spliced_cons {e : Expr} {rest : List Expr} {pos : Pos} {Q : List Value → Shared → Prop}
    (h : wpC M A (eval e env) (fun v s₁ => wpC M A (spliced (backTo pos (starEach rest env))) (fun vs s₂ => Q (v :: vs) s₂) E s₁) E s)
    (he : starEach (e :: rest) env = (false, eval e env) :: starEach rest env := by rfl) : wpC M A (spliced (backTo pos (starEach (e :: rest) env))) Q E s := by
  rw [he]
  show wpC M A (spliced ((false, _) :: backTo pos (starEach rest env))) Q E s
  rw [spliced]
  refine wpC_bind (wpC_mono ?_ (fun v s₁ h₁ => wpC_bind (wpC_pure (wpC_bind (wpC_holding (wpC_mono h₁ (fun vs s₂ h₂ => wpC_pure h₂) fun _ _ x => x))))) fun _ _ x => x)
  exact h
theorem C_evalArgs {f : Value} {x : Sem Value} {l : List (Bool × Sem Value)} {Q : Args → Shared → Prop} (h : wpC M A (spliced ((false, x) :: l)) (fun vs s₁ => Q ⟨vs, []⟩ s₁) E s) : wpC M A (evalArgs f true ((false, x) :: l) []) Q E s := by
  unfold evalArgs
  show wpC M A (spliced ((false, x) :: l) >>= _) Q E s
  exact wpC_bind (wpC_mono h (fun vs s' h' => wpC_holding (wpC_bind (wpC_pure (wpC_bind (wpC_pure (wpC_pure h')))))) fun _ _ x => x)
theorem C_ret {t : Sem Value} {Q : Value → Shared → Prop} (h : wpC M A t Q E s) : wpC M A (t >>= fun r => holding [r] point >>= fun _ => pure r) Q E s :=
  wpC_bind (wpC_mono h (fun r s₂ hr => wpC_bind (wpC_holding (wpC_of (wpAny_point (wpC_pure hr))))) fun _ _ x => x)
theorem C_callWith_fn {pos : Pos} {a : Addr} {e : Expr} {rest : List Expr} {Q : Value → Shared → Prop}
    (h : wpC M A (spliced (backTo pos (starEach (e :: rest) env))) (fun vs s₁ => DefAtM s₁.heap a ∧ wpC M A (call (.ref a) vs) Q E s₁) E s)
    (he : starEach (e :: rest) env = (false, eval e env) :: starEach rest env := by rfl)
    (hp : (backTo pos (starEach rest env)).any (·.1) = false := by rfl) (hn : (backTo pos (starEach (e :: rest) env)).length ≤ 30 := by exact Nat.le_of_ble_eq_true rfl) : wpC M A (callWith pos (.ref a) [] (backTo pos (starEach (e :: rest) env)) []) Q E s := by
  have hp2 : (backTo pos (starEach (e :: rest) env)).any (·.1) = false := by rw [he]; show (false || (backTo pos (starEach rest env)).any (·.1)) = false; rw [hp]; rfl
  unfold callWith
  refine wpC_bind (wpC_holding (wpC_mono (Q := fun x s₁ => x.kw = [] ∧ DefAtM s₁.heap a ∧ wpC M A (call (.ref a) x.pos) Q E s₁) ?_ (fun x s₁ h₁ => wpC_bind (wpC_standAt ?_)) fun _ _ x => x))
  · rw [he] at h ⊢
    exact C_evalArgs (wpC_mono h (fun vs s₁ h₁ => ⟨rfl, h₁⟩) fun _ _ x => x)
  · obtain ⟨hk, ⟨⟨o, fd, ho, hd⟩⟩, hc⟩ := h₁
    obtain ⟨xp, xk⟩ := x
    dsimp only at hk hc
    subst hk
    simp only [hp2, List.any_nil, Bool.or_false]
    refine wpC_bind (m := keeperOf (.ref a)) ?_
    unfold keeperOf
    refine wpC_of (wpAny_bind (wpAny_load ho ?_))
    rw [hd]
    refine wpAny_pure ?_
    dsimp only
    rw [if_neg (by simp only [List.length_nil]; omega)]
    exact C_ret (by unfold callMarked; exact wpC_keep hc)
theorem C_callWith_type {pos : Pos} {T : String} {e : Expr} {rest : List Expr} {Q : Value → Shared → Prop}
    (h : wpC M A (spliced (backTo pos (starEach (e :: rest) env))) (fun vs s₁ => wpC M A (call (.type T) vs) Q E s₁) E s)
    (he : starEach (e :: rest) env = (false, eval e env) :: starEach rest env := by rfl)
    (hp : (backTo pos (starEach rest env)).any (·.1) = false := by rfl) : wpC M A (callWith pos (.type T) [] (backTo pos (starEach (e :: rest) env)) []) Q E s := by
  have hp2 : (backTo pos (starEach (e :: rest) env)).any (·.1) = false := by rw [he]; show (false || (backTo pos (starEach rest env)).any (·.1)) = false; rw [hp]; rfl
  unfold callWith
  refine wpC_bind (wpC_holding (wpC_mono (Q := fun x s₁ => x.kw = [] ∧ wpC M A (call (.type T) x.pos) Q E s₁) ?_ (fun x s₁ h₁ => wpC_bind (wpC_standAt ?_)) fun _ _ x => x))
  · rw [he] at h ⊢
    exact C_evalArgs (wpC_mono h (fun vs s₁ h₁ => ⟨rfl, h₁⟩) fun _ _ x => x)
  · obtain ⟨hk, hc⟩ := h₁
    obtain ⟨xp, xk⟩ := x
    dsimp only at hk hc
    subst hk
    simp only [hp2, List.any_nil, Bool.or_false]
    refine wpC_bind (wpC_pure ?_)
    exact C_ret hc
theorem C_Call {func : Expr} {args : List Expr} {pos : Pos} {Q : Value → Shared → Prop}
    (h : wpAny M A (eval func env) (fun f s₁ => wpC M A (callWith pos f [] (backTo pos (starEach args env)) []) Q E s₁) E s)
    (he : eval (.Call func args [] pos) env = (do callWith pos (← eval func env) [] (backTo pos (starEach args env)) (backToKw pos (keywordEach [] env))) := by rfl) :
    wpC M A (eval (.Call func args [] pos) env) Q E s := by
  rw [he]; exact wpC_bind (wpC_of h)
theorem C_Try {body : List Stmt} {h₀ : ExceptHandler} {hs : List ExceptHandler} {pos : Pos} {Q : Flow → Shared → Prop}
    (h : wpC M A (execs body env) (fun f s₁ => Q f s₁)
      (fun e s₁ => wpAny M A (noteFrame e env) (fun _ s₂ => wpAny M A (setFlight e none) (fun _ s₃ => wpAny M A (handleBy e env (h₀ :: hs)) Q E s₃) E s₂) E s₁) s) :
    wpC M A (exec (.Try body (h₀ :: hs) [] [] pos) env) Q E s := by
  rw [arm_exec_Try]
  refine wpC_bind (wpC_standAt ?_)
  unfold tryStmt
  simp only [List.isEmpty_nil, if_true, List.isEmpty_cons, Bool.false_and, Bool.false_eq_true, if_false]
  refine wpC_bind (wpC_attempt (wpC_mono h (fun f s₁ h₁ => ?_) fun e s₁ h₁ => ?_))
  · cases f <;> first | exact wpC_pure h₁ | exact C_execs_nil h₁
  · exact wpC_bind (wpC_of (wpAny_mono h₁ (fun _ _ h₂ => wpC_bind (wpC_of (wpAny_mono h₂ (fun _ _ h₃ => wpC_of h₃) fun _ _ x => x))) fun _ _ x => x))
end
section
variable {prog : Program} {w : World} {A : Around} {E : Value → Shared → Prop} {s : Shared} {env : Env} {R : Result → Shared → Prop}
theorem C_Expr {e : Expr} {pos : Pos} {Q : Flow → Shared → Prop} (h : wpC (model prog w) A (eval e env) (fun _ => Q .next) E s)
    (hi : interactive env = false := by rfl) (hs : swapsWith e none pos.line env = pure false := by rfl) : wpC (model prog w) A (exec (.Expr e pos) env) Q E s := by
  rw [exec_Expr env e pos hi hs]
  exact wpC_bind (wpC_standAt (wpC_bind (wpC_mono h (fun v s' h' => wpC_of (wpAny_dropValue h')) fun _ _ x => x)))
theorem codeC_call_function {a : Addr} {args : Args} {o : Obj} {fd : FuncData} {body : List Stmt} (hroom : A.depth < recursionLimit)
    (ho : s.heap.get? a = some o) (hd' : o.data = .func fd) (hco : fd.scope.isCoroutine = false) (hgen : fd.scope.isGenerator = false) (hbody : fd.body = .stmts body) (hcd : s.heap.CodeRec fd.code fd.qualname)
    (h : wpAny (model prog w) A.in1 (bindArgs fd args) (fun binds s₁ =>
      wpAny (model prog w) A.in1 (newFunctionEnv fd.scope fd.globals fd.closure binds (fd.qualname ++ ".<locals>.") (some a) fd.code none fd.builtins)
        (fun env s₂ => s₂.heap.NoLimit ∧ codeC (model prog w) A (.func body env) R s₂) (fun e s' => R (.error e) s') s₁) (fun e s' => R (.error e) s') s) :
    codeC (model prog w) A (.call (.ref a) args) R s := by
  refine codeC_of_tree ?_
  show wpC _ A.in1 (callAny (.ref a) args) _ _ s
  simp only [callAny]
  refine wpC_bind (wpC_of (wpAny_load ho ?_))
  obtain ⟨c, oc, vs, tq, hc, hoc, hdc, hq⟩ := hcd
  simp only [hd', callFunction, hco, hgen, hbody, hc]
  rw [hc] at h
  refine wpC_bind (m := field (.ref c) 1) (wpC_of (wpAny_field hoc hdc hq (wpC_bind (wpC_pure ?_))))
  exact wpC_bind (wpC_of (wpAny_mono h (fun binds s₁ h₁ => wpC_bind (wpC_of (wpAny_mono h₁ (fun env s₂ h₂ => wpC_bind (wpC_of (wpAny_enterFrame h₂.1 hroom
    (wpC_pure (And.intro rfl h₂.2))))) fun _ _ h' => h'))) fun _ _ h' => h'))
theorem codeC_call_def {a : Addr} {o : Obj} {fd : FuncData} {body : List Stmt} {args : Args} {binds : List (Str × Value)}
    (hroom : A.depth < recursionLimit) (ho : s.heap.get? a = some o) (hdata : o.data = .func fd) (hlim : s.heap.NoLimit) (hcd : s.heap.CodeRec fd.code fd.qualname)
    (hbody : fd.body = .stmts body) (hbind : BindsTo s fd args binds)
    (hcell : ∀ x ∈ fd.scope.names, x.2 ≠ .cell) (hloc : ∀ x ∈ binds, fd.scope.names.lookup x.1 = some .local)
    (h : ∀ h₀, h₀.Ns s.heap.objs.size (fun x => binds.reverse.lookup x) → (∀ b o, s.heap.get? b = some o → h₀.get? b = some o) →
      wpC (model prog w) (A.deeper (callEnv fd s.heap.objs.size a)) (execs body (callEnv fd s.heap.objs.size a)) (fun f s' => R (.ok (.ret (match f with | .ret v => v | _ => .none))) s')
        (fun e s' => wpAny (model prog w) (A.deeper (callEnv fd s.heap.objs.size a)) (leaving (callEnv fd s.heap.objs.size a) e) (fun _ s'' => R (.error e) s'') (fun e' s'' => R (.error e') s'') s')
        { s with heap := h₀, toks := s.toks + binds.length })
    (hco : fd.scope.isCoroutine = false := by rfl) (hgen : fd.scope.isGenerator = false := by rfl) (hk : fd.scope.kind = .function := by rfl) :
    codeC (model prog w) A (.call (.ref a) args) R s := by
  refine codeC_call_function hroom ho hdata hco hgen hbody hcd (hbind _ _ _ _ ?_)
  refine wpAny_newFunctionEnv hcell hloc (fun h₀ hns hsb => ⟨hlim.fresh _ hsb, codeC_func (wpC_mono (h h₀ hns fun b o e => ?_) (fun _ _ x => x) fun _ _ x => wpC_of x)⟩) hk
  exact hsb.extBut b o (Nat.ne_of_lt (Heap.lt_size e)) (Heap.get?_push_of_some _ e)
end
section
variable {prog : Program} {w : World} {A₀ A : Around} {s : Shared} {base h₀ : Heap} {L : Addr} {m : Str → Option Value} {news : List (Addr × Obj)} {K : Frag} {p : Program} {loose : List Str} {mean : ExcName → Option Value} {mg mb : Str → Option Value}
theorem code_defC2 {env : Env} {outer : List Env} {R : Result → Shared → Prop} {name qual : Str} {params : Arguments} {body : List Stmt} {scope : Scope} {dV kV doc pm cdv ct oc : Value} {an od : Option Addr} {osl : Array (Option Value)} {f : Addr} {args : Args} {binds : List (Str × Value)}
    (B : Below A₀ base outer h₀) (F : Fr h₀ L s.heap m) (X₀ : K.In h₀) (N : News h₀ L s.heap news) (T : Top p loose mean mg mb h₀) (hA : A.frames = some (env :: outer)) (hf : env.frame = some L) (hke : env.scope.kind = .function)
    (ho : K.lookup f = some ⟨oc, od, .func (fnOf name qual params body scope dV kV doc pm an cdv ct), osl⟩) (hcd : codeIn K cdv qual = true) (hroom : A.depth < recursionLimit)
    (hbind : BindsTo s (fnOf name qual params body scope dV kV doc pm an cdv ct) args binds) (hloc : ∀ y ∈ binds, scope.names.lookup y.1 = some .local)
    (h : ∀ g L' h₁ tk, Fr h₀ L g m → Fr g L' h₁ (fun y => binds.reverse.lookup y) → News g L' h₁ news → Below A base (env :: outer) g → K.In g → Top p loose mean mg mb g →
      wpC (model prog w) (A.deeper (envOf qual scope L' f cdv)) (execs body (envOf qual scope L' f cdv))
        (fun fl s' => LeaveK h₀ L m g R (match fl with | .ret v => v | _ => .none) s')
        (fun e s' => wpAny (model prog w) (A.deeper (envOf qual scope L' f cdv)) (leaving (envOf qual scope L' f cdv) e) (fun _ s'' => R (.error e) s'') (fun e' s'' => R (.error e') s'') s')
        { s with heap := h₁, toks := tk })
    (hco : scope.isCoroutine = false) (hgen : scope.isGenerator = false) (hk : scope.kind = .function)
    (hcell : ∀ x ∈ scope.names, x.2 ≠ .cell) : codeC (model prog w) A (.call (.ref f) args) R s := by
  obtain ⟨FG, BG, st, lv⟩ := groundX (R := R) B F N hA hf hke
  refine codeC_call_def (fd := fnOf name qual params body scope dV kV doc pm an cdv ct) (body := body) (binds := binds) hroom ((X₀.keeps F.keep) _ _ ho) rfl (T.nolimit.keeps F.keep) (codeRec_of (X₀.keeps F.keep) hcd) rfl hbind hcell hloc (fun h₁ hns hk₁ => ?_) hco hgen hk
  exact wpC_mono (h _ s.heap.objs.size h₁ _ FG ⟨hns, fun b o e => hk₁ b o (of_hideAll _ e), Nat.le_of_eq (hideAll_size _ _)⟩
    (fun p hp => ⟨hk₁ _ _ (N p hp).1, Nat.ne_of_lt (Heap.lt_size (N p hp).1), hideAll_none _ (List.mem_map_of_mem hp)⟩) BG (X₀.keeps st) (T.keeps st)) (fun fl s' hl => lv _ _ hl) fun _ _ y => y
end
/-- what a call of the def at f with vs does beneath the caller, wherever a def calls it -/
def CtrC (f : Addr) (vs : List Value) (sz : Nat) (news : List (Addr × Obj)) (Ret : Value → List (Addr × Obj) → Prop) (Exc : String → Prop) : Prop :=
  ∀ (w : World) (mean : ExcName → Option Value) (mg mb : Str → Option Value) (dp un : Nat) (gd : Option (List Code)) (cn : Str) (cs : Scope) (a : Addr) (ccd : Value) (cl : List (Str × Addr)) (outer : List Env) (A₀ : Around) (base h₀ : Heap) (L : Addr) (m : Str → Option Value) (s : Shared) (Q E : Value → Shared → Prop),
    Below A₀ base outer h₀ → Fr h₀ L s.heap m → (Mine.hd.heap_39 w.params).In h₀ → News h₀ L s.heap news →
    Top Mine.hd.view_39 (looseW Mine.hd.view_39
      [Str.ofString "round_fast", Str.ofString "fzero", Str.ofString "fone", Str.ofString "ften", Str.ofString "fnan",
        Str.ofString "finf", Str.ofString "fninf", Str.ofString "shifts_down", Str.ofString "from_man_exp",
        Str.ofString "from_int", Str.ofString "from_rational", Str.ofString "mpf_pos", Str.ofString "mpf_mul",
        Str.ofString "mpf_div", Str.ofString "reciprocal_rnd", Str.ofString "mpf_pow_int",
        Str.ofString "str_to_man_exp", Str.ofString "special_str", Str.ofString "from_str"]) mean mg mb h₀ →
    cs.kind = .function → dp + sz < recursionLimit → un + 8 * sz < cLine →
    (∀ r news' h' tk', Fr h₀ L h' m → News h₀ L h' news' → Ret r news' → Q r { s with heap := h', toks := tk' }) →
    (∀ X e g₂ h' tk', Exc X → RaisedN base (envX cn cs L a ccd cl :: outer) e (.type X) news h' → Fr h₀ L g₂ m → g₂.UpToSlots h' → E (.ref e) { s with heap := h', toks := tk' }) →
    wpC (model PySem.Challenge.rw_bw0028_01.row.prog w) (ktrTop dp un gd cn cs L a ccd cl outer) (call (.ref f) vs) Q E s
theorem CtrC.use {f : Addr} {vs : List Value} {sz : Nat} {news : List (Addr × Obj)} {Ret : Value → List (Addr × Obj) → Prop} {Exc : String → Prop}
    {w : World} {mean : ExcName → Option Value} {mg mb : Str → Option Value} {dp un : Nat} {gd : Option (List Code)} {cn : Str} {cs : Scope} {a : Addr} {ccd : Value} {cl : List (Str × Addr)} {outer : List Env} {A₀ : Around} {base h₀ : Heap} {L : Addr} {m : Str → Option Value} {s : Shared} {Q E : Value → Shared → Prop}
    (C : CtrC f vs sz news Ret Exc)
    (B : Below A₀ base outer h₀) (F : Fr h₀ L s.heap m) (X : (Mine.hd.heap_39 w.params).In h₀) (N : News h₀ L s.heap news)
    (T : Top Mine.hd.view_39 (looseW Mine.hd.view_39
      [Str.ofString "round_fast", Str.ofString "fzero", Str.ofString "fone", Str.ofString "ften", Str.ofString "fnan",
        Str.ofString "finf", Str.ofString "fninf", Str.ofString "shifts_down", Str.ofString "from_man_exp",
        Str.ofString "from_int", Str.ofString "from_rational", Str.ofString "mpf_pos", Str.ofString "mpf_mul",
        Str.ofString "mpf_div", Str.ofString "reciprocal_rnd", Str.ofString "mpf_pow_int",
        Str.ofString "str_to_man_exp", Str.ofString "special_str", Str.ofString "from_str"]) mean mg mb h₀)
    (hk : cs.kind = .function) (hd : dp + sz < recursionLimit) (hu : un + 8 * sz < cLine)
    (hexc : ∀ X e g₂ h' tk', Exc X → RaisedN base (envX cn cs L a ccd cl :: outer) e (.type X) news h' → Fr h₀ L g₂ m → g₂.UpToSlots h' → E (.ref e) { s with heap := h', toks := tk' })
    (hret : ∀ r news' h' tk', Fr h₀ L h' m → News h₀ L h' news' → Ret r news' → Q r { s with heap := h', toks := tk' }) :
    wpC (model PySem.Challenge.rw_bw0028_01.row.prog w) (ktrTop dp un gd cn cs L a ccd cl outer) (call (.ref f) vs) Q E s :=
  C _ _ _ _ _ _ _ _ _ _ _ _ _ _ _ _ _ _ _ _ _ B F X N T hk hd hu hret hexc
end Mine

namespace Mine
/-! a for loop beneath the caller -/
section
variable {prog : Program} {w : World} {A : Around} {E : Value → Shared → Prop} {s : Shared} {env : Env}
theorem codeC_block {stmts : List Stmt} {R : Result → Shared → Prop}
    (h : wpC (model prog w) A (execs stmts env) (fun f s' => R (.ok f) s') (fun _ _ => False) s) : codeC (model prog w) A (.block stmts env) R s := by
  refine codeC_of_tree ?_
  show wpC _ _ (do return Fin.done (← (execs stmts env).onRaise (fun x => do noteFrame x env; theTreesLotGoes x))) _ _ s
  exact wpC_bind (wpC_onRaise (wpC_mono h (fun f s' h' => wpC_pure h') fun _ _ h' => h'.elim))
theorem codeC_turn {target : Expr} {it : Value} {body orelse : List Stmt} {R : Result → Shared → Prop}
    (h : wpAny (model prog w) A (pyNext it) (fun r s₁ => match r with
      | none => wpC (model prog w) A (execs orelse env) (fun f s₃ => R (.ok f) s₃) (fun _ _ => False) s₁
      | some v => wpAny (model prog w) A (assign target env v) (fun _ s₂ => wpC (model prog w) A (execs body env) (fun f s₃ => match f with
          | .next | .cont => codeC (model prog w) A (.forLoop target it body orelse env) R s₃
          | .brk => R (.ok .next) s₃
          | .ret v => R (.ok (.ret v)) s₃) (fun _ _ => False) s₂) (fun _ _ => False) s₁) (fun _ _ => False) s)
    (ht : ∀ v, letOwnedTupleGo target it v = pure () := by intro _; rfl) : codeC (model prog w) A (.forLoop target it body orelse env) R s := by
  refine codeC_of_tree ?_
  show wpC _ _ ((forTurn target it body orelse env).onRaise (fun x => do noteFrame x env; theTreesLotGoes x)) _ _ s
  refine wpC_onRaise ?_
  simp only [forTurn]
  refine wpC_bind (wpC_standAt (wpC_bind (wpC_onRaise (wpC_mono (wpC_of h) (fun r s₁ h₁ => ?_) fun _ _ h' => h'.elim))))
  cases r with
  | none => exact wpC_pure ⟨rfl, codeC_block h₁⟩
  | some v =>
    refine wpC_bind (wpC_of (wpAny_of_eq (ht v) ?_))
    refine wpC_bind (wpC_of (wpAny_mono h₁ (fun _ s₂ h₂ => ?_) fun _ _ q => q.elim))
    refine wpC_bind (wpC_mono h₂ (fun f s₃ h₃ => ?_) fun _ _ h' => h'.elim)
    cases f with
    | next => exact wpC_pure ⟨rfl, h₃⟩
    | cont => exact wpC_pure ⟨rfl, h₃⟩
    | brk => exact wpC_pure h₃
    | ret v => exact wpC_pure h₃
theorem C_For {target iter : Expr} {body orelse : List Stmt} {pos : Pos} {Q : Flow → Shared → Prop}
    (h : wpAny (model prog w) A (eval iter env) (fun x s₁ => wpAny (model prog w) A (pyIter x) (fun it s₂ =>
      codeC (model prog w) A (.forLoop target it body orelse env) (fun r s' => match r with | .ok f => Q f s' | .error e => False) s₂) (fun _ _ => False) s₁) (fun _ _ => False) s)
    (hs : ∀ x, foldedSetIterable iter env x = pure x := by intro _; rfl) :
    wpC (model prog w) A (exec (.For target iter body orelse pos) env) Q E s := by
  rw [exec_For]
  refine wpC_bind (wpC_standAt (wpC_bind (wpC_mono (wpC_of h) (fun x s₁ h₁ => wpC_bind (wpC_of (wpAny_of_eq (hs x) ?_))) fun _ _ h' => h'.elim)))
  refine wpC_bind (wpC_standAt (wpC_bind (wpC_holding (wpC_mono (wpC_of h₁) (fun it s₂ h₂ => ?_) fun _ _ h' => h'.elim))))
  unfold runOwn
  exact wpC_onRaise (wpC_run (by
    have e : A.mark none = A := rfl
    rw [e]
    exact codeC_mono h₂ fun r s' q => by cases r with
      | ok f => exact q
      | error e => exact q.elim))
end
end Mine

namespace Mine
/-! a for loop over a short range beneath the caller -/
section
variable {prog : Program} {w : World} {A : Around} {E : Value → Shared → Prop} {s : Shared} {env : Env} {h₀ : Heap} {L I : Addr} {R : Result → Shared → Prop} {target : Expr} {body : List Stmt}
theorem fr_ext {h h' : Heap} {m : Str → Option Value} (F : Fr h₀ L h m) (e : Heap.ExtBut I h h') (h1 : I ≠ L) (h2 : h₀.get? I = none) : Fr h₀ L h' m :=
  ⟨F.ns.at' fun o q => e L o h1.symm q, fun b o q => e b o (fun x => by rw [x, h2] at q; cases q) (F.keep b o q), F.above⟩
theorem news_ext {h h' : Heap} {news : List (Addr × Obj)} (N : News h₀ L h news) (e : Heap.ExtBut I h h') (hn : ∀ p ∈ news, p.1 ≠ I) : News h₀ L h' news :=
  fun p hp => ⟨e p.1 p.2 (hn p hp) (N p hp).1, (N p hp).2⟩
theorem C_forR (J : (Str → Option Value) → List (Addr × Obj) → Prop) (hh : A.handled = none)
    (turn : ∀ (a : Int) (left : Nat) (m : Str → Option Value) (news : List (Addr × Obj)) (h1 : Heap) (k1 : Nat) (t : Tok), J m news → Fr h₀ L h1 m → News h₀ L h1 ((I, itR (a + 1) left) :: news) → (∀ p ∈ news, p.1 ≠ I) →
      wpAny (model prog w) A (assign target env (.int a t)) (fun _ s₂ => wpC (model prog w) A (execs body env) (fun f s₃ => match f with
        | .next | .cont => Hid (∃ h2 k2 m2 news2, s₃ = { s with heap := h2, toks := k2 } ∧ Fr h₀ L h2 m2 ∧ News h₀ L h2 ((I, itR (a + 1) left) :: news2) ∧ (∀ p ∈ news2, p.1 ≠ I) ∧ J m2 news2)
        | .brk => R (.ok .next) s₃
        | .ret v => R (.ok (.ret v)) s₃) (fun _ _ => False) s₂) (fun _ _ => False) { s with heap := h1, toks := k1 })
    (done : ∀ (m : Str → Option Value) (news : List (Addr × Obj)) (h1 : Heap) (k1 : Nat), J m news → Fr h₀ L h1 m → News h₀ L h1 news → R (.ok .next) { s with heap := h1, toks := k1 })
    (ht : ∀ v, letOwnedTupleGo target (.ref I) v = pure () := by intro _; rfl) :
    ∀ (k : Nat) (a : Int) (m : Str → Option Value) (news : List (Addr × Obj)) (h1 : Heap) (k1 : Nat), J m news → Fr h₀ L h1 m → News h₀ L h1 ((I, itR a k) :: news) → (∀ p ∈ news, p.1 ≠ I) →
      codeC (model prog w) A (.forLoop target (.ref I) body [] env) R { s with heap := h1, toks := k1 }
  | 0, a, m, news, h1, k1, hJ, F, N, hn => by
    have z := N _ (List.mem_cons_self ..)
    refine codeC_turn (wpAny_pyNext_range_end hh (x := a) (left := 0) (step := 1) z.1 (Int.le_refl 0) fun h' e => ?_) ht
    exact C_execs_nil (done m news h' k1 hJ (fr_ext F e z.2.1 z.2.2) (news_ext (fun p hp => N p (List.mem_cons_of_mem _ hp)) e hn))
  | k + 1, a, m, news, h1, k1, hJ, F, N, hn => by
    have z := N _ (List.mem_cons_self ..)
    refine codeC_turn (wpAny_pyNext_range_item (x := a) (left := ((k + 1 : Nat) : Int)) (step := 1) z.1 (by omega) fun h' hit hs => ?_) ht
    have hit' : h'.get? I = some (itR (a + 1) (k : Int)) := by
      have e : ((k + 1 : Nat) : Int) - 1 = (k : Int) := by omega
      rw [e] at hit
      exact hit
    refine wpAny_mono (turn a k m news h' _ _ hJ (F.change hs z.2.1 z.2.2) (fun p hp => ?_) hn) (fun _ s₂ h₂ => ?_) fun _ _ q => q
    · rcases List.mem_cons.mp hp with rfl | hp
      · exact ⟨hit', z.2⟩
      · have y := N p (List.mem_cons_of_mem _ hp)
        exact ⟨(hs.2 p.1 (hn p hp)).trans y.1, y.2⟩
    · refine wpC_mono h₂ (fun f s₃ q => ?_) fun _ _ q => q
      cases f with
      | next =>
        obtain ⟨h2, k2, m2, news2, rfl, F2, N2, hn2, hJ2⟩ := q.out
        exact C_forR J hh turn done ht k (a + 1) m2 news2 h2 k2 hJ2 F2 N2 hn2
      | cont =>
        obtain ⟨h2, k2, m2, news2, rfl, F2, N2, hn2, hJ2⟩ := q.out
        exact C_forR J hh turn done ht k (a + 1) m2 news2 h2 k2 hJ2 F2 N2 hn2
      | brk => exact q
      | ret v => exact q
theorem c_iter {r : Addr} {a b : Int} {t u v : Tok} {n : Nat} {m : Str → Option Value} {news : List (Addr × Obj)} {Q : Value → Shared → Prop} (F : Fr h₀ L s.heap m) (N : News h₀ L s.heap news)
    (hr : IsRange s.heap r a b 1 t u v) (hsmall : Builtin.Range.small a b 1 = true) (hn : Builtin.Range.rangeSize a b 1 = (n : Int))
    (h : ∀ I h', Fr h₀ L h' m → News h₀ L h' ((I, itR a n) :: news) → (∀ p ∈ news, p.1 ≠ I) → Q (.ref I) { s with heap := h' }) : wpAny (model prog w) A (pyIter (.ref r)) Q E s := by
  refine wpAny_pyIter_range hr hsmall ?_
  rw [hn]
  exact h _ _ (F.push _) (News.push F N _) fun p hp => Nat.ne_of_lt (Heap.lt_size (N p hp).1)
end
end Mine

namespace Mine
/-! plain laws of the words of whole numbers -/
theorem and_ee (x y : Nat) : (2 * x) &&& (2 * y) = 2 * (x &&& y) := by
  apply Nat.eq_of_testBit_eq
  intro i
  cases i with
  | zero => simp [Nat.testBit_and, Nat.testBit_zero]
  | succ i =>
    have h1 : (2 * x) / 2 = x := by omega
    have h2 : (2 * y) / 2 = y := by omega
    have h3 : (2 * (x &&& y)) / 2 = x &&& y := by omega
    rw [Nat.testBit_and, Nat.testBit_succ, Nat.testBit_succ, Nat.testBit_succ, h1, h2, h3, Nat.testBit_and]
theorem and_oe (x y : Nat) : (2 * x + 1) &&& (2 * y) = 2 * (x &&& y) := by
  apply Nat.eq_of_testBit_eq
  intro i
  cases i with
  | zero => simp [Nat.testBit_and, Nat.testBit_zero]
  | succ i =>
    have h1 : (2 * x + 1) / 2 = x := by omega
    have h2 : (2 * y) / 2 = y := by omega
    have h3 : (2 * (x &&& y)) / 2 = x &&& y := by omega
    rw [Nat.testBit_and, Nat.testBit_succ, Nat.testBit_succ, Nat.testBit_succ, h1, h2, h3, Nat.testBit_and]
theorem and_eo (x y : Nat) : (2 * x) &&& (2 * y + 1) = 2 * (x &&& y) := by rw [Nat.and_comm, and_oe, Nat.and_comm]
theorem and_odd (j : Nat) : (2 * j + 1) &&& (2 * j) = 2 * j := by rw [and_oe, Nat.and_self]
/-- the lowest bit -/
theorem low_bit (m : Nat) (hm : m % 2 = 1) : ∀ k : Nat, (2 ^ k * m) &&& (2 ^ k * m - 1) = 2 ^ k * (m - 1)
  | 0 => by
    obtain ⟨j, rfl⟩ : ∃ j, m = 2 * j + 1 := ⟨m / 2, by omega⟩
    simp only [Nat.pow_zero, Nat.one_mul, Nat.add_sub_cancel]
    exact and_odd j
  | k + 1 => by
    have ih := low_bit m hm k
    have hpos : 0 < 2 ^ k * m := Nat.mul_pos (Nat.two_pow_pos k) (by omega)
    have e : 2 ^ (k + 1) * m = 2 * (2 ^ k * m) := by rw [Nat.pow_succ, Nat.mul_comm (2 ^ k) 2, Nat.mul_assoc]
    have e2 : 2 ^ (k + 1) * m - 1 = 2 * (2 ^ k * m - 1) + 1 := by omega
    have e3 : 2 ^ (k + 1) * (m - 1) = 2 * (2 ^ k * (m - 1)) := by rw [Nat.pow_succ, Nat.mul_comm (2 ^ k) 2, Nat.mul_assoc]
    rw [e2, e, and_eo, ih, e3]
theorem band_nn (a b : Nat) : band (a : Int) (b : Int) = ((a &&& b : Nat) : Int) := by
  unfold band Builtin.bitAnd
  rw [decide_eq_true (by omega : (0 : Int) ≤ (a : Int)), decide_eq_true (by omega : (0 : Int) ≤ (b : Int))]
  rfl
theorem band_self_neg (a : Nat) (h : 0 < a) : band (a : Int) (-(a : Int)) = ((a - (a &&& (a - 1)) : Nat) : Int) := by
  unfold band Builtin.bitAnd
  have h1 : decide ((0 : Int) ≤ (a : Int)) = true := decide_eq_true (by omega)
  have h2 : decide ((0 : Int) ≤ -(a : Int)) = false := decide_eq_false (by omega)
  rw [h1, h2]
  have h3 : Builtin.bitNot (-(a : Int)) = ((a - 1 : Nat) : Int) := by unfold Builtin.bitNot; omega
  show (a : Int) - ((((a : Int).toNat &&& (Builtin.bitNot (-(a : Int))).toNat : Nat)) : Int) = _
  rw [h3, Int.toNat_natCast, Int.toNat_natCast]
  have : a &&& (a - 1) ≤ a := Nat.and_le_left
  omega
theorem bl_two_pow (k : Nat) : bl ((2 ^ k : Nat) : Int) = (k : Int) + 1 := by
  have h1 : bl ((2 ^ k : Nat) : Int) ≤ ((k + 1 : Nat) : Int) := bl_nat.mpr (by rw [Nat.pow_succ]; have := Nat.two_pow_pos k; omega)
  have h2 : ¬ bl ((2 ^ k : Nat) : Int) ≤ (k : Int) := fun h => absurd (bl_nat.mp h) (Nat.lt_irrefl _)
  omega
theorem tz_of (k m : Nat) (hm : m % 2 = 1) : tz ((2 ^ k * m : Nat) : Int) = (k : Int) := by
  have hpos : 0 < 2 ^ k * m := Nat.mul_pos (Nat.two_pow_pos k) (by omega)
  unfold tz
  rw [if_neg (by omega), band_self_neg _ hpos, low_bit m hm k]
  have e : 2 ^ k * m - 2 ^ k * (m - 1) = 2 ^ k := by
    rw [← Nat.mul_sub]
    have : m - (m - 1) = 1 := by omega
    rw [this, Nat.mul_one]
  rw [e, bl_two_pow]
  omega
theorem band_one (a : Nat) : band (a : Int) 1 = ((a % 2 : Nat) : Int) := by
  rw [show (1 : Int) = ((1 : Nat) : Int) from rfl, band_nn, Nat.and_one_is_mod]
theorem band_two (a : Nat) : band (a : Int) 2 = ((2 * (a / 2 % 2) : Nat) : Int) := by
  rw [show (2 : Int) = ((2 : Nat) : Int) from rfl, band_nn]
  have e : a &&& 2 = 2 * (a / 2 &&& 1) := by
    rcases Nat.mod_two_eq_zero_or_one a with h | h
    · obtain ⟨x, rfl⟩ : ∃ x, a = 2 * x := ⟨a / 2, by omega⟩
      have := and_ee x 1
      rw [show 2 * x / 2 = x from by omega]; exact this
    · obtain ⟨x, rfl⟩ : ∃ x, a = 2 * x + 1 := ⟨a / 2, by omega⟩
      have := and_oe x 1
      rw [show (2 * x + 1) / 2 = x from by omega]; exact this
  rw [e, Nat.and_one_is_mod]
theorem shr_nat (a k : Nat) : shr (a : Int) (k : Int) = ((a / 2 ^ k : Nat) : Int) := by
  unfold shr
  rw [Int.toNat_natCast, Int.fdiv_eq_ediv_of_nonneg _ (Int.le_of_lt (Int.pow_pos (by decide)))]
  have : ((2 : Int) ^ k) = ((2 ^ k : Nat) : Int) := by simp
  rw [this]
  exact (Int.natCast_ediv a (2 ^ k)).symm
theorem shl_nat (a k : Nat) : shl (a : Int) (k : Int) = ((a * 2 ^ k : Nat) : Int) := by unfold shl; simp
/-- a number above 0 is a power of two times an odd one -/
theorem odd_part : ∀ a : Nat, 0 < a → ∃ k m, a = 2 ^ k * m ∧ m % 2 = 1
  | a, h => by
    rcases Nat.mod_two_eq_zero_or_one a with h0 | h1
    · obtain ⟨k, m, e, ho⟩ := odd_part (a / 2) (by omega)
      exact ⟨k + 1, m, by rw [Nat.pow_succ, Nat.mul_comm (2 ^ k) 2, Nat.mul_assoc, ← e]; omega, ho⟩
    · exact ⟨0, a, by simp, h1⟩
termination_by a => a
theorem bl_mul_pow (m k : Nat) (hm : 0 < m) : bl ((2 ^ k * m : Nat) : Int) = bl (m : Int) + k := by
  have hl := lt_bl m
  have h0 := bl_nonneg (m : Int)
  have h1 : bl ((2 ^ k * m : Nat) : Int) ≤ (((bl (m : Int)).toNat + k : Nat) : Int) := bl_nat.mpr (by
    rw [Nat.pow_add, Nat.mul_comm (2 ^ k) m]; exact Nat.mul_lt_mul_of_pos_right hl (Nat.two_pow_pos k))
  have hp : 1 ≤ bl (m : Int) := bl_pos (by omega)
  have h2 : ¬ bl ((2 ^ k * m : Nat) : Int) ≤ (((bl (m : Int)).toNat - 1 + k : Nat) : Int) := fun h => by
    have := bl_nat.mp h
    rw [Nat.pow_add, Nat.mul_comm (2 ^ k) m] at this
    have h3 : m < 2 ^ ((bl (m : Int)).toNat - 1) := Nat.lt_of_mul_lt_mul_right this
    have h4 : bl (m : Int) ≤ (((bl (m : Int)).toNat - 1 : Nat) : Int) := bl_nat.mpr h3
    omega
  omega
theorem strip_of (k m : Nat) (hm : m % 2 = 1) (ex c : Int) : stripF ((2 ^ k * m : Nat) : Int) ex c = ((m : Int), ex + k, c - k) := by
  unfold stripF
  rw [band_one]
  by_cases hk : k = 0
  · subst hk
    have : (2 ^ 0 * m) % 2 = 1 := by simpa using hm
    rw [if_neg (by omega)]
    simp
  · obtain ⟨j, rfl⟩ : ∃ j, k = j + 1 := ⟨k - 1, by omega⟩
    have : (2 ^ (j + 1) * m) % 2 = 0 := by
      rw [Nat.pow_succ, Nat.mul_comm (2 ^ j) 2, Nat.mul_assoc]; omega
    rw [if_pos (by omega), tz_of _ _ hm, shr_nat, Nat.mul_div_cancel_left _ (Nat.two_pow_pos _)]
theorem strip0_of (k m : Nat) (hm : m % 2 = 1) (ex c : Int) : strip0F ((2 ^ k * m : Nat) : Int) ex c = ((m : Int), ex + k, c - k) := by
  unfold strip0F
  rw [band_one, band_two]
  by_cases hk : k = 0
  · subst hk
    have : (2 ^ 0 * m) % 2 = 1 := by simpa using hm
    rw [if_neg (by omega)]
    simp
  · obtain ⟨j, rfl⟩ : ∃ j, k = j + 1 := ⟨k - 1, by omega⟩
    have e : 2 ^ (j + 1) * m = 2 * (2 ^ j * m) := by rw [Nat.pow_succ, Nat.mul_comm (2 ^ j) 2, Nat.mul_assoc]
    have h0 : (2 ^ (j + 1) * m) % 2 = 0 := by omega
    rw [if_pos (by omega)]
    by_cases hj : j = 0
    · subst hj
      have h1 : 2 ^ (0 + 1) * m / 2 = m := by omega
      rw [if_pos (by rw [h1]; omega), show (1 : Int) = ((1 : Nat) : Int) from rfl, shr_nat]
      have h2 : 2 ^ (0 + 1) * m / 2 ^ 1 = m := by omega
      rw [h2]
    · obtain ⟨i, rfl⟩ : ∃ i, j = i + 1 := ⟨j - 1, by omega⟩
      have h1 : (2 ^ (i + 1 + 1) * m / 2) % 2 = 0 := by
        have e3 : 2 ^ (i + 1) * m = 2 * (2 ^ i * m) := by rw [Nat.pow_succ, Nat.mul_comm (2 ^ i) 2, Nat.mul_assoc]
        rw [e, e3]; omega
      rw [if_neg (by rw [h1]; simp), tz_of _ _ hm, shr_nat, Nat.mul_div_cancel_left _ (Nat.two_pow_pos _)]
/-- what the stripping of noughts gives -/
theorem strip0_spec {a : Int} (ha : 0 < a) {ex m e c : Int} (h : strip0F a ex (bl a) = (m, e, c)) :
    ∃ (k M : Nat), a = ((2 ^ k * M : Nat) : Int) ∧ M % 2 = 1 ∧ m = (M : Int) ∧ e = ex + k ∧ c = bl m := by
  obtain ⟨x, rfl⟩ := Int.eq_ofNat_of_zero_le (Int.le_of_lt ha)
  obtain ⟨k, M, e1, ho⟩ := odd_part x (by omega)
  subst e1
  rw [strip0_of k M ho, bl_mul_pow M k (by omega)] at h
  cases h
  exact ⟨k, M, rfl, ho, rfl, rfl, by omega⟩
end Mine

namespace Mine
/-! texts as lists of numbers -/
abbrev ls (x : Str) : List Nat := x.cps.toList
def splitL (c : Nat) : List Nat → List (List Nat)
  | [] => [[]]
  | x :: r => if x = c then [] :: splitL c r else (match splitL c r with | p :: ps => (x :: p) :: ps | [] => [[x]])
def rstripL (c : Nat) (l : List Nat) : List Nat := (l.reverse.dropWhile (· == c)).reverse
def stripL (l : List Nat) : List Nat := ((l.dropWhile Unicode.isSpace).reverse.dropWhile Unicode.isSpace).reverse
def joinL (c : Nat) : List (List Nat) → List Nat
  | [] => []
  | [p] => p
  | p :: q :: r => p ++ c :: joinL c (q :: r)
theorem splitL_free {c : Nat} : ∀ {l : List Nat}, c ∉ l → splitL c l = [l]
  | [], _ => rfl
  | x :: r, h => by
    have h1 : x ≠ c := fun e => h (by rw [e]; exact List.mem_cons_self ..)
    have h2 : c ∉ r := fun m => h (List.mem_cons_of_mem _ m)
    rw [splitL, if_neg h1, splitL_free h2]
theorem splitL_cut {c : Nat} : ∀ {a r : List Nat}, c ∉ a → splitL c (a ++ c :: r) = a :: splitL c r
  | [], r, _ => by rw [List.nil_append, splitL, if_pos rfl]
  | x :: a, r, h => by
    have h1 : x ≠ c := fun e => h (by rw [e]; exact List.mem_cons_self ..)
    have h2 : c ∉ a := fun m => h (List.mem_cons_of_mem _ m)
    rw [List.cons_append, splitL, if_neg h1, splitL_cut h2]
theorem splitL_join {c : Nat} : ∀ {ps : List (List Nat)}, ps ≠ [] → (∀ p ∈ ps, c ∉ p) → splitL c (joinL c ps) = ps
  | [], h, _ => absurd rfl h
  | [p], _, h => splitL_free (h p (List.mem_cons_self ..))
  | p :: q :: r, _, h => by
    rw [joinL, splitL_cut (h p (List.mem_cons_self ..)), splitL_join (by simp) (fun x hx => h x (List.mem_cons_of_mem _ hx))]
theorem ls_append (x y : Str) : ls (x ++ y) = ls x ++ ls y := by
  show (x ++ y).cps.toList = _
  rw [Str.cps_append, Array.toList_append]
theorem ls_join (c : Nat) : ∀ ps : List Str, ls (Str.join ⟨#[c]⟩ ps) = joinL c (ps.map ls)
  | [] => rfl
  | [p] => rfl
  | p :: q :: r => by
    have ih := ls_join c (q :: r)
    show ls (p ++ ⟨#[c]⟩ ++ Str.join ⟨#[c]⟩ (q :: r)) = _
    rw [ls_append, ls_append, ih]
    show ls p ++ [c] ++ joinL c (List.map ls (q :: r)) = _
    simp [joinL]
theorem ls_split (x : Str) (c : Nat) : (Txt.split x ⟨#[c]⟩).map ls = splitL c (ls x) := by
  have h1 := StrLaws.join_split x ⟨#[c]⟩
  have h2 := StrLaws.split_free x c
  have h3 : ls (Str.join ⟨#[c]⟩ (Txt.split x ⟨#[c]⟩)) = ls x := by rw [h1]
  rw [ls_join] at h3
  rw [← h3, splitL_join]
  · intro e
    have h4 := split_pos x ⟨#[c]⟩
    rw [List.map_eq_nil_iff] at e
    rw [e] at h4
    exact absurd h4 (by decide)
  · intro p hp
    obtain ⟨q, hq, rfl⟩ := List.mem_map.mp hp
    exact h2 q hq
theorem ls_lower {x : Str} (hA : ∀ c ∈ ls x, c < 128) : ls (Txt.lower x) = (ls x).map lo1 := by
  rw [lower_ascii hA]
  simp [ls]
theorem flat_join (c : Nat) : ∀ l : List Nat, (splitL c l).flatten = l.filter (· ≠ c)
  | [] => rfl
  | x :: r => by
    have ih := flat_join c r
    rw [splitL]
    by_cases h : x = c
    · rw [if_pos h, List.flatten_cons, ih]; simp [h]
    · rw [if_neg h]
      cases hs : splitL c r with
      | nil => rw [hs] at ih; simp at ih; simp [h]; exact ih
      | cons p ps => rw [hs] at ih; simp at ih; simp [h]; exact ih
theorem ls_join0 : ∀ ps : List Str, ls (Str.join ⟨#[]⟩ ps) = (ps.map ls).flatten
  | [] => rfl
  | [p] => by simp [Str.join]
  | p :: q :: r => by
    have ih := ls_join0 (q :: r)
    show ls (p ++ ⟨#[]⟩ ++ Str.join ⟨#[]⟩ (q :: r)) = _
    rw [ls_append, ls_append, ih]
    show ls p ++ [] ++ _ = _
    simp
theorem ls_replace (x : Str) (c : Nat) : ls (Txt.replace x ⟨#[c]⟩ ⟨#[]⟩) = (ls x).filter (· ≠ c) := by
  rw [StrLaws.replace_one, ls_join0, ls_split, flat_join]
theorem has_find (x : Str) (c : Nat) : (Txt.find x ⟨#[c]⟩ < 0) ↔ c ∉ ls x := by
  have h := StrLaws.found_one x c
  unfold Txt.find
  cases ho : Builtin.Str.occurrences x ⟨#[c]⟩ 0 x.length 1 with
  | nil => rw [ho] at h; simp at h; simp; exact h
  | cons i r =>
    rw [ho] at h
    simp at h
    constructor
    · intro h2; exact absurd h2 (by show ¬ ((i : Int) < 0); omega)
    · intro h2; exact absurd (by simpa [ls] using h) h2
theorem has_contains (x : Str) (c : Nat) : Txt.contains x ⟨#[c]⟩ = decide (c ∈ ls x) := StrLaws.found_one x c
theorem drop_take_while (p : Nat → Bool) : ∀ l : List Nat, l.drop (l.takeWhile p).length = l.dropWhile p
  | [] => rfl
  | x :: r => by
    rw [List.takeWhile_cons, List.dropWhile_cons]
    split
    · simpa using drop_take_while p r
    · rfl
theorem take_sub_while (p : Nat → Bool) (l : List Nat) : l.take (l.length - (l.reverse.takeWhile p).length) = (l.reverse.dropWhile p).reverse := by
  rw [← drop_take_while, List.reverse_drop]
  simp
theorem ls_sub (s : Str) (i j : Nat) : ls (Builtin.Str.strSub s i j) = ((ls s).drop i).take (j - i) := StrLaws.strSub_toList s i j
theorem ls_stripped (goes : Nat → Bool) (l r : Bool) (x : Str) : ls (Txt.stripBy goes l r x) = ls (PySem.stripped goes l r x) := by
  unfold Txt.stripBy
  split
  · rename_i h
    unfold stripSame at h
    rw [Bool.and_eq_true, beq_iff_eq, beq_iff_eq] at h
    unfold PySem.stripped
    rw [ls_sub, h.1]
    rw [h.1] at h
    rw [h.2]
    simp only [List.drop_zero, Nat.sub_zero]
    exact (List.take_of_length_le (by simp [ls, Str.length])).symm
  · rfl
theorem ls_rstrip1 (x : Str) (c : Nat) : ls (Txt.rstripChars x ⟨#[c]⟩) = rstripL c (ls x) := by
  unfold Txt.rstripChars
  rw [ls_stripped]
  unfold PySem.stripped
  rw [ls_sub]
  have e : (⟨#[c]⟩ : Str).cps.contains = fun y => y == c := by funext y; rw [Bool.eq_iff_iff]; simp
  simp only [stripLo, stripHi, Bool.false_eq_true, if_false, if_true, List.drop_zero, Nat.sub_zero]
  rw [e, show x.length = x.cps.toList.length from by simp [Str.length], take_sub_while]
  rfl
theorem ls_strip (x : Str) : ls (Txt.strip x) = stripL (ls x) := by
  unfold Txt.strip
  rw [ls_stripped]
  unfold PySem.stripped
  rw [ls_sub]
  simp only [stripLo, stripHi, if_true]
  rw [drop_take_while]
  unfold stripL
  rw [← take_sub_while]
  congr 1
  have h1 : x.length = (ls x).length := by simp [Str.length, ls]
  have h2 : ((ls x).dropWhile Unicode.isSpace).length = (ls x).length - ((ls x).takeWhile Unicode.isSpace).length := by
    rw [← drop_take_while]; simp
  have e : x.cps.toList = ls x := rfl
  simp only [e, drop_take_while]
  omega
theorem ls_startswith (x y : Str) : Txt.startswith x y = (ls y).isPrefixOf (ls x) := by
  unfold Txt.startswith
  rw [StrLaws.subAt_eq]
  have h1 : x.length = (ls x).length := by simp [Str.length, ls]
  have h2 : y.length = (ls y).length := by simp [Str.length, ls]
  rw [Bool.eq_iff_iff]
  simp only [Bool.and_eq_true, decide_eq_true_eq, beq_iff_eq, List.drop_zero, List.isPrefixOf_iff_prefix, h1, h2, Nat.zero_add]
  constructor
  · rintro ⟨h3, h4⟩
    rw [List.prefix_iff_eq_take]
    exact h4.symm
  · intro h
    exact ⟨h.length_le, (List.prefix_iff_eq_take.mp h).symm⟩
end Mine

namespace Mine
/-! texts that are lists of small signs: the rules -/
structure Tl (n : Nat) (x : Str) (l : List Nat) : Prop where
  is : ls x = l
  ok : ∀ c ∈ l, c < 128 ∧ c ≠ 0
  short : l.length ≤ n
theorem Tl.len {n : Nat} {x : Str} {l : List Nat} (h : Tl n x l) : x.length = l.length := by rw [← h.is]; simp [Str.length, ls]
theorem Tl.le {n : Nat} {x : Str} {l : List Nat} (h : Tl n x l) : x.length ≤ n := h.len ▸ h.short
theorem Tl.mono {n n' : Nat} {x : Str} {l : List Nat} (h : Tl n x l) (hn : n ≤ n') : Tl n' x l := ⟨h.is, h.ok, Nat.le_trans h.short hn⟩
theorem Tl.sub {n : Nat} {x y : Str} {l l' : List Nat} (h : Tl n x l) (e : ls y = l') (hs : l'.Sublist l) : Tl n y l' :=
  ⟨e, fun c hc => h.ok c (hs.subset hc), Nat.le_trans hs.length_le h.short⟩
theorem Tl.lit (y : Str) (l : List Nat) (e : ls y = l) (ok : (l.all fun c => decide (c < 128) && decide (c ≠ 0)) = true) : Tl l.length y l :=
  ⟨e, fun c hc => by have := List.all_eq_true.mp ok c hc; simpa using this, Nat.le_refl _⟩
theorem Tl.app {n k : Nat} {x y : Str} {l m : List Nat} (h : Tl n x l) (h' : Tl k y m) : Tl (n + k) (x ++ y) (l ++ m) :=
  ⟨by rw [ls_append, h.is, h'.is], fun c hc => (List.mem_append.mp hc).elim (h.ok c) (h'.ok c), by have h1 := h.short; have h2 := h'.short; rw [List.length_append]; omega⟩
theorem lo1_ok {c : Nat} (h : c < 128 ∧ c ≠ 0) : lo1 c < 128 ∧ lo1 c ≠ 0 := by unfold lo1; split <;> omega
theorem up1_ok {c : Nat} (h : c < 128 ∧ c ≠ 0) : up1 c < 128 ∧ up1 c ≠ 0 := by unfold up1; split <;> omega
theorem Tl.lower {n : Nat} {x : Str} {l : List Nat} (h : Tl n x l) : Tl n (Txt.lower x) (l.map lo1) :=
  ⟨by rw [ls_lower (fun c hc => (h.ok c (h.is ▸ hc)).1), h.is], fun c hc => by obtain ⟨d, hd, rfl⟩ := List.mem_map.mp hc; exact lo1_ok (h.ok d hd), by rw [List.length_map]; exact h.short⟩
theorem Tl.upper {n : Nat} {x : Str} {l : List Nat} (h : Tl n x l) : Tl n (Txt.upper x) (l.map up1) :=
  ⟨by rw [upper_ascii (fun c hc => (h.ok c (h.is ▸ hc)).1)]; show (x.cps.map up1).toList = _; rw [Array.toList_map]; exact congrArg (List.map up1) h.is, fun c hc => by obtain ⟨d, hd, rfl⟩ := List.mem_map.mp hc; exact up1_ok (h.ok d hd), by rw [List.length_map]; exact h.short⟩
theorem rstripL_sub (c : Nat) (l : List Nat) : (rstripL c l).Sublist l := by
  unfold rstripL
  have h : (l.reverse.dropWhile (· == c)).Sublist l.reverse := List.dropWhile_sublist _
  simpa using h.reverse
theorem stripL_sub (l : List Nat) : (stripL l).Sublist l := by
  unfold stripL
  have h : ((l.dropWhile Unicode.isSpace).reverse.dropWhile Unicode.isSpace).Sublist (l.dropWhile Unicode.isSpace).reverse := List.dropWhile_sublist _
  have h2 : ((l.dropWhile Unicode.isSpace).reverse.dropWhile Unicode.isSpace).reverse.Sublist (l.dropWhile Unicode.isSpace) := by simpa using h.reverse
  exact h2.trans (List.dropWhile_sublist _)
theorem splitL_sub {c : Nat} : ∀ {l p : List Nat}, p ∈ splitL c l → p.Sublist l
  | [], p, h => by
    have e : p = [] := by simpa [splitL] using h
    subst e; exact List.Sublist.refl _
  | x :: r, p, h => by
    rw [splitL] at h
    by_cases e : x = c
    · rw [if_pos e] at h
      rcases List.mem_cons.mp h with rfl | h
      · exact List.nil_sublist _
      · exact (splitL_sub h).cons x
    · rw [if_neg e] at h
      cases hs : splitL c r with
      | nil =>
        rw [hs] at h
        have : p = [x] := by simpa using h
        subst this
        exact List.Sublist.cons_cons x (List.nil_sublist _)
      | cons q qs =>
        rw [hs] at h
        rcases List.mem_cons.mp h with rfl | h
        · exact List.Sublist.cons_cons x (splitL_sub (by rw [hs]; exact List.mem_cons_self ..))
        · exact (splitL_sub (by rw [hs]; exact List.mem_cons_of_mem _ h)).cons x
section
variable {prog : Program} {w : World} {A : Around} {E : Value → Shared → Prop} {s : Shared} {Q : Value → Shared → Prop} {x y z : Str} {l k : List Nat} {t u v : Tok} {n c : Nat}
theorem t_lower (hx : Tl n x l) (hn : n ≤ 5000000) (h : ∀ v t' k', Tl n v (l.map lo1) → Q (.str v t') { s with toks := k' }) : wpAny (model prog w) A (call (.builtin "str.lower") [.str x t]) Q E s :=
  SCL.lower (Nat.le_trans hx.le (by omega)) fun _ => h _ _ _ hx.lower
theorem t_upper (hx : Tl n x l) (hn : n ≤ 5000000) (h : ∀ v t' k', Tl n v (l.map up1) → Q (.str v t') { s with toks := k' }) : wpAny (model prog w) A (call (.builtin "str.upper") [.str x t]) Q E s :=
  SCL.upper (Nat.le_trans hx.le (by omega)) fun _ => h _ _ _ hx.upper
theorem t_strip (hx : Tl n x l) (hn : n ≤ 5000000) (h : ∀ v t' k', Tl n v (stripL l) → Q (.str v t') { s with toks := k' }) : wpAny (model prog w) A (call (.builtin "str.strip") [.str x t]) Q E s :=
  SC.strip (fun t' k' => h _ t' k' (hx.sub (by rw [ls_strip, hx.is]) (stripL_sub l))) (by have := hx.le; rw [sizeLine_eq]; omega)
theorem t_rstrip (hx : Tl n x l) (hn : n ≤ 5000000) (hy : y = ⟨#[c]⟩) (h : ∀ v t' k', Tl n v (rstripL c l) → Q (.str v t') { s with toks := k' }) : wpAny (model prog w) A (call (.builtin "str.rstrip") [.str x t, .str y u]) Q E s := by
  subst hy
  exact SC.rstripChars (fun t' k' => h _ t' k' (hx.sub (by rw [ls_rstrip1, hx.is]) (rstripL_sub c l))) (by have := hx.le; rw [sizeLine_eq]; omega)
theorem occ_no (hc : c ∉ ls x) {k : Nat} (hk : 0 < k) : Builtin.Str.occurrences x ⟨#[c]⟩ 0 x.length k = [] := by
  rcases StrLaws.occ_head x ⟨#[c]⟩ k hk with h | ⟨i, r, _, h, _⟩
  · exact h.1
  · exact absurd (List.mem_of_getElem? ((StrLaws.subAt_one x c i).mp h)) hc
theorem t_replace0 (hx : Tl n x l) (hy : y = ⟨#[c]⟩) (hc : c ∉ l) (h : Q (.str x t) s) : wpAny (model prog w) A (call (.builtin "str.replace") [.str x t, .str y u, .str z v]) Q E s := by
  subst hy
  have ho := occ_no (x := x) (c := c) (hx.is.symm ▸ hc) (Nat.succ_pos x.length)
  have e : ((Builtin.Str.occurrences x ⟨#[c]⟩ 0 x.length (x.length + 1)).isEmpty || ((⟨#[c]⟩ : Str).length == 0 && z.length == 0)) = true := by rw [ho]; rfl
  refine call_gives F.slot_str_replace (typeIs_str _ _ _) F.entry_str_replace (F.args_str_replace_3 _ _ _)
    (gives_str_replace x ⟨#[c]⟩ z t u v fun h => by rw [e] at h; cases h) ?_
  rw [if_pos e]
  exact h
theorem t_find (hx : Tl n x l) (hy : y = ⟨#[c]⟩) (h1 : c ∈ l → ∀ i t' k', 0 ≤ i → Q (.int i t') { s with toks := k' }) (h2 : c ∉ l → ∀ i t' k', i < 0 → Q (.int i t') { s with toks := k' }) : wpAny (model prog w) A (call (.builtin "str.find") [.str x t, .str y u]) Q E s := by
  subst hy
  have e := has_find x c
  rw [hx.is] at e
  by_cases hc : c ∈ l
  · exact SC.find (h1 hc _ _ _ (by have : ¬ Txt.find x ⟨#[c]⟩ < 0 := fun q => e.mp q hc; omega))
  · exact SC.find (h2 hc _ _ _ (e.mpr hc))
theorem t_in (hx : Tl n x l) (hy : y = ⟨#[c]⟩) (h : Q (.bool (decide (c ∈ l))) s) : wpAny (model prog w) A (compareOp .In (.str y u) (.str x t)) Q E s := by
  subst hy
  refine PySem.P.in_str ?_
  have e := StrLaws.found_one x c
  rw [e]
  have e2 : x.cps.toList = l := hx.is
  rw [e2]
  exact h
theorem t_len (hx : Tl n x l) (hn : n ≤ 5000000) (h : ∀ t' k', Q (.int (l.length : Int) t') { s with toks := k' }) : wpAny (model prog w) A (call (.builtin "len") [.str x t]) Q E s :=
  PySem.P.len_str (by have := hx.le; omega) (by rw [hx.len]; exact h _ _)
theorem t_add {k : Nat} {m : List Nat} (hx : Tl n x l) (hy : Tl k y m) (hn : n + k ≤ 5000000) (h : ∀ v t' k', Tl (n + k) v (l ++ m) → Q (.str v t') { s with toks := k' }) : wpAny (model prog w) A (binaryOp .Add (.str x t) (.str y u)) Q E s :=
  PyProof.Rows.add_str (fun t' k' => h _ t' k' (hx.app hy)) (by have h1 := hx.le; have h2 := hy.le; rw [sizeLine_eq]; omega)
theorem t_eq (hx : Tl n x l) (h : Q (.bool (decide (l = ls y))) s) : wpAny (model prog w) A (compareOp .Eq (.str x t) (.str y u)) Q E s := by
  refine PySem.P.eq_str ?_
  have e : (x.cps.toList == y.cps.toList) = decide (l = ls y) := by
    rw [show x.cps.toList = l from hx.is, Bool.eq_iff_iff, beq_iff_eq, decide_eq_true_eq]
  rw [e]; exact h
theorem splitL_ne (c : Nat) : ∀ l : List Nat, splitL c l ≠ []
  | [] => by simp [splitL]
  | x :: r => by
    rw [splitL]
    split
    · simp
    · split <;> simp
/-- a text split at one sign: one part, two parts, or more -/
theorem t_split {h₀ : Heap} {L : Addr} {m : Str → Option Value} {news : List (Addr × Obj)} (F : Fr h₀ L s.heap m) (N : News h₀ L s.heap news)
    (hx : Tl n x l) (hn : n ≤ 5000000) (hy : y = ⟨#[c]⟩)
    (h1 : ∀ D v t1 h' k, splitL c l = [l] → Tl n v l → Fr h₀ L h' m → News h₀ L h' ((D, { cls := .type "list", data := .seq #[.str v t1] }) :: news) → (∀ p ∈ news, p.1 < D) → Q (.ref D) { s with heap := h', toks := k })
    (h2 : ∀ D p q v1 t1 v2 t2 h' k, splitL c l = [p, q] → Tl n v1 p → Tl n v2 q → Fr h₀ L h' m → News h₀ L h' ((D, { cls := .type "list", data := .seq #[.str v1 t1, .str v2 t2] }) :: news) → (∀ p ∈ news, p.1 < D) → Q (.ref D) { s with heap := h', toks := k })
    (h3 : ∀ D vs h' k, 3 ≤ (splitL c l).length → vs.size = (splitL c l).length → vs.size ≤ n + 2 → Fr h₀ L h' m → News h₀ L h' ((D, { cls := .type "list", data := .seq vs }) :: news) → (∀ p ∈ news, p.1 < D) → Q (.ref D) { s with heap := h', toks := k }) :
    wpAny (model prog w) A (call (.builtin "str.split") [.str x t, .str y u]) Q E s := by
  subst hy
  refine KSpl.split1 F N (by rfl) (fun D sl h' k e _ F' N' lt => ?_) (by have := hx.le; rw [sizeLine_eq]; omega)
  have e2 := ls_split x c
  rw [← e, hx.is] at e2
  have hsub : ∀ p ∈ splitL c l, p.Sublist l := fun p hp => splitL_sub hp
  match sl, e2 with
  | [], e2 => exact absurd e2.symm (splitL_ne c l)
  | [(v, t1)], e2 =>
    have e3 : splitL c l = [ls v] := e2.symm
    have e4 : ls v = l := by
      have h5 := StrLaws.join_split x ⟨#[c]⟩
      have h6 : Txt.split x ⟨#[c]⟩ = [v] := e.symm
      rw [h6] at h5
      have h7 : v = x := h5
      rw [h7, hx.is]
    exact h1 D v t1 h' k (by rw [e3, e4]) (hx.sub e4 (List.Sublist.refl _)) F' N' lt
  | [(v, t1), (v', t2)], e2 =>
    have e3 : splitL c l = [ls v, ls v'] := e2.symm
    exact h2 D (ls v) (ls v') v t1 v' t2 h' k e3 (hx.sub rfl (hsub _ (by rw [e3]; simp))) (hx.sub rfl (hsub _ (by rw [e3]; simp))) F' N' lt
  | a :: b :: d :: r, e2 =>
    have e3 : (splitL c l).length = r.length + 3 := by rw [← e2]; simp
    have e4 : (Txt.split x ⟨#[c]⟩).length = r.length + 3 := by rw [← e]; simp
    have e5 := split_le x ⟨#[c]⟩
    have e6 : (strValues (a :: b :: d :: r)).toArray.size = r.length + 3 := by simp [strValues]
    exact h3 D _ h' k (by omega) (by rw [e3, e6]) (by have := hx.le; omega) F' N' lt
end
section
variable {prog : Program} {w : World} {A : Around} {E : Value → Shared → Prop} {s : Shared} {Q : Value → Shared → Prop} {x y : Str} {l : List Nat} {t u : Tok} {n c : Nat}
/-- two parts, or another number of them -/
theorem t_split2 {h₀ : Heap} {L : Addr} {m : Str → Option Value} {news : List (Addr × Obj)} (F : Fr h₀ L s.heap m) (N : News h₀ L s.heap news)
    (hx : Tl n x l) (hn : n ≤ 5000000) (hy : y = ⟨#[c]⟩)
    (h2 : ∀ D p q v1 t1 v2 t2 h' k, splitL c l = [p, q] → Tl n v1 p → Tl n v2 q → Fr h₀ L h' m → News h₀ L h' ((D, { cls := .type "list", data := .seq #[.str v1 t1, .str v2 t2] }) :: news) → (∀ p ∈ news, p.1 < D) → Q (.ref D) { s with heap := h', toks := k })
    (h3 : ∀ D vs h' k, (∀ p q, splitL c l ≠ [p, q]) → vs.size ≠ 2 → vs.size ≤ n + 2 → Fr h₀ L h' m → News h₀ L h' ((D, { cls := .type "list", data := .seq vs }) :: news) → (∀ p ∈ news, p.1 < D) → Q (.ref D) { s with heap := h', toks := k }) :
    wpAny (model prog w) A (call (.builtin "str.split") [.str x t, .str y u]) Q E s :=
  t_split F N hx hn hy
    (fun D v t1 h' k e hv F' N' lt => h3 D #[.str v t1] h' k (fun p q e' => by rw [e] at e'; cases e') (by simp) (by simp) F' N' lt)
    h2
    (fun D vs h' k e1 e2 e3 F' N' lt => h3 D vs h' k (fun p q e' => by rw [e'] at e1; simp at e1) (by omega) e3 F' N' lt)
end
section
variable {prog : Program} {w : World} {A : Around} {E : Value → Shared → Prop} {s : Shared} {a n : Int} {t u : Tok} {Q : Value → Shared → Prop}
theorem entry_pow : entryFor table "pow" = some Builtin.«pow» := entryFor_of_fast (by kernel_rfl)
theorem check_pow (a b : Value) : checkBuiltinCall "pow" ⟨[a, b], []⟩ = pure () := by kernel_rfl
theorem r_pow (hn : 0 ≤ n) (hn2 : n ≤ 1000000) (ha : a.natAbs < 2 ^ 64) (h : ∀ t' k', Q (.int (a ^ n.toNat) t') { s with toks := k' }) :
    wpAny (model prog w) A (call (.builtin "pow") [.int a t, .int n u]) Q E s := by
  refine wpAny_call (codeAny_call_builtin (by decide +kernel) entry_pow ?_)
  rw [check_pow]
  refine wpAny_pure ?_
  have e : Builtin.Builtins.bindParams "pow" ["base", "exp", "mod"] 2 ⟨[.int a t, .int n u], []⟩ = pure [some (.int a t), some (.int n u), none] := by kernel_rfl
  unfold Builtin.«pow»
  rw [e]
  refine wpAny_bind (wpAny_pure ?_)
  dsimp only [Option.getD]
  exact wpAny_bind (pow_int_small hn hn2 ha (wpAny_pure (h _ _)))
theorem r_pow2 {v : Int} (hn : 0 ≤ n) (hn2 : n ≤ 1000000) (hv : (2 : Int) ^ n.toNat = v) (h : ∀ t' k', Q (.int v t') { s with toks := k' }) :
    wpAny (model prog w) A (call (.builtin "pow") [.int 2 t, .int n u]) Q E s := r_pow hn hn2 (by decide) (by rw [hv]; exact h)
end
end Mine

namespace Mine
section
variable {prog : Program} {w : World} {A : Around} {E : Value → Shared → Prop} {s : Shared} {Q : Value → Shared → Prop} {x y : Str} {l : List Nat} {t u : Tok} {n c : Nat} {d : Addr}
theorem t_startswith_tup {ys : List (Str × Tok)} (hx : Tl n x l) (hd : IsTup s.heap d (ys.map fun y => Value.str y.1 y.2).toArray) (h : Q (.bool (ys.any fun y => (ls y.1).isPrefixOf l)) s) :
    wpAny (model prog w) A (call (.builtin "str.startswith") [.str x t, .ref d]) Q E s := by
  obtain ⟨o, ho, hc, m, hdd⟩ := hd
  refine wpAny_call_entry F.slot_str_startswith (typeIs_str _ _ _) F.entry_str_startswith ?_ (F.args_str_startswith_2 _ _)
  unfold Builtin.«str.startswith» Builtin.Str.affixEntry
  refine wpAny_bind (wpAny_of_eq (a := (.str x t, x, [.ref d])) (by kernel_rfl) ?_)
  dsimp only
  refine wpAny_bind (wpAny_of_eq (a := (0, min x.length x.length)) (by first | kernel_rfl | rfl) ?_)
  rw [Nat.min_self]
  dsimp only [List.headD]
  refine wpAny_bind ?_
  unfold asStr?
  refine wpAny_bind (wpAny_load ho ?_)
  rw [hdd]
  refine wpAny_pure ?_
  dsimp only
  refine wpAny_bind (wpAny_isInstance (T := "tuple") (b := true) ⟨_, ho, hc⟩ (by rw [isSubtype_type]; kernel_rfl) ?_)
  rw [if_pos rfl]
  refine wpAny_bind (wpAny_rule ?_)
  refine wpAny_bind (wpAny_seqItems ho hdd ?_)
  dsimp only
  refine wpAny_bind ?_
  refine wpAny_forIn_array' _ (fun rest b s' => s' = s ∧ b = (none, ()) ∧ ∃ ys' : List (Str × Tok), rest = ys'.map (fun y => Value.str y.1 y.2) ∧ (ys.any fun y => (ls y.1).isPrefixOf l) = ys'.any fun y => (ls y.1).isPrefixOf l) _ ?_ ?_ _ _ ?_
  · rintro v rest b s' ⟨rfl, rfl, ys', hr, e⟩
    cases ys' with
    | nil => cases hr
    | cons z zs =>
      obtain ⟨rfl, rfl⟩ := List.cons.inj hr
      have e2 : (decide (0 + z.1.length ≤ x.length) && Builtin.Str.subAt x z.1 0) = (ls z.1).isPrefixOf l := by rw [← hx.is]; exact ls_startswith x z.1
      dsimp only
      refine wpAny_bind (wpAny_pure ?_)
      dsimp only
      cases e3 : (ls z.1).isPrefixOf l with
      | true =>
        refine wpAny_ite_true (decide_eq_true (e2.trans e3)) ?_
        refine wpAny_bind (wpAny_pure (wpAny_pure ?_))
        dsimp only
        refine wpAny_pure ?_
        rw [e, List.any_cons, e3] at h
        exact ⟨_, rfl, h⟩
      | false =>
        refine wpAny_ite_false (decide_eq_false (fun q => Bool.noConfusion ((e2.trans e3).symm.trans q))) ?_
        refine wpAny_pure ⟨rfl, rfl, zs, rfl, ?_⟩
        rw [e, List.any_cons, e3, Bool.false_or]
  · rintro b s' ⟨rfl, rfl, ys', hr, e⟩
    cases ys' with
    | cons z zs => cases hr
    | nil =>
      dsimp only
      rw [e] at h
      exact wpAny_pure ⟨_, rfl, h⟩
  · exact ⟨rfl, rfl, ys, by simp, rfl⟩
end
def spKeys : List (List Nat) := [[105, 110, 102], [43, 105, 110, 102], [45, 105, 110, 102], [110, 97, 110], [111, 111], [43, 111, 111], [45, 111, 111]]
theorem sp_none {P : Params} {x : Str} (h : ls x ∉ spKeys) : nsIn (Mine.hd.heap_39 P) 119 x = some none := by
  unfold nsIn
  have e : (Mine.hd.heap_39 P).lookup 119 = (Mine.hd.heap_39 P).lookup 119 := rfl
  conv at e => rhs; whnf
  rw [e]
  dsimp only
  have hn : ∀ (y : Str) (t : Tok), ls y ∈ spKeys → (Value.str y t).isStr x = false := fun y t hy => by
    cases q : (Value.str y t).isStr x with
    | false => rfl
    | true =>
      have q2 : y = x := by simpa [Value.isStr] using q
      exact absurd (q2 ▸ hy) h
  simp only [List.find?, hn (Str.ofString "inf") _ (by decide +kernel), hn (Str.ofString "+inf") _ (by decide +kernel), hn (Str.ofString "-inf") _ (by decide +kernel), hn (Str.ofString "nan") _ (by decide +kernel), hn (Str.ofString "oo") _ (by decide +kernel), hn (Str.ofString "+oo") _ (by decide +kernel), hn (Str.ofString "-oo") _ (by decide +kernel)]
  rfl

/-! the base, told by what a text begins with -/
def pre2 (l : List Nat) : Bool := [[48, 98], [45, 48, 98], [48, 66], [45, 48, 66]].any fun p => p.isPrefixOf l
def pre16 (l : List Nat) : Bool := [[48, 120], [45, 48, 120], [48, 88], [45, 48, 88]].any fun p => p.isPrefixOf l
def pre8 (l : List Nat) : Bool := [[48, 111], [45, 48, 111]].any fun p => p.isPrefixOf l
def baseOf (l : List Nat) : Int := if pre2 l = true then 2 else if pre16 l = true then 16 else if pre8 l = true then 8 else 10
theorem baseOf_2 {l : List Nat} (h : pre2 l = true) : baseOf l = 2 := if_pos h
theorem baseOf_16 {l : List Nat} (h2 : pre2 l = false) (h : pre16 l = true) : baseOf l = 16 := by unfold baseOf; rw [h2, h]; rfl
theorem baseOf_8 {l : List Nat} (h2 : pre2 l = false) (h3 : pre16 l = false) (h : pre8 l = true) : baseOf l = 8 := by unfold baseOf; rw [h2, h3, h]; rfl
theorem baseOf_10 {l : List Nat} (h2 : pre2 l = false) (h3 : pre16 l = false) (h : pre8 l = false) : baseOf l = 10 := by unfold baseOf; rw [h2, h3, h]; rfl
section
variable {prog : Program} {w : World} {A : Around} {E : Value → Shared → Prop} {s : Shared} {Q : Value → Shared → Prop} {x y1 y2 y3 y4 : Str} {l : List Nat} {t u1 u2 u3 u4 : Tok} {n : Nat} {d : Addr}
theorem t_sw4 {p1 p2 p3 p4 : List Nat} (hx : Tl n x l) (hd : IsTup s.heap d #[.str y1 u1, .str y2 u2, .str y3 u3, .str y4 u4]) (e1 : ls y1 = p1) (e2 : ls y2 = p2) (e3 : ls y3 = p3) (e4 : ls y4 = p4)
    (h : Q (.bool ([p1, p2, p3, p4].any fun p => p.isPrefixOf l)) s) : wpAny (model prog w) A (call (.builtin "str.startswith") [.str x t, .ref d]) Q E s := by
  refine t_startswith_tup (ys := [(y1, u1), (y2, u2), (y3, u3), (y4, u4)]) hx hd ?_
  simp only [List.any_cons, List.any_nil, e1, e2, e3, e4] at h ⊢
  exact h
theorem t_sw2 {p1 p2 : List Nat} (hx : Tl n x l) (hd : IsTup s.heap d #[.str y1 u1, .str y2 u2]) (e1 : ls y1 = p1) (e2 : ls y2 = p2)
    (h : Q (.bool ([p1, p2].any fun p => p.isPrefixOf l)) s) : wpAny (model prog w) A (call (.builtin "str.startswith") [.str x t, .ref d]) Q E s := by
  refine t_startswith_tup (ys := [(y1, u1), (y2, u2)]) hx hd ?_
  simp only [List.any_cons, List.any_nil, e1, e2] at h ⊢
  exact h
theorem t_strip_to {l1 : List Nat} (hx : Tl n x l1) (hs : stripL l1 = l) (hn : n ≤ 5000000) (h : ∀ v t' k', Tl n v l → Q (.str v t') { s with toks := k' }) : wpAny (model prog w) A (call (.builtin "str.strip") [.str x t]) Q E s :=
  t_strip hx hn fun v t' k' hv => h v t' k' (hs ▸ hv)
theorem t_special {h₀ : Heap} {L : Addr} {m : Str → Option Value} (F : Fr h₀ L s.heap m) (X : (Mine.hd.heap_39 w.params).In h₀) (hx : Tl n x l) (h : l ∉ spKeys) (hq : ∀ k', Q (.bool false) { s with toks := k' }) :
    wpAny (model prog w) A (compareOp .In (.str x t) (.ref 119)) Q E s := by
  have e : (Mine.hd.heap_39 w.params).lookup 119 = (Mine.hd.heap_39 w.params).lookup 119 := rfl
  conv at e => rhs; whnf
  exact topIn_K (r := none) F X e (by k_keys) (sp_none (by rw [hx.is]; exact h)) (by decide) (hq _)
theorem splitL_mem {c : Nat} : ∀ {l : List Nat}, c ∈ l → 2 ≤ (splitL c l).length
  | [], h => by cases h
  | a :: r, h => by
    rw [splitL]
    by_cases e : a = c
    · rw [if_pos e, List.length_cons]
      have := splitL_ne c r
      cases q : splitL c r with
      | nil => exact absurd q this
      | cons => simp
    · rw [if_neg e]
      have h2 : c ∈ r := (List.mem_cons.mp h).elim (fun q => absurd q.symm e) id
      have ih := splitL_mem h2
      cases q : splitL c r with
      | nil => rw [q] at ih; simp at ih
      | cons p ps => rw [q] at ih; simpa using ih
theorem t_split_in {c : Nat} {y : Str} {u : Tok} {h₀ : Heap} {L : Addr} {m : Str → Option Value} {news : List (Addr × Obj)} (F : Fr h₀ L s.heap m) (N : News h₀ L s.heap news)
    (hx : Tl n x l) (hn : n ≤ 5000000) (hy : y = ⟨#[c]⟩) (hc : c ∈ l)
    (h2 : ∀ D p q v1 t1 v2 t2 h' k, splitL c l = [p, q] → Tl n v1 p → Tl n v2 q → Fr h₀ L h' m → News h₀ L h' ((D, { cls := .type "list", data := .seq #[.str v1 t1, .str v2 t2] }) :: news) → (∀ p ∈ news, p.1 < D) → Q (.ref D) { s with heap := h', toks := k })
    (h3 : ∀ D vs h' k, 3 ≤ (splitL c l).length → 3 ≤ vs.size → vs.size ≤ n + 2 → Fr h₀ L h' m → News h₀ L h' ((D, { cls := .type "list", data := .seq vs }) :: news) → (∀ p ∈ news, p.1 < D) → Q (.ref D) { s with heap := h', toks := k }) :
    wpAny (model prog w) A (call (.builtin "str.split") [.str x t, .str y u]) Q E s :=
  t_split F N hx hn hy (fun D v t1 h' k e _ _ _ _ => by have := splitL_mem hc; rw [e] at this; simp at this) h2 fun D vs h' k e1 e2 e3 F' N' lt => h3 D vs h' k e1 (by omega) e3 F' N' lt
end
section
variable {prog : Program} {w : World} {A : Around} {E : Value → Shared → Prop} {s : Shared} {h₀ : Heap} {L l : Addr} {m : Str → Option Value} {news : List (Addr × Obj)}
theorem t_unpack_many {items : Array Value} {n : Nat} {Q : List Value → Shared → Prop} (F : Fr h₀ L s.heap m) (N : News h₀ L s.heap news) (hl : s.heap.IsList l items) (hh : A.handled = none) (hn : n < items.size)
    (hm : ((toString "too many values to unpack (expected " ++ toString n ++ toString ")" : String) : Str).length ≤ sizeLine)
    (hE : ∀ h1 h' tk e, Fr h₀ L h1 m → News h₀ L h1 news → Heap.NewExc h1 h' e "ValueError" → E (.ref e) { s with heap := h', toks := tk }) : wpAny (model prog w) A (unpackItems (.ref l) n none) Q E s := by
  have hlt : l ≠ s.heap.objs.size := by obtain ⟨o, ho, _⟩ := hl; exact Nat.ne_of_lt (Heap.lt_size ho)
  unfold unpackItems
  refine wpAny_bind ?_
  unfold notIterableAtAll
  refine wpAny_bind (wpAny_specialOf hl.typeIs slot_list_iter.lookup ?_)
  refine wpAny_pure ?_
  simp only [Bool.false_eq_true, if_false]
  refine wpAny_bind (wpAny_holding (wpAny_pyIter_list hl ?_))
  refine wpAny_bind (wpAny_holding (kun_draw hlt n 0 _ _ ⟨_, Heap.get?_push_size _ rfl, rfl, rfl⟩ (hl.push _) (by omega) fun h₁ hit₁ hs₁ => ?_))
  rw [if_neg (by simp; omega)]
  have hl₁ : h₁.IsList l items := (hl.push _).extBut hs₁.extBut hlt
  refine wpAny_bind (wpAny_holding (wpAny_pyNext_list_item hit₁ hl₁ (x := items[n]) (by simp [hn]) fun h₂ hit₂ hs₂ => ?_))
  simp only [Option.isSome_some, if_true]
  refine wpAny_bind (wpAny_rule ?_)
  have he : Heap.ExtBut s.heap.objs.size s.heap h₂ := fun b o hb e => hs₂.extBut b o hb (hs₁.extBut b o hb (Heap.get?_push_of_some _ e))
  refine wpAny_bind (raiseError_exc excClass_ValueError hh (fun h' tk e hx => hE h₂ h' tk e (F.extBut he (Nat.le_refl _)) (N.extBut he (Nat.le_refl _)) hx) hm)
theorem t_assign_many {env : Env} {elts : List Expr} {k n : Nat} {pos : Pos} {items : Array Value} {Q : Unit → Shared → Prop} (F : Fr h₀ L s.heap m) (N : News h₀ L s.heap news) (hl : s.heap.IsList l items) (hh : A.handled = none)
    (hlen : (assignEach elts env).length = n) (hstar : (assignEach elts env).findIdx? (·.1) = none) (hn : n < items.size)
    (hm : ((toString "too many values to unpack (expected " ++ toString n ++ toString ")" : String) : Str).length ≤ sizeLine)
    (hE : ∀ h1 h' tk e, Fr h₀ L h1 m → News h₀ L h1 news → Heap.NewExc h1 h' e "ValueError" → E (.ref e) { s with heap := h', toks := tk }) :
    wpAny (model prog w) A (assign (.Tuple elts k pos) env (.ref l)) Q E s := by
  rw [assign_Tuple]
  refine wpAny_bind (wpAny_standAt ?_)
  unfold unpack
  rw [hlen, hstar]
  exact wpAny_bind (wpAny_holding (t_unpack_many F N hl hh hn hm hE))
end
end Mine

namespace Mine
open PySem.NumText
/-! int(text, base) -/
def intB (base : Nat) (t : List Nat) : Option Int :=
  match digits? (based base (sign (t.dropWhile blank)).2).1 (((based base (sign (t.dropWhile blank)).2).2.2.reverse.dropWhile blank).reverse) with
  | none => none
  | some ds =>
    if ((based base (sign (t.dropWhile blank)).2).2.1 && (ds.foldl (fun acc d => acc * (based base (sign (t.dropWhile blank)).2).1 + d) 0) != 0) = true then none
    else some (if (sign (t.dropWhile blank)).1 = true then -((ds.foldl (fun acc d => acc * (based base (sign (t.dropWhile blank)).2).1 + d) 0 : Nat) : Int) else ((ds.foldl (fun acc d => acc * (based base (sign (t.dropWhile blank)).2).1 + d) 0 : Nat) : Int))
theorem based_length (base : Nat) (t : List Nat) : (based base t).2.2.length ≤ t.length := by
  unfold based
  split
  · split
    · split
      · rename_i r h
        have h2 : (t.drop 2).length ≤ t.length := by simp
        rw [h] at h2
        simp at h2
        show r.length ≤ t.length
        omega
      · show (t.drop 2).length ≤ t.length
        simp
    · exact Nat.le_refl _
  · split <;> exact Nat.le_refl _
theorem read_by {base : Nat} {t : List Nat} (hl : t.length ≤ 640) :
    (int_private% "readNumeral") 0 base t = (match intB base t with | some n => (int_private% "Numeral.value") n | none => int_private% "Numeral.invalid") := by
  rw [readNumeral_eq]
  unfold intB
  cases hd : digits? (based base (sign (t.dropWhile blank)).2).1 (((based base (sign (t.dropWhile blank)).2).2.2.reverse.dropWhile blank).reverse) with
  | none => rfl
  | some ds =>
    have h1 := digits_size hd
    have h2 : (((based base (sign (t.dropWhile blank)).2).2.2.reverse.dropWhile blank).reverse).length ≤ 640 := by
      rw [List.length_reverse]
      refine Nat.le_trans (len_dropWhile _ _) ?_
      rw [List.length_reverse]
      exact Nat.le_trans (based_length _ _) (Nat.le_trans (sign_length _) (Nat.le_trans (len_dropWhile _ _) hl))
    unfold judge
    have e1 : (![2, 4, 8, 16, 32].contains (based base (sign (t.dropWhile blank)).2).1 && (0 : Nat) != 0 && decide (ds.size > 0)) = false := by simp
    have e2 : ((based base (sign (t.dropWhile blank)).2).1 == 10 && decide (ds.size > 6000)) = false := by
      rw [decide_eq_false (by omega), Bool.and_false]
    dsimp only
    refine (if_neg (by rw [e1]; exact Bool.false_ne_true)).trans ((if_neg (by rw [e2]; exact Bool.false_ne_true)).trans ?_)
    split <;> rfl
end Mine
namespace Mine
open PySem.NumText
theorem seen_all : ∀ {l : List Nat}, (∀ c ∈ l, c < 128 ∧ c ≠ 0) → l.takeWhile (· != 0) = l
  | [], _ => rfl
  | c :: r, h => by
    have h1 := (h c (List.mem_cons_self ..)).2
    rw [List.takeWhile_cons, if_pos (by simpa using h1), seen_all (fun x hx => h x (List.mem_cons_of_mem _ hx))]
theorem text_plain {x : Str} (h : ∀ c ∈ ls x, c < 128 ∧ c ≠ 0) : numTextOf x = ls x := by
  unfold numTextOf
  rw [if_pos]
  rw [Array.all_eq_true']
  intro c hc
  have := (h c (by simpa [ls] using hc)).1
  simpa using this
set_option maxHeartbeats 4000000 in
theorem wp_text_b {M : Model} {A : Around} {E : Value → Shared → Prop} {s : Shared} {Q : Value → Shared → Prop} {v : Value} {text : List Nat} {n : Int} {b : Nat}
    (hs : text.length ≤ 640) (hz : text.takeWhile (· != 0) = text) (hr : intB b text = some n) (h : Q (.int n s.toks) { s with toks := s.toks + 1 }) :
    wpAny M A ((int_private% "intFromText") v text b) Q E s := by
  have hr2 := read_by (base := b) hs
  rw [hr] at hr2
  have ha : ((text.takeWhile (· != 0)).length == text.length) = true := by rw [hz]; simp
  have hs2 : (text.takeWhile (· != 0)).length ≤ 640 := by rw [hz]; exact hs
  obtain ⟨hp, g, d, tk, os⟩ := s
  repeat (any_goals (first
    | assumption
    | (with_reducible refine wpAny_ite_true (decide_eq_true hs2) ?_)
    | (with_reducible refine wpAny_ite_true (decide_eq_true ha) ?_)
    | wp_step))
  all_goals (try rw [hz, hr2])
  all_goals (try dsimp only)
  repeat (any_goals (first
    | assumption
    | (with_reducible refine wpAny_ite_true (decide_eq_true hs2) ?_)
    | (with_reducible refine wpAny_ite_true (decide_eq_true ha) ?_)
    | wp_step))
set_option maxHeartbeats 4000000 in
theorem gives_int_b {x : Str} {u tb : Tok} {n : Int} {b : Int} (hA : ∀ c ∈ ls x, c < 128 ∧ c ≠ 0) (hl : x.length ≤ 640) (hb : 2 ≤ b) (hb2 : b ≤ 36) (hn : intB b.toNat (ls x) = some n) :
    Gives (Builtin.«int.__new__» ⟨[.type "int", .str x u, .int b tb], []⟩) (.int n) :=
  .of_wp fun M A E s Q h => by
    obtain ⟨hp, g, d, tk, os⟩ := s
    have f1 := F.conv_sub_int
    have f2 := F.madeHere_int
    have f3 := KIN.str_int
    have f4 := KIN.str_idx
    have f5 := KIN.str_trunc
    have f6 : typeOf (.str x u) = pure (.type "str") := rfl
    have ht := text_plain hA
    have hz := seen_all hA
    have hl2 : (ls x).length ≤ 640 := by simpa [ls, Str.length] using hl
    have hk := KIN.Hid.mk (And.intro ht (And.intro hl2 (And.intro hz hn)))
    clear ht hz hl2 hn hA hl
    repeat (any_goals (first
      | assumption
      | ((with_reducible show wpAny _ _ ((int_private% "intFromText") _ _ _) _ _ _); (show wpAny _ _ ((int_private% "intFromText") _ (numTextOf x) _) _ _ _); rw [hk.out.1]; refine wp_text_b hk.out.2.1 hk.out.2.2.1 hk.out.2.2.2 ?_)
      | wp_step))
    all_goals exact ⟨_, rfl, h⟩
theorem typeCall_int_2 (a b : Value) : checkTypeCall "int" ⟨[a, b], []⟩ = pure () := by kernel_rfl
theorem newCall_int_2 (a b : Value) : checkBuiltinCall "int.__new__" ⟨[.type "int", a, b], []⟩ = pure () := by kernel_rfl
theorem args_init_3 (o a b : Value) : argsOk "object.__init__" ⟨[o, a, b], []⟩ := by unfold argsOk; kernel_rfl
section
variable {prog : Program} {w : World} {A : Around} {E : Value → Shared → Prop} {s : Shared} {Q : Value → Shared → Prop} {x : Str} {t u : Tok} {n b : Int}
/-- int(text, base) that is read -/
theorem r_int2 (hA : ∀ c ∈ ls x, c < 128 ∧ c ≠ 0) (hl : x.length ≤ 640) (hb : 2 ≤ b) (hb2 : b ≤ 36) (hn : intB b.toNat (ls x) = some n) (h : ∀ t' k', Q (.int n t') { s with toks := k' }) :
    wpAny (model prog w) A (call (.type "int") [.str x t, .int b u]) Q E s :=
  callType_new F.called_int F.newNe_int (typeCall_int_2 _ _) (newCall_int_2 _ _) (fun _ => args_init_3 _ _ _) F.entry_int_new (gives_int_b hA hl hb hb2 hn).meets
    (show (Made.int n).post _ s from ⟨rfl, h _ _⟩)
end
end Mine

namespace Mine
open PySem.NumText
theorem wpC_ite_true {α : Type} {M : Model} {A : Around} {E : Value → Shared → Prop} {s : Shared} {c : Prop} [Decidable c] {a b : Sem α} {Q : α → Shared → Prop} (hc : c) (h : wpC M A a Q E s) : wpC M A (if c then a else b) Q E s := by rw [if_pos hc]; exact h
theorem wpC_ite_false {α : Type} {M : Model} {A : Around} {E : Value → Shared → Prop} {s : Shared} {c : Prop} [Decidable c] {a b : Sem α} {Q : α → Shared → Prop} (hc : ¬ c) (h : wpC M A b Q E s) : wpC M A (if c then a else b) Q E s := by rw [if_neg hc]; exact h
theorem repr_short (x : Str) (h : x.length ≤ 640) (hA : ∀ c ∈ ls x, c < 128 ∧ c ≠ 0) : (reprText x).length ≤ sizeLine := by
  have := StrLaws.reprText_len x (fun c hc => by have := (hA c hc).1; omega)
  rw [sizeLine_eq]; omega
theorem msg_short : ∀ b, b < 37 → (Str.ofString (toString "invalid literal for int() with base " ++ toString b ++ toString ": ")).length ≤ 100 := by decide +kernel
theorem msg_fits (x : Str) {b : Nat} (hb : b < 37) : (Str.ofString (toString "invalid literal for int() with base " ++ toString b ++ toString ": ") ++ (⟨x.cps.extract 0 200⟩ : Str)).length ≤ sizeLine := by
  have h1 := msg_short b hb
  have h2 : (⟨x.cps.extract 0 200⟩ : Str).length ≤ 200 := by
    show (x.cps.extract 0 200).size ≤ 200
    simp; omega
  rw [Str.length_append, sizeLine_eq]; omega
set_option maxHeartbeats 4000000 in
theorem wpC_text_bad {prog : Program} {w : World} {A : Around} {E : Value → Shared → Prop} {s : Shared} {Q : Value → Shared → Prop} {x : Str} {u : Tok} {b : Nat}
    (hh : A.handled = none) (hl : x.length ≤ 640) (hA : ∀ c ∈ ls x, c < 128 ∧ c ≠ 0) (hb : b < 37) (hr : intB b (ls x) = none)
    (hE : ∀ h' tk e, Heap.NewExc s.heap h' e "ValueError" → E (.ref e) { s with heap := h', toks := tk }) :
    wpC (model prog w) A ((int_private% "intFromText") (.str x u) (ls x) b) Q E s := by
  have hz := seen_all hA
  have hs : (ls x).length ≤ 640 := by simpa [ls, Str.length] using hl
  have hr2 := read_by (base := b) hs
  rw [hr] at hr2
  have hs2 : ((ls x).takeWhile (· != 0)).length ≤ 640 := by rw [hz]; exact hs
  refine wpC_ite_true hs2 ?_
  refine wpC_bind (wpC_pure ?_)
  dsimp only
  rw [hz, hr2]
  dsimp only
  refine wpC_bind (wpC_of ?_)
  wp_step
  wp_step
  refine wpC_ite_false (by simp) ?_
  refine wpC_bind (wpC_of (wpAny_rule ?_))
  refine wpC_bind (wpC_of ?_)
  wp_step
  wp_step
  dsimp only
  refine wpC_bind (wpC_of ?_)
  unfold pyRepr
  refine wpAny_bind (wpAny_pyReprObj_gives (T := "str") (typeIs_str _ _ _) F.slot_str_repr F.entry_str_repr (F.args_str_repr_1 _) (gives_str_repr _ _) ?_ rfl (repr_short x hl hA))
  wp_step
  wp_step
  refine wpC_bind (wpC_of (wpAny_mkStr ?_ ?_))
  refine wpC_bind (wpC_of (wpAny_newExc_plain plainExc_ValueError (fun h' e hx => ?_)))
  refine wpC_bind (wpC_mark ?_)
  refine wpC_of (wpAny_raiseNew_none hh ?_)
  exact hE _ _ _ hx.newExc
  exact msg_fits _ hb
end Mine

namespace Mine
open PySem.NumText
set_option maxHeartbeats 4000000 in
theorem wpC_new_bad {prog : Program} {w : World} {A : Around} {E : Value → Shared → Prop} {s : Shared} {Q : Fin → Shared → Prop} {x : Str} {u tb : Tok} {b : Int}
    (hh : A.handled = none) (hl : x.length ≤ 640) (hA : ∀ c ∈ ls x, c < 128 ∧ c ≠ 0) (hb : 2 ≤ b) (hb2 : b ≤ 36) (hr : intB b.toNat (ls x) = none)
    (hE : ∀ h' tk e, Heap.NewExc s.heap h' e "ValueError" → E (.ref e) { s with heap := h', toks := tk }) :
    wpC (model prog w) A (Builtin.«int.__new__» ⟨[.type "int", .str x u, .int b tb], []⟩) Q E s := by
  have f1 := F.conv_sub_int
  have f2 := F.madeHere_int
  have ht := text_plain hA
  unfold Builtin.«int.__new__»
  dsimp only
  repeat (first
    | (refine wpC_bind ?_; (with_reducible show wpC _ _ ((int_private% "intFromText") _ _ _) _ _ _); (show wpC _ _ ((int_private% "intFromText") _ (numTextOf x) _) _ _ _); rw [ht]; exact wpC_text_bad hh hl hA (by omega) hr hE)
    | (refine wpC_ite_false (by first | decide | (simp; omega) | simp) ?_)
    | (refine wpC_bind (wpC_of ?_); (repeat (first | assumption | wp_step)))
    | (with_reducible refine wpC_bind (wpC_pure ?_)))
end Mine
namespace Mine
section
variable {prog : Program} {w : World} {A : Around} {E : Value → Shared → Prop} {s : Shared} {R : Result → Shared → Prop}
theorem codeC_builtin {id : String} {args : Args} {b : Builtin} (hb : entryFor table id = some b)
    (h : wpC (model prog w) (A.under (.builtin id args)) (b args)
      (fun fin s' => match fin with | .done f => R (.ok f) s' | .again c' => c'.quiet = true ∧ codeC (model prog w) A c' R s') (fun e s' => R (.error e) s') s) :
    codeC (model prog w) A (.builtin id args) R s := by
  refine codeC_of_tree ?_
  show wpC _ _ (match entryFor table id with | some b => b args | none => unsupported ((withoutEnding? id "#data").getD id)) _ _ s
  rw [hb]; exact h
theorem codeC_call_builtin {id : String} {args : Args} {b : Builtin} (hq : plainId id = true) (hb : entryFor table id = some b) (hc : checkBuiltinCall id args = pure ())
    (h : wpC (model prog w) A.in1 (b args) (fun fin s' => match fin with | .done f => R (.ok f) s' | .again c' => c'.quiet = true ∧ codeC (model prog w) A c' R s') (fun e s' => R (.error e) s') s) :
    codeC (model prog w) A (.call (.builtin id) args) R s := by
  refine codeC_of_tree ?_
  show wpC _ A.in1 (do checkBuiltinCall id args; again (.builtin id args)) _ _ s
  rw [hc]
  refine wpC_bind (wpC_pure (wpC_pure (And.intro (plainId_quiet hq args) (codeC_builtin hb ?_))))
  rw [Around.under_plainId hq args]
  exact h
end
end Mine
namespace Mine
section
variable {prog : Program} {w : World} {A : Around} {E : Value → Shared → Prop} {s : Shared}
set_option maxHeartbeats 4000000 in
/-- int(text, base) that is refused, beneath the caller -/
theorem rC_int2_bad {Q : Value → Shared → Prop} {x : Str} {u tb : Tok} {b : Int}
    (hh : A.handled = none) (hl : x.length ≤ 640) (hA : ∀ c ∈ ls x, c < 128 ∧ c ≠ 0) (hb : 2 ≤ b) (hb2 : b ≤ 36) (hr : intB b.toNat (ls x) = none)
    (hE : ∀ h' tk e, Heap.NewExc s.heap h' e "ValueError" → E (.ref e) { s with heap := h', toks := tk }) :
    wpC (model prog w) A (call (.type "int") [.str x u, .int b tb]) Q E s := by
  obtain ⟨c, tl, hmro⟩ := F.called_int.mro
  have hmade := F.called_int.made
  have hsub := F.called_int.sub
  have h1 := F.called_int.notType
  have h2 := F.called_int.canCreate
  refine wpC_call (codeC_of_tree ?_)
  show wpC _ _ (callAny (.type "int") _) _ _ _
  refine wpC_pure ⟨Code.quiet_builtin _ (by decide +kernel), codeC_builtin F.entry_type_call ?_⟩
  rw [Around.under_plain (weight_type_call_type "int" _ []) (units_type_call_type "int" _ [])]
  have hct := typeCall_int_2 (.str x u) (.int b tb)
  unfold Builtin.«type.__call__»
  dsimp only
  repeat (first
    | (refine wpC_bind (wpC_holding (wpC_call (codeC_call_builtin F.called_int.plain F.entry_int_new (newCall_int_2 _ _) ?_)));
       exact wpC_new_bad hh hl hA hb hb2 hr hE)
    | (refine wpC_ite_false (by first | (rw [h1]; decide) | (rw [h2]; decide) | decide | (simp; done)) ?_)
    | (rw [hct])
    | (refine wpC_bind (wpC_of ?_); (repeat (first | assumption | wp_step))))
end
end Mine
namespace Mine
open PySem.NumText
section
variable {prog : Program} {w : World} {A : Around} {E : Value → Shared → Prop} {s : Shared}
set_option maxHeartbeats 4000000 in
theorem gives_int_1 {x : Str} {u : Tok} {n : Int} (hA : ∀ c ∈ ls x, c < 128 ∧ c ≠ 0) (hl : x.length ≤ 640) (hn : intB 10 (ls x) = some n) :
    Gives (Builtin.«int.__new__» ⟨[.type "int", .str x u], []⟩) (.int n) :=
  .of_wp fun M A E s Q h => by
    obtain ⟨hp, g, d, tk, os⟩ := s
    have f1 := F.conv_sub_int
    have f2 := F.madeHere_int
    have f3 := KIN.str_int
    have f4 := KIN.str_idx
    have f5 := KIN.str_trunc
    have f6 : typeOf (.str x u) = pure (.type "str") := rfl
    have ht := text_plain hA
    have hz := seen_all hA
    have hl2 : (ls x).length ≤ 640 := by simpa [ls, Str.length] using hl
    have hk := KIN.Hid.mk (And.intro ht (And.intro hl2 (And.intro hz hn)))
    clear ht hz hl2 hn hA hl
    repeat (any_goals (first
      | assumption
      | ((with_reducible show wpAny _ _ ((int_private% "intFromText") _ _ _) _ _ _); (show wpAny _ _ ((int_private% "intFromText") _ (numTextOf x) _) _ _ _); rw [hk.out.1]; refine wp_text_b hk.out.2.1 hk.out.2.2.1 hk.out.2.2.2 ?_)
      | wp_step))
    all_goals exact ⟨_, rfl, h⟩
/-- int(text) that is read -/
theorem r_int1 {Q : Value → Shared → Prop} {x : Str} {t : Tok} {n : Int} (hA : ∀ c ∈ ls x, c < 128 ∧ c ≠ 0) (hl : x.length ≤ 640) (hn : intB 10 (ls x) = some n) (h : ∀ t' k', Q (.int n t') { s with toks := k' }) :
    wpAny (model prog w) A (call (.type "int") [.str x t]) Q E s :=
  call_int_1 (gives_int_1 hA hl hn).meets (show (Made.int n).post _ s from ⟨rfl, h _ _⟩)
end
end Mine

namespace Mine
open PySem.NumText
set_option maxHeartbeats 4000000 in
theorem wpC_obj_bad {prog : Program} {w : World} {A : Around} {E : Value → Shared → Prop} {s : Shared} {Q : Value → Shared → Prop} {x : Str} {u : Tok}
    (hh : A.handled = none) (hl : x.length ≤ 640) (hA : ∀ c ∈ ls x, c < 128 ∧ c ≠ 0) (hr : intB 10 (ls x) = none)
    (hE : ∀ h' tk e, Heap.NewExc s.heap h' e "ValueError" → E (.ref e) { s with heap := h', toks := tk }) :
    wpC (model prog w) A ((int_private% "intFromObject") (.str x u)) Q E s := by
  have f3 := KIN.str_int
  have f4 := KIN.str_idx
  have f5 := KIN.str_trunc
  have f6 : typeOf (.str x u) = pure (.type "str") := rfl
  have ht := text_plain hA
  refine wpC_bind (wpC_of ?_); (repeat (first | assumption | wp_step)); (try dsimp only)
  refine wpC_bind (wpC_of ?_); (repeat (first | assumption | wp_step)); (try dsimp only)
  refine wpC_ite_false (by simp) ?_
  refine wpC_bind (wpC_of ?_); (repeat (first | assumption | wp_step)); (try dsimp only)
  refine wpC_bind (wpC_of ?_)
  wp_step
  wp_step
  wp_step
  wp_step
  wp_step
  dsimp only
  show wpC _ _ ((int_private% "intFromText") _ (numTextOf x) _) _ _ _
  rw [ht]
  exact wpC_text_bad hh hl hA (by decide) hr hE
end Mine
namespace Mine
open PySem.NumText
set_option maxHeartbeats 4000000 in
theorem wpC_new_bad1 {prog : Program} {w : World} {A : Around} {E : Value → Shared → Prop} {s : Shared} {Q : Fin → Shared → Prop} {x : Str} {u : Tok}
    (hh : A.handled = none) (hl : x.length ≤ 640) (hA : ∀ c ∈ ls x, c < 128 ∧ c ≠ 0) (hr : intB 10 (ls x) = none)
    (hE : ∀ h' tk e, Heap.NewExc s.heap h' e "ValueError" → E (.ref e) { s with heap := h', toks := tk }) :
    wpC (model prog w) A (Builtin.«int.__new__» ⟨[.type "int", .str x u], []⟩) Q E s := by
  have f1 := F.conv_sub_int
  have f2 := F.madeHere_int
  unfold Builtin.«int.__new__»
  dsimp only
  repeat (first
    | (refine wpC_bind ?_; (show wpC _ _ ((int_private% "intFromObject") _) _ _ _); exact wpC_obj_bad hh hl hA hr hE)
    | (refine wpC_ite_false (by first | decide | (simp; done)) ?_)
    | (refine wpC_bind (wpC_of ?_); (repeat (first | assumption | wp_step))))
end Mine
namespace Mine
section
variable {prog : Program} {w : World} {A : Around} {E : Value → Shared → Prop} {s : Shared}
set_option maxHeartbeats 4000000 in
/-- int(text) that is refused, beneath the caller -/
theorem rC_int1_bad {Q : Value → Shared → Prop} {x : Str} {u : Tok}
    (hh : A.handled = none) (hl : x.length ≤ 640) (hA : ∀ c ∈ ls x, c < 128 ∧ c ≠ 0) (hr : intB 10 (ls x) = none)
    (hE : ∀ h' tk e, Heap.NewExc s.heap h' e "ValueError" → E (.ref e) { s with heap := h', toks := tk }) :
    wpC (model prog w) A (call (.type "int") [.str x u]) Q E s := by
  obtain ⟨c, tl, hmro⟩ := F.called_int.mro
  have hmade := F.called_int.made
  have hsub := F.called_int.sub
  have h1 := F.called_int.notType
  have h2 := F.called_int.canCreate
  refine wpC_call (codeC_of_tree ?_)
  show wpC _ _ (callAny (.type "int") _) _ _ _
  refine wpC_pure ⟨Code.quiet_builtin _ (by decide +kernel), codeC_builtin F.entry_type_call ?_⟩
  rw [Around.under_plain (weight_type_call_type "int" _ []) (units_type_call_type "int" _ [])]
  have hct := F.typeCall_int_1 (.str x u)
  unfold Builtin.«type.__call__»
  dsimp only
  repeat (first
    | (refine wpC_bind (wpC_holding (wpC_call (codeC_call_builtin F.called_int.plain F.entry_int_new (F.newCall_int_1 _) ?_)));
       exact wpC_new_bad1 hh hl hA hr hE)
    | (refine wpC_ite_false (by first | (rw [h1]; decide) | (rw [h2]; decide) | decide | (simp; done)) ?_)
    | (rw [hct])
    | (refine wpC_bind (wpC_of ?_); (repeat (first | assumption | wp_step))))
end
end Mine

namespace Mine
section
variable {prog : Program} {w : World} {A : Around} {E : Value → Shared → Prop} {s : Shared} {Q : Value → Shared → Prop} {x y z : Str} {l : List Nat} {t u tb : Tok} {n c : Nat} {b : Int}
theorem t_lower_same (hx : Tl n x l) (hl : l.map lo1 = l) (hn : n ≤ 5000000) (h : ∀ v t' k', Tl n v l → Q (.str v t') { s with toks := k' }) : wpAny (model prog w) A (call (.builtin "str.lower") [.str x t]) Q E s :=
  t_lower hx hn fun v t' k' hv => h v t' k' (hl ▸ hv)
theorem t_rstrip_same (hx : Tl n x l) (hl : rstripL 108 l = l) (hn : n ≤ 5000000) (hy : y = ⟨#[108]⟩) (h : ∀ v t' k', Tl n v l → Q (.str v t') { s with toks := k' }) : wpAny (model prog w) A (call (.builtin "str.rstrip") [.str x t, .str y u]) Q E s :=
  t_rstrip hx hn hy fun v t' k' hv => h v t' k' (hl ▸ hv)
theorem t_int2 (hx : Tl n x l) (hn : n ≤ 640) (hb : 2 ≤ b) (hb2 : b ≤ 36) (hh : A.handled = none) (h : ∀ i t' k', intB b.toNat l = some i → Q (.int i t') { s with toks := k' })
    (hE : ∀ h' tk e, intB b.toNat l = none → Heap.NewExc s.heap h' e "ValueError" → E (.ref e) { s with heap := h', toks := tk }) :
    wpC (model prog w) A (call (.type "int") [.str x t, .int b tb]) Q E s := by
  cases hi : intB b.toNat l with
  | some i => exact wpC_of (r_int2 (fun c hc => hx.ok c (hx.is ▸ hc)) (Nat.le_trans hx.le hn) hb hb2 (by rw [hx.is]; exact hi) fun t' k' => h i t' k' hi)
  | none => exact rC_int2_bad hh (Nat.le_trans hx.le hn) (fun c hc => hx.ok c (hx.is ▸ hc)) hb hb2 (by rw [hx.is]; exact hi) fun h' tk e hx' => hE h' tk e hi hx'
theorem t_int1 (hx : Tl n x l) (hn : n ≤ 640) (hh : A.handled = none) (h : ∀ i t' k', intB 10 l = some i → Q (.int i t') { s with toks := k' })
    (hE : ∀ h' tk e, intB 10 l = none → Heap.NewExc s.heap h' e "ValueError" → E (.ref e) { s with heap := h', toks := tk }) :
    wpC (model prog w) A (call (.type "int") [.str x t]) Q E s := by
  cases hi : intB 10 l with
  | some i => exact wpC_of (r_int1 (fun c hc => hx.ok c (hx.is ▸ hc)) (Nat.le_trans hx.le hn) (by rw [hx.is]; exact hi) fun t' k' => h i t' k' hi)
  | none => exact rC_int1_bad hh (Nat.le_trans hx.le hn) (fun c hc => hx.ok c (hx.is ▸ hc)) (by rw [hx.is]; exact hi) fun h' tk e hx' => hE h' tk e hi hx'
theorem t_ne1 {d : Nat} (hx : x = ⟨#[c]⟩) (hy : y = ⟨#[d]⟩) (h : Q (.bool (!decide (c = d))) s) : wpAny (model prog w) A (compareOp .NotEq (.str x t) (.str y u)) Q E s := by
  subst hx; subst hy
  refine PySem.P.ne_str ?_
  have e : ((⟨#[c]⟩ : Str).cps.toList != (⟨#[d]⟩ : Str).cps.toList) = !decide (c = d) := by
    show (!([c] == [d])) = _
    congr 1
    rw [Bool.eq_iff_iff, beq_iff_eq, decide_eq_true_eq]
    simp
  rw [e]; exact h
theorem t_mul {a b : Int} (h0 : 0 ≤ a) (h1 : a ≤ 1000000) (h2 : 0 ≤ b) (h3 : b ≤ 1000000) (h : ∀ t' k', Q (.int (a * b) t') { s with toks := k' }) : wpAny (model prog w) A (binaryOp .Mult (.int a t) (.int b u)) Q E s := by
  obtain ⟨x, rfl⟩ := Int.eq_ofNat_of_zero_le h0
  have h5 : bl (x : Int) ≤ ((64 : Nat) : Int) := bl_nat.mpr (Nat.lt_of_le_of_lt (by omega : x ≤ 1000000) (by decide))
  unfold bl at h5
  exact PyProof.Rows.mul_int (h _ _) (IntMulOk.of_left (by omega))
theorem bl_mul {a b : Int} : bl (a * b) ≤ bl a + bl b := by
  have h1 := lt_bl a.natAbs
  have h2 := lt_bl b.natAbs
  have e1 : bl ((a.natAbs : Nat) : Int) = bl a := by rcases Int.natAbs_eq a with h | h <;> (conv => rhs; rw [h]) <;> simp only [bl_neg]
  have e2 : bl ((b.natAbs : Nat) : Int) = bl b := by rcases Int.natAbs_eq b with h | h <;> (conv => rhs; rw [h]) <;> simp only [bl_neg]
  have e3 : bl ((a * b).natAbs : Int) = bl (a * b) := by rcases Int.natAbs_eq (a * b) with h | h <;> (conv => rhs; rw [h]) <;> simp only [bl_neg]
  rw [e1] at h1
  rw [e2] at h2
  have n1 := bl_nonneg a
  have n2 := bl_nonneg b
  have h3 : bl ((a * b).natAbs : Int) ≤ (((bl a).toNat + (bl b).toNat : Nat) : Int) := bl_nat.mpr (by
    rw [Int.natAbs_mul, Nat.pow_add]
    exact Nat.mul_lt_mul'' h1 h2)
  rw [e3] at h3
  omega
theorem r_mulB {a b : Int} (ha : bl a ≤ 50000) (hb : bl b ≤ 20000) (h : ∀ v t' k', Is v (a * b) → bl v ≤ 70000 → Q (.int v t') { s with toks := k' }) : wpAny (model prog w) A (binaryOp .Mult (.int a t) (.int b u)) Q E s :=
  PyProof.Rows.mul_int (h _ _ _ ⟨rfl⟩ (by have := @bl_mul a b; omega)) (by
    unfold bl at ha hb
    unfold IntMulOk Builtin.Int.intTooBig
    intro q
    rw [Bool.and_eq_true] at q
    have := of_decide_eq_true q.2
    have e9 : bitsLine = 2 ^ 27 := rfl
    omega)
theorem r_mulS {a b : Int} (h0 : -1000000 ≤ a) (h1 : a ≤ 1000000) (h2 : -1000000 ≤ b) (h3 : b ≤ 1000000) (h : ∀ t' k', Q (.int (a * b) t') { s with toks := k' }) : wpAny (model prog w) A (binaryOp .Mult (.int a t) (.int b u)) Q E s := by
  have e1 : bl ((a.natAbs : Nat) : Int) = bl a := by rcases Int.natAbs_eq a with h | h <;> (conv => rhs; rw [h]) <;> simp only [bl_neg]
  have h5 : bl ((a.natAbs : Nat) : Int) ≤ ((64 : Nat) : Int) := bl_nat.mpr (Nat.lt_of_le_of_lt (by omega : a.natAbs ≤ 1000000) (by decide))
  rw [e1] at h5
  unfold bl at h5
  exact PyProof.Rows.mul_int (h _ _) (IntMulOk.of_left (by omega))
set_option exponentiation.threshold 3000 in
theorem r_pow10 {e : Int} (h0 : 0 ≤ e) (h1 : e ≤ 400) (h : ∀ v t' k', Is v ((10 : Int) ^ e.toNat) → 0 < v → bl v ≤ 2000 → Q (.int v t') { s with toks := k' }) : wpAny (model prog w) A (binaryOp .Pow (.int 10 t) (.int e u)) Q E s := by
  refine pow_int_small h0 (by omega) (by decide) (h _ _ _ ⟨rfl⟩ (Int.pow_pos (by decide)) ?_)
  have e1 : ((10 : Int) ^ e.toNat) = ((10 ^ e.toNat : Nat) : Int) := by simp
  rw [e1]
  have h2 : (10 : Nat) ^ e.toNat < 2 ^ 2000 := Nat.lt_of_le_of_lt (Nat.pow_le_pow_right (by decide) (by omega : e.toNat ≤ 400)) (by decide +kernel)
  exact bl_nat.mpr h2
theorem t_eq_nil (hx : Tl n x l) (hy : y = ⟨#[]⟩) (h : Q (.bool (decide (l = []))) s) : wpAny (model prog w) A (compareOp .Eq (.str x t) (.str y u)) Q E s :=
  t_eq hx (by subst hy; exact h)
end
theorem raisedK_N {base h : Heap} {l : List Env} {e : Addr} {cls : Value} {t : Addr} {args : List Value} {news : List (Addr × Obj)} (R : RaisedK base l e cls t args news h) : RaisedN base l e cls news h :=
  let ⟨⟨B, hB, hl, hf, _⟩, _⟩ := R
  ⟨B, .ref t, hB, hl, hf⟩
theorem lit_0 : Tl 1 (Str.ofString "0") [48] := Tl.lit _ [48] (by decide +kernel) (by decide)
end Mine
open Mine
-- the walk's own lines
local macro_rules | `(tactic| walk_at "binaryOp RShift int int") => `(tactic| (k_here; with_reducible (refine r_shr ?kk1 ?_); (case kk1 => omega); intro _ _ _ _; (try dsimp only)))
local macro_rules | `(tactic| walk_at "inplaceOp RShift int int") => `(tactic| (k_here; with_reducible (refine r_ishr ?kk1 ?_); (case kk1 => omega); intro _ _ _ _; (try dsimp only)))
local macro_rules | `(tactic| walk_at "binaryOp BitAnd int int") => `(tactic| (k_here; with_reducible (refine r_band ?_); intro _ _ _ _; (try dsimp only)))
local macro_rules | `(tactic| walk_at "call builtin:int.bit_length") => `(tactic| (k_here; with_reducible (refine r_bl ?_); intro _ _ _ _; (try dsimp only)))
local macro_rules | `(tactic| walk_at "call builtin:int.bit_length") => `(tactic| (k_here; with_reducible (refine r_bl_known (by assumption) ?_); intro _ _; (try dsimp only)))
local macro_rules | `(tactic| walk_at "binaryOp LShift int int") => `(tactic| (k_here; with_reducible (refine r_shl1 ?kk1 ?kk2 ?_); (case kk1 => omega); (case kk2 => omega); intro _ _ _ _; (try dsimp only)))
local macro_rules | `(tactic| walk_at "binaryOp Add int int") => `(tactic| (k_here; with_reducible (refine r_add ?_); intro _ _; (try dsimp only)))
local macro_rules | `(tactic| walk_at "binaryOp Sub int int") => `(tactic| (k_here; with_reducible (refine r_sub ?_); intro _ _; (try dsimp only)))
local macro_rules | `(tactic| walk_at "inplaceOp Add int int") => `(tactic| (k_here; with_reducible (refine r_iadd ?_); intro _ _; (try dsimp only)))
local macro_rules | `(tactic| walk_at "inplaceOp Sub int int") => `(tactic| (k_here; with_reducible (refine r_isub ?_); intro _ _; (try dsimp only)))
local macro_rules | `(tactic| walk_at "unaryOp USub int") => `(tactic| (k_here; with_reducible (refine r_neg ?_); intro _ _; (try dsimp only)))
local macro_rules | `(tactic| walk_at "execs cons") => `(tactic| (k_here; (with_reducible refine wpAny_execs_cons ?_)))
local macro_rules | `(tactic| walk_at "execs nil") => `(tactic| (k_here; (with_reducible refine wpAny_execs_nil ?_)))
local macro_rules | `(tactic| walk_at "exec If") => `(tactic| (k_here; with_reducible refine wpAny_If ?_))
local macro_rules | `(tactic| walk_at "storeName") => `(tactic| (k_here; (try dsimp only); (refine r_st (by with_reducible assumption) (by with_reducible assumption) ?_); intro _ _ _ _; (try k_sweep)))
set_option hygiene false in
local macro_rules | `(tactic| walk_at "M ret") => `(tactic| (
  refine hret _ _ _ _ (by with_reducible assumption) (by with_reducible assumption) ?_))
set_option hygiene false in
local macro_rules | `(tactic| walk_at "M is") => `(tactic| (
  repeat ((rename Is _ _ => hq); (obtain ⟨rfl⟩ := hq))))
set_option hygiene false in
local macro_rules | `(tactic| walk_at "M enter") => `(tactic| (
  unfold Ctr
  k_fill
  intro w mean mg mb dp un gd cn cs a ccd cl outer A₀ base h₀ L m s Q E B F X N T hk hd hu hret hexc
  refine wpAny_call ?_
  walk_at "M code"))
set_option hygiene false in
local macro_rules | `(tactic| walk_at "M code") => `(tactic| (
  k_dflt (refine' code_defT ?k1 ?k2 ?k3 ?k4 ?k5 ?kA ?kF ?kK ?k6 ?k7 ?k8 ?k9 ?kB ?_ ?c2 ?c3 ?c4 ?c5)
  (case kA => exact rfl); (case kF => exact rfl); (case kK => assumption); (case k1 => k_asm); (case k2 => k_asm); (case k3 => k_asm); (case k4 => k_asm); (case k5 => k_asm); (case k6 => k_dflt k_is); (case k7 => k_dflt k_is); (case k8 => ktr_room)
  (case k9 => k_dflt (first | exact BindsTo.of_eq rfl | exact binds_K (by k_in) rfl (by k_is) rfl rfl rfl))
  (case c5 => k_dflt decide); (case kB => k_dflt (exact locs rfl)); (case c2 => exact rfl); (case c3 => exact rfl); (case c4 => exact rfl)
  intro g' L' h' tk' FG' F' N' B' X' T'
  (try dsimp only)
  (try k_fold)))
local macro_rules | `(tactic| walk_at "eval Subscript Subscript") => `(tactic| (
  plain_pass; k_here;
  (with_reducible show wpAny _ _ (eval (Expr.Subscript (Expr.Subscript (Expr.Name _ _) (Expr.Name _ _) _) (Expr.Name _ _) _) _) _ _ _);
  (rename WayOk _ => hW);
  (refine cut_sd hW (by with_reducible assumption) ?cut1 ?_);
  (case cut1 => (have hS := (by with_reducible assumption : _ = (0 : Int) ∨ _ = (1 : Int))); (rcases hW with hW | hW | hW | hW | hW <;> rcases hS with hS | hS <;> subst hW <;> subst hS <;> first | (exfalso; exact absurd (by assumption : (Str.ofString "n" == Str.ofString "n") = false) (by decide)) | (repeat' (first | (k_unfold; (try dsimp only)) | exact ⟨_, _, rfl, rfl⟩ | walk1 | (dsimp only; walk1)))));
  intro _ _; (try dsimp only)))
local macro_rules | `(tactic| walk_at "M use") => `(tactic| (
  (case cB => k_asm); (case cF => k_asm); (case cX => k_asm); (case cN => k_asm); (case cT => k_asm); (case cK => first | exact rfl | assumption);
  (case cD => first | (dsimp only [Around.deeper]; omega) | ktr_room); (case cU => first | (dsimp only [Around.deeper]; omega) | ktr_units)))
local macro_rules | `(tactic| walk_at "ite") => `(tactic| (k_here; first
  | with_reducible refine ite_tt ?_ | with_reducible refine ite_ff ?_ | with_reducible refine split_not ?_
  | ((with_reducible refine split_ine ?_ ?_) <;> intro _ <;> try (exfalso; omega; done))
  | ((with_reducible refine split_ieq ?_ ?_) <;> intro _ <;> try (exfalso; omega; done))
  | ((with_reducible refine split_dec ?_ ?_) <;> intro _ <;> try (exfalso; omega; done))))
local macro_rules | `(tactic| walk_at "spliced") => `(tactic| (k_here; first | with_reducible refine spliced_none ?_ | k_dflt (refine spliced_more ?_)))
local macro_rules | `(tactic| walk_at "exec Assign") => `(tactic| (k_here; with_reducible refine wpAny_Assign_Name ?_))
local macro_rules | `(tactic| walk_at "exec AugAssign") => `(tactic| (k_here; with_reducible refine wpAny_AugAssign_Name ?_))
local macro_rules | `(tactic| walk_at "exec Return some") => `(tactic| (k_here; with_reducible refine wpAny_Return_some ?_))
local macro_rules | `(tactic| walk_at "isTrue UnaryOp") => `(tactic| (k_here; with_reducible refine isTrue_not ?_))
local macro_rules | `(tactic| walk_at "isTrue Compare") => `(tactic| (k_here; with_reducible refine wpAny_isTrue_Compare1 ?_))
local macro_rules | `(tactic| walk_at "eval BinOp") => `(tactic| (k_here; k_dflt (refine wpAny_BinOp ?_)))
local macro_rules | `(tactic| walk_at "eval Constant int") => `(tactic| (k_here; with_reducible refine wpAny_Constant_int ?_))
local macro_rules | `(tactic| walk_at "eval Tuple") => `(tactic| (k_here; with_reducible refine Tuple_ ?_))
local macro_rules | `(tactic| walk_at "truthy bool") => `(tactic| (k_here; with_reducible refine wpAny_truthy_bool ?_))
local macro_rules | `(tactic| walk_at "truthy int") => `(tactic| (k_here; with_reducible refine truthy_int ?_))
local macro_rules | `(tactic| walk_at "compareOp Eq int int") => `(tactic| (k_here; with_reducible refine eq_int ?_))
local macro_rules | `(tactic| walk_at "eval Call") => `(tactic| (k_here; (with_reducible show wpAny _ _ (eval (Expr.Call (Expr.Name _ _) _ [] _) _) _ _ _); k_dflt (refine Call_ ?_)))
local macro_rules | `(tactic| walk_at "binaryOp BitXor int int") => `(tactic| (k_here; with_reducible (refine r_xor0 ?kk1 ?_); (case kk1 => first | assumption | decide | omega); intro _ _; (try dsimp only)))
set_option hygiene false in
local macro_rules | `(tactic| walk_at "M retD") => `(tactic| (
  (refine hret _ _ _ _ (by assumption) (drop1 (news := news) (by assumption) ?_) ?_);
  (focus (intro p hp; simp [hp]; done));
  (refine ⟨_, _, _, _, _, _, _, _, rfl, rfl, ltdrop (by assumption) ?_, ?_⟩);
  (focus (intro p hp; simp [hp]; done))))
local macro_rules | `(tactic| walk_at "M i4") => `(tactic| first
  | exact i4_22 (by assumption) (by assumption) | exact i4_25 (by assumption) (by assumption) | exact i4_26 (by assumption) (by assumption) | exact i4_27 (by assumption) (by assumption)
  | exact i4_news (by assumption) (by k_mem))
local macro_rules | `(tactic| walk_at "compareOp Eq ref ref") => `(tactic| (k_here; (with_reducible show wpAny _ _ (compareOp CmpOp.Eq (Value.ref _) (Value.ref _)) _ _ _); (k_dflt (refine' r_eq4 ?e1 ?e2 ?e3 ?_)); (case e1 => walk_at "M i4"); (case e2 => walk_at "M i4"); (case e3 => first | (dsimp only [Around.deeper]; have h9 := cLine_is; omega) | units_room); (try dsimp only)))
local macro_rules | `(tactic| walk_at "compareOp NotEq ref ref") => `(tactic| (k_here; (with_reducible show wpAny _ _ (compareOp CmpOp.NotEq (Value.ref _) (Value.ref _)) _ _ _); (k_dflt (refine' r_ne4 ?e1 ?e2 ?e3 ?_)); (case e1 => walk_at "M i4"); (case e2 => walk_at "M i4"); (case e3 => first | (dsimp only [Around.deeper]; have h9 := cLine_is; omega) | units_room); (try dsimp only)))
local macro_rules | `(tactic| walk_at "C") => `(tactic| first
  | ((with_reducible show DefAtM _ _); first | exact fnAt (by assumption) (by assumption) fn_54 | exact fnAt (by assumption) (by assumption) fn_62 | exact fnAt (by assumption) (by assumption) fn_70 | exact fnAt (by assumption) (by assumption) fn_118 | exact fnAt (by assumption) (by assumption) fn_127 | exact fnAt (by assumption) (by assumption) fn_186)
  | ((with_reducible show DefAtM _ _ ∧ _); refine ⟨(by first | exact fnAt (by assumption) (by assumption) fn_54 | exact fnAt (by assumption) (by assumption) fn_62 | exact fnAt (by assumption) (by assumption) fn_70 | exact fnAt (by assumption) (by assumption) fn_118 | exact fnAt (by assumption) (by assumption) fn_127 | exact fnAt (by assumption) (by assumption) fn_186), ?_⟩)
  | ((with_reducible show wpC _ _ (call (Value.type "int") [_, _]) _ _ _); (refine t_int2 (by assumption) (by decide) (by first | omega | decide) (by first | omega | decide) rfl ?_ ?_) <;> intros <;> (try dsimp only))
  | ((with_reducible show wpC _ _ (call (Value.type "int") [_]) _ _ _); (refine t_int1 (by assumption) (by decide) rfl ?_ ?_) <;> intros <;> (try dsimp only))
  | with_reducible refine C_execs_cons ?_
  | with_reducible refine C_execs_nil ?_
  | with_reducible refine C_If ?_
  | ((with_reducible show wpC _ _ (exec (Stmt.Assign [Expr.Name _ _] (Expr.Call (Expr.Name _ _) _ _ _) _) _) _ _ _); refine C_Assign_Name ?_)
  | ((with_reducible show wpC _ _ (exec (Stmt.Assign [Expr.Tuple _ _ _] (Expr.Call (Expr.Name _ _) _ _ _) _) _) _ _ _); refine C_Assign_Tuple ?_)
  | ((with_reducible show wpC _ _ (exec (Stmt.Return (some (Expr.Call (Expr.Name _ _) _ _ _)) _) _) _ _ _); with_reducible refine C_Return ?_)
  | ((with_reducible show wpC _ _ (eval (Expr.Call (Expr.Name _ _) _ [] _) _) _ _ _); k_dflt (refine C_Call ?_))
  | ((with_reducible show wpC _ _ (callWith _ (Value.ref _) _ _ _) _ _ _); k_dflt (refine C_callWith_fn ?_))
  | ((with_reducible show wpC _ _ (callWith _ (Value.type _) _ _ _) _ _ _); k_dflt (refine C_callWith_type ?_))
  | with_reducible refine C_spliced_nil ?_
  | ((with_reducible show wpC _ _ (spliced (backTo _ (starEach (_ :: _) _))) _ _ _); k_dflt (refine C_spliced_cons ?_))
  | ((with_reducible show wpC _ _ _ _ _ _); with_reducible refine wpC_of ?_))
local macro_rules | `(tactic| walk_at "C steps") => `(tactic| repeat' (first | walk_at "C" | (k_unfold; (try dsimp only)) | (k_end; wrow_close) | walk1 | (dsimp only; walk1) | (leave1; walk_say "STEP leave1"; try dsimp only) | fail "no step"))
set_option hygiene false in
local macro_rules | `(tactic| walk_at "C enter") => `(tactic| (
  unfold CtrC
  k_fill
  intro w mean mg mb dp un gd cn cs a ccd cl outer A₀ base h₀ L m s Q E B F X N T hk hd hu hret hexc
  refine wpC_call ?_
  walk_at "C code"))
set_option hygiene false in
local macro_rules | `(tactic| walk_at "C code") => `(tactic| (
  k_dflt (refine' code_defC2 ?k1 ?k2 ?k3 ?k4 ?k5 ?kA ?kF ?kK ?k6 ?k7 ?k8 ?k9 ?kB ?_ ?c2 ?c3 ?c4 ?c5)
  (case kA => exact rfl); (case kF => exact rfl); (case kK => assumption); (case k1 => k_asm); (case k2 => k_asm); (case k3 => k_asm); (case k4 => k_asm); (case k5 => k_asm); (case k6 => k_dflt k_is); (case k7 => k_dflt k_is); (case k8 => ktr_room)
  (case k9 => k_dflt (first | exact BindsTo.of_eq rfl | exact binds_K (by k_in) rfl (by k_is) rfl rfl rfl))
  (case c5 => k_dflt decide); (case kB => k_dflt (exact locs rfl)); (case c2 => exact rfl); (case c3 => exact rfl); (case c4 => exact rfl)
  intro g' L' h' tk' FG' F' N' B' X' T'
  (try dsimp only)
  (try k_fold)))

section
namespace Mine
theorem hd_n : (Str.ofString "n" == ("__debug__" : Str)) = false := by decide +kernel
abbrev sc_trailing : Scope := { kind := .function, names := [(Str.ofString "n", .local)], isGenerator := false, isCoroutine := false, more := [] }
theorem kl_trailing_n {cn : Str} {L a : Addr} {cd : Value} : (envOf cn sc_trailing L a cd).kindOf (Str.ofString "n") = some .local := by kernel_rfl!
def nm_trailing : List Str := [Str.ofString "n"]
theorem ix_trailing_n : nm_trailing.idxOf (Str.ofString "n") = 0 := by decide +kernel
theorem nd_trailing : ([Str.ofString "n"] : List Str).Nodup := by decide +kernel
section
variable {M : Model} {A : Around} {E : Value → Shared → Prop} {s : Shared} {cn : Str} {L a : Addr} {cd : Value} {h₀ : Heap} {news : List (Addr × Obj)} {v : Value} {pos : Pos} {o0 : Option Value}
theorem base_trailing {h : Heap} {v0 : Value} (F : Fr h₀ L h (fun y => List.lookup y (List.zip [Str.ofString "n"] [v0]).reverse)) : Fr h₀ L h (fm nm_trailing [some v0]) := by
  rw [fm_base (ns₂ := []) (k := 0) nd_trailing rfl] at F
  exact F
theorem ld_trailing_n {Q : Value → Shared → Prop} (F : Fr h₀ L s.heap (fm nm_trailing [some v])) (h : Q v s) : wpAny M A (eval (.Name (Str.ofString "n") pos) (envOf cn sc_trailing L a cd)) Q E s := ld F ((fm_get ix_trailing_n).trans rfl) h rfl kl_trailing_n hd_n
theorem ldn_trailing_n {Q : Value → Shared → Prop} (F : Fr h₀ L s.heap (fm nm_trailing [some v])) (h : Q v s) : wpAny M A (loadName (envOf cn sc_trailing L a cd) (Str.ofString "n")) Q E s := ldn F ((fm_get ix_trailing_n).trans rfl) h rfl kl_trailing_n
theorem st_trailing_n {Q : Unit → Shared → Prop} (F : Fr h₀ L s.heap (fm nm_trailing [o0])) (N : News h₀ L s.heap news) (h : ∀ h' k', Fr h₀ L h' (fm nm_trailing [some v]) → News h₀ L h' news → Q () { s with heap := h', toks := k' }) : wpAny M A (storeName (envOf cn sc_trailing L a cd) (Str.ofString "n") v) Q E s := r_st F N (fun h' k' F' N' => h h' k' (by rw [fm_set ix_trailing_n (by decide) rfl] at F'; exact F') N') rfl kl_trailing_n
end
end Mine

local macro_rules | `(tactic| walk_at "eval Name") => `(tactic| (
  k_here; with_reducible (first
   | (refine' ld_trailing_n ?hF9 ?_; (case hF9 => assumption)))))
local macro_rules | `(tactic| walk_at "loadName") => `(tactic| (
  k_here; with_reducible (first
   | (refine' ldn_trailing_n ?hF9 ?_; (case hF9 => assumption)))))
local macro_rules | `(tactic| walk_at "storeName") => `(tactic| (
  k_here; with_reducible (first
   | (refine' st_trailing_n ?hF9 ?hN9 ?_; (case hF9 => assumption); (case hN9 => assumption); intro _ _ _ _; (try dsimp only); (try k_sweep)))))
set_option hygiene false in
local macro_rules | `(tactic| walk_at "M base") => `(tactic| (
  (rename Fr _ _ _ _ => F1);
  (replace F1 := base_trailing F1)))

namespace Mine
set_option maxHeartbeats 40000000 in
theorem c_trailing (n : Int) (t : Tok) (news : List (Addr × Obj)) :
   Ctr 21 [.int n t] 1 news (fun r ne => (∃ t v, Is v (tz n) ∧ 0 ≤ v ∧ r = .int v t) ∧ ne = news) (fun _ => False) := by
  walk_at "M enter"
  walk_at "M base"
  k_steps
  · walk_at "M ret"
    walk_at "M is"
    exact ⟨⟨_, _, ⟨(if_neg (by assumption)).symm⟩, (if_neg (by assumption) : tz n = _) ▸ tz_nonneg n, rfl⟩, rfl⟩
  · walk_at "M ret"
    exact ⟨⟨_, _, ⟨(if_pos (by assumption)).symm⟩, Int.le_refl _, rfl⟩, rfl⟩
end Mine
end
--CON
set_option hygiene false in
local macro_rules | `(tactic| walk_at "call ref") => `(tactic| (
  k_here; (with_reducible show wpAny _ _ (call (Value.ref 21) _) _ _ _);
  (refine' Ctr.use (c_trailing _ _ _) ?cB ?cF ?cX ?cN ?cT ?cK ?cD ?cU (fun _ _ _ _ _ h => h.elim) ?_); walk_at "M use";
  intro r9 ne9 h9 k9 F9 N9 hr9; obtain ⟨⟨t9, v9, i9, g9, rfl⟩, rfl⟩ := hr9; (try dsimp only)))
--END

section
namespace Mine
theorem hd_MPZ_ONE : (Str.ofString "MPZ_ONE" == ("__debug__" : Str)) = false := by decide +kernel
theorem hd_bc : (Str.ofString "bc" == ("__debug__" : Str)) = false := by decide +kernel
theorem hd_exp : (Str.ofString "exp" == ("__debug__" : Str)) = false := by decide +kernel
theorem hd_fzero : (Str.ofString "fzero" == ("__debug__" : Str)) = false := by decide +kernel
theorem hd_man : (Str.ofString "man" == ("__debug__" : Str)) = false := by decide +kernel
theorem hd_prec : (Str.ofString "prec" == ("__debug__" : Str)) = false := by decide +kernel
theorem hd_rnd : (Str.ofString "rnd" == ("__debug__" : Str)) = false := by decide +kernel
theorem hd_round_nearest : (Str.ofString "round_nearest" == ("__debug__" : Str)) = false := by decide +kernel
theorem hd_shifts_down : (Str.ofString "shifts_down" == ("__debug__" : Str)) = false := by decide +kernel
theorem hd_sign : (Str.ofString "sign" == ("__debug__" : Str)) = false := by decide +kernel
theorem hd_t : (Str.ofString "t" == ("__debug__" : Str)) = false := by decide +kernel
theorem hd_trailing : (Str.ofString "trailing" == ("__debug__" : Str)) = false := by decide +kernel
theorem gl_fzero (P : Params) : nsIn (Mine.hd.heap_39 P) mainGlobals (Str.ofString "fzero") = some (some (.ref 22)) := by kernel_rfl!
theorem gl_round_nearest (P : Params) : nsIn (Mine.hd.heap_39 P) mainGlobals (Str.ofString "round_nearest") = some (some (.str (Str.ofString "n") 204)) := by kernel_rfl!
theorem gl_MPZ_ONE (P : Params) : nsIn (Mine.hd.heap_39 P) mainGlobals (Str.ofString "MPZ_ONE") = some (some (.int 1 189)) := by kernel_rfl!
theorem gl_shifts_down (P : Params) : nsIn (Mine.hd.heap_39 P) mainGlobals (Str.ofString "shifts_down") = some (some (.ref 28)) := by kernel_rfl!
theorem gl_trailing (P : Params) : nsIn (Mine.hd.heap_39 P) mainGlobals (Str.ofString "trailing") = some (some (.ref 21)) := by kernel_rfl!
abbrev sc_znormalize : Scope := { kind := .function, names := [(Str.ofString "sign", .local), (Str.ofString "man", .local), (Str.ofString "exp", .local), (Str.ofString "bc", .local), (Str.ofString "prec", .local), (Str.ofString "rnd", .local), (Str.ofString "n", .local), (Str.ofString "t", .local), (Str.ofString "fzero", .globalImplicit), (Str.ofString "round_nearest", .globalImplicit), (Str.ofString "MPZ_ONE", .globalImplicit), (Str.ofString "shifts_down", .globalImplicit), (Str.ofString "trailing", .globalImplicit)], isGenerator := false, isCoroutine := false, more := [] }
theorem kl_znormalize_sign {cn : Str} {L a : Addr} {cd : Value} : (envOf cn sc_znormalize L a cd).kindOf (Str.ofString "sign") = some .local := by kernel_rfl!
theorem kl_znormalize_man {cn : Str} {L a : Addr} {cd : Value} : (envOf cn sc_znormalize L a cd).kindOf (Str.ofString "man") = some .local := by kernel_rfl!
theorem kl_znormalize_exp {cn : Str} {L a : Addr} {cd : Value} : (envOf cn sc_znormalize L a cd).kindOf (Str.ofString "exp") = some .local := by kernel_rfl!
theorem kl_znormalize_bc {cn : Str} {L a : Addr} {cd : Value} : (envOf cn sc_znormalize L a cd).kindOf (Str.ofString "bc") = some .local := by kernel_rfl!
theorem kl_znormalize_prec {cn : Str} {L a : Addr} {cd : Value} : (envOf cn sc_znormalize L a cd).kindOf (Str.ofString "prec") = some .local := by kernel_rfl!
theorem kl_znormalize_rnd {cn : Str} {L a : Addr} {cd : Value} : (envOf cn sc_znormalize L a cd).kindOf (Str.ofString "rnd") = some .local := by kernel_rfl!
theorem kl_znormalize_n {cn : Str} {L a : Addr} {cd : Value} : (envOf cn sc_znormalize L a cd).kindOf (Str.ofString "n") = some .local := by kernel_rfl!
theorem kl_znormalize_t {cn : Str} {L a : Addr} {cd : Value} : (envOf cn sc_znormalize L a cd).kindOf (Str.ofString "t") = some .local := by kernel_rfl!
theorem kl_znormalize_fzero {cn : Str} {L a : Addr} {cd : Value} : (envOf cn sc_znormalize L a cd).kindOf (Str.ofString "fzero") = some .globalImplicit := by kernel_rfl!
theorem kl_znormalize_round_nearest {cn : Str} {L a : Addr} {cd : Value} : (envOf cn sc_znormalize L a cd).kindOf (Str.ofString "round_nearest") = some .globalImplicit := by kernel_rfl!
theorem kl_znormalize_MPZ_ONE {cn : Str} {L a : Addr} {cd : Value} : (envOf cn sc_znormalize L a cd).kindOf (Str.ofString "MPZ_ONE") = some .globalImplicit := by kernel_rfl!
theorem kl_znormalize_shifts_down {cn : Str} {L a : Addr} {cd : Value} : (envOf cn sc_znormalize L a cd).kindOf (Str.ofString "shifts_down") = some .globalImplicit := by kernel_rfl!
theorem kl_znormalize_trailing {cn : Str} {L a : Addr} {cd : Value} : (envOf cn sc_znormalize L a cd).kindOf (Str.ofString "trailing") = some .globalImplicit := by kernel_rfl!
def nm_znormalize : List Str := [Str.ofString "sign", Str.ofString "man", Str.ofString "exp", Str.ofString "bc", Str.ofString "prec", Str.ofString "rnd", Str.ofString "n", Str.ofString "t"]
theorem ix_znormalize_sign : nm_znormalize.idxOf (Str.ofString "sign") = 0 := by decide +kernel
theorem ix_znormalize_man : nm_znormalize.idxOf (Str.ofString "man") = 1 := by decide +kernel
theorem ix_znormalize_exp : nm_znormalize.idxOf (Str.ofString "exp") = 2 := by decide +kernel
theorem ix_znormalize_bc : nm_znormalize.idxOf (Str.ofString "bc") = 3 := by decide +kernel
theorem ix_znormalize_prec : nm_znormalize.idxOf (Str.ofString "prec") = 4 := by decide +kernel
theorem ix_znormalize_rnd : nm_znormalize.idxOf (Str.ofString "rnd") = 5 := by decide +kernel
theorem ix_znormalize_n : nm_znormalize.idxOf (Str.ofString "n") = 6 := by decide +kernel
theorem ix_znormalize_t : nm_znormalize.idxOf (Str.ofString "t") = 7 := by decide +kernel
theorem nd_znormalize : ([Str.ofString "sign", Str.ofString "man", Str.ofString "exp", Str.ofString "bc", Str.ofString "prec", Str.ofString "rnd"] : List Str).Nodup := by decide +kernel
section
variable {M : Model} {A : Around} {E : Value → Shared → Prop} {s : Shared} {cn : Str} {L a : Addr} {cd : Value} {h₀ : Heap} {news : List (Addr × Obj)} {v : Value} {pos : Pos} {o0 o1 o2 o3 o4 o5 o6 o7 : Option Value}
theorem base_znormalize {h : Heap} {v0 v1 v2 v3 v4 v5 : Value} (F : Fr h₀ L h (fun y => List.lookup y (List.zip [Str.ofString "sign", Str.ofString "man", Str.ofString "exp", Str.ofString "bc", Str.ofString "prec", Str.ofString "rnd"] [v0, v1, v2, v3, v4, v5]).reverse)) : Fr h₀ L h (fm nm_znormalize [some v0, some v1, some v2, some v3, some v4, some v5, none, none]) := by
  rw [fm_base (ns₂ := [Str.ofString "n", Str.ofString "t"]) (k := 2) nd_znormalize rfl] at F
  exact F
theorem ld_znormalize_sign {Q : Value → Shared → Prop} (F : Fr h₀ L s.heap (fm nm_znormalize [some v, o1, o2, o3, o4, o5, o6, o7])) (h : Q v s) : wpAny M A (eval (.Name (Str.ofString "sign") pos) (envOf cn sc_znormalize L a cd)) Q E s := ld F ((fm_get ix_znormalize_sign).trans rfl) h rfl kl_znormalize_sign hd_sign
theorem ldn_znormalize_sign {Q : Value → Shared → Prop} (F : Fr h₀ L s.heap (fm nm_znormalize [some v, o1, o2, o3, o4, o5, o6, o7])) (h : Q v s) : wpAny M A (loadName (envOf cn sc_znormalize L a cd) (Str.ofString "sign")) Q E s := ldn F ((fm_get ix_znormalize_sign).trans rfl) h rfl kl_znormalize_sign
theorem st_znormalize_sign {Q : Unit → Shared → Prop} (F : Fr h₀ L s.heap (fm nm_znormalize [o0, o1, o2, o3, o4, o5, o6, o7])) (N : News h₀ L s.heap news) (h : ∀ h' k', Fr h₀ L h' (fm nm_znormalize [some v, o1, o2, o3, o4, o5, o6, o7]) → News h₀ L h' news → Q () { s with heap := h', toks := k' }) : wpAny M A (storeName (envOf cn sc_znormalize L a cd) (Str.ofString "sign") v) Q E s := r_st F N (fun h' k' F' N' => h h' k' (by rw [fm_set ix_znormalize_sign (by decide) rfl] at F'; exact F') N') rfl kl_znormalize_sign
theorem ld_znormalize_man {Q : Value → Shared → Prop} (F : Fr h₀ L s.heap (fm nm_znormalize [o0, some v, o2, o3, o4, o5, o6, o7])) (h : Q v s) : wpAny M A (eval (.Name (Str.ofString "man") pos) (envOf cn sc_znormalize L a cd)) Q E s := ld F ((fm_get ix_znormalize_man).trans rfl) h rfl kl_znormalize_man hd_man
theorem ldn_znormalize_man {Q : Value → Shared → Prop} (F : Fr h₀ L s.heap (fm nm_znormalize [o0, some v, o2, o3, o4, o5, o6, o7])) (h : Q v s) : wpAny M A (loadName (envOf cn sc_znormalize L a cd) (Str.ofString "man")) Q E s := ldn F ((fm_get ix_znormalize_man).trans rfl) h rfl kl_znormalize_man
theorem st_znormalize_man {Q : Unit → Shared → Prop} (F : Fr h₀ L s.heap (fm nm_znormalize [o0, o1, o2, o3, o4, o5, o6, o7])) (N : News h₀ L s.heap news) (h : ∀ h' k', Fr h₀ L h' (fm nm_znormalize [o0, some v, o2, o3, o4, o5, o6, o7]) → News h₀ L h' news → Q () { s with heap := h', toks := k' }) : wpAny M A (storeName (envOf cn sc_znormalize L a cd) (Str.ofString "man") v) Q E s := r_st F N (fun h' k' F' N' => h h' k' (by rw [fm_set ix_znormalize_man (by decide) rfl] at F'; exact F') N') rfl kl_znormalize_man
theorem ld_znormalize_exp {Q : Value → Shared → Prop} (F : Fr h₀ L s.heap (fm nm_znormalize [o0, o1, some v, o3, o4, o5, o6, o7])) (h : Q v s) : wpAny M A (eval (.Name (Str.ofString "exp") pos) (envOf cn sc_znormalize L a cd)) Q E s := ld F ((fm_get ix_znormalize_exp).trans rfl) h rfl kl_znormalize_exp hd_exp
theorem ldn_znormalize_exp {Q : Value → Shared → Prop} (F : Fr h₀ L s.heap (fm nm_znormalize [o0, o1, some v, o3, o4, o5, o6, o7])) (h : Q v s) : wpAny M A (loadName (envOf cn sc_znormalize L a cd) (Str.ofString "exp")) Q E s := ldn F ((fm_get ix_znormalize_exp).trans rfl) h rfl kl_znormalize_exp
theorem st_znormalize_exp {Q : Unit → Shared → Prop} (F : Fr h₀ L s.heap (fm nm_znormalize [o0, o1, o2, o3, o4, o5, o6, o7])) (N : News h₀ L s.heap news) (h : ∀ h' k', Fr h₀ L h' (fm nm_znormalize [o0, o1, some v, o3, o4, o5, o6, o7]) → News h₀ L h' news → Q () { s with heap := h', toks := k' }) : wpAny M A (storeName (envOf cn sc_znormalize L a cd) (Str.ofString "exp") v) Q E s := r_st F N (fun h' k' F' N' => h h' k' (by rw [fm_set ix_znormalize_exp (by decide) rfl] at F'; exact F') N') rfl kl_znormalize_exp
theorem ld_znormalize_bc {Q : Value → Shared → Prop} (F : Fr h₀ L s.heap (fm nm_znormalize [o0, o1, o2, some v, o4, o5, o6, o7])) (h : Q v s) : wpAny M A (eval (.Name (Str.ofString "bc") pos) (envOf cn sc_znormalize L a cd)) Q E s := ld F ((fm_get ix_znormalize_bc).trans rfl) h rfl kl_znormalize_bc hd_bc
theorem ldn_znormalize_bc {Q : Value → Shared → Prop} (F : Fr h₀ L s.heap (fm nm_znormalize [o0, o1, o2, some v, o4, o5, o6, o7])) (h : Q v s) : wpAny M A (loadName (envOf cn sc_znormalize L a cd) (Str.ofString "bc")) Q E s := ldn F ((fm_get ix_znormalize_bc).trans rfl) h rfl kl_znormalize_bc
theorem st_znormalize_bc {Q : Unit → Shared → Prop} (F : Fr h₀ L s.heap (fm nm_znormalize [o0, o1, o2, o3, o4, o5, o6, o7])) (N : News h₀ L s.heap news) (h : ∀ h' k', Fr h₀ L h' (fm nm_znormalize [o0, o1, o2, some v, o4, o5, o6, o7]) → News h₀ L h' news → Q () { s with heap := h', toks := k' }) : wpAny M A (storeName (envOf cn sc_znormalize L a cd) (Str.ofString "bc") v) Q E s := r_st F N (fun h' k' F' N' => h h' k' (by rw [fm_set ix_znormalize_bc (by decide) rfl] at F'; exact F') N') rfl kl_znormalize_bc
theorem ld_znormalize_prec {Q : Value → Shared → Prop} (F : Fr h₀ L s.heap (fm nm_znormalize [o0, o1, o2, o3, some v, o5, o6, o7])) (h : Q v s) : wpAny M A (eval (.Name (Str.ofString "prec") pos) (envOf cn sc_znormalize L a cd)) Q E s := ld F ((fm_get ix_znormalize_prec).trans rfl) h rfl kl_znormalize_prec hd_prec
theorem ldn_znormalize_prec {Q : Value → Shared → Prop} (F : Fr h₀ L s.heap (fm nm_znormalize [o0, o1, o2, o3, some v, o5, o6, o7])) (h : Q v s) : wpAny M A (loadName (envOf cn sc_znormalize L a cd) (Str.ofString "prec")) Q E s := ldn F ((fm_get ix_znormalize_prec).trans rfl) h rfl kl_znormalize_prec
theorem st_znormalize_prec {Q : Unit → Shared → Prop} (F : Fr h₀ L s.heap (fm nm_znormalize [o0, o1, o2, o3, o4, o5, o6, o7])) (N : News h₀ L s.heap news) (h : ∀ h' k', Fr h₀ L h' (fm nm_znormalize [o0, o1, o2, o3, some v, o5, o6, o7]) → News h₀ L h' news → Q () { s with heap := h', toks := k' }) : wpAny M A (storeName (envOf cn sc_znormalize L a cd) (Str.ofString "prec") v) Q E s := r_st F N (fun h' k' F' N' => h h' k' (by rw [fm_set ix_znormalize_prec (by decide) rfl] at F'; exact F') N') rfl kl_znormalize_prec
theorem ld_znormalize_rnd {Q : Value → Shared → Prop} (F : Fr h₀ L s.heap (fm nm_znormalize [o0, o1, o2, o3, o4, some v, o6, o7])) (h : Q v s) : wpAny M A (eval (.Name (Str.ofString "rnd") pos) (envOf cn sc_znormalize L a cd)) Q E s := ld F ((fm_get ix_znormalize_rnd).trans rfl) h rfl kl_znormalize_rnd hd_rnd
theorem ldn_znormalize_rnd {Q : Value → Shared → Prop} (F : Fr h₀ L s.heap (fm nm_znormalize [o0, o1, o2, o3, o4, some v, o6, o7])) (h : Q v s) : wpAny M A (loadName (envOf cn sc_znormalize L a cd) (Str.ofString "rnd")) Q E s := ldn F ((fm_get ix_znormalize_rnd).trans rfl) h rfl kl_znormalize_rnd
theorem st_znormalize_rnd {Q : Unit → Shared → Prop} (F : Fr h₀ L s.heap (fm nm_znormalize [o0, o1, o2, o3, o4, o5, o6, o7])) (N : News h₀ L s.heap news) (h : ∀ h' k', Fr h₀ L h' (fm nm_znormalize [o0, o1, o2, o3, o4, some v, o6, o7]) → News h₀ L h' news → Q () { s with heap := h', toks := k' }) : wpAny M A (storeName (envOf cn sc_znormalize L a cd) (Str.ofString "rnd") v) Q E s := r_st F N (fun h' k' F' N' => h h' k' (by rw [fm_set ix_znormalize_rnd (by decide) rfl] at F'; exact F') N') rfl kl_znormalize_rnd
theorem ld_znormalize_n {Q : Value → Shared → Prop} (F : Fr h₀ L s.heap (fm nm_znormalize [o0, o1, o2, o3, o4, o5, some v, o7])) (h : Q v s) : wpAny M A (eval (.Name (Str.ofString "n") pos) (envOf cn sc_znormalize L a cd)) Q E s := ld F ((fm_get ix_znormalize_n).trans rfl) h rfl kl_znormalize_n hd_n
theorem ldn_znormalize_n {Q : Value → Shared → Prop} (F : Fr h₀ L s.heap (fm nm_znormalize [o0, o1, o2, o3, o4, o5, some v, o7])) (h : Q v s) : wpAny M A (loadName (envOf cn sc_znormalize L a cd) (Str.ofString "n")) Q E s := ldn F ((fm_get ix_znormalize_n).trans rfl) h rfl kl_znormalize_n
theorem st_znormalize_n {Q : Unit → Shared → Prop} (F : Fr h₀ L s.heap (fm nm_znormalize [o0, o1, o2, o3, o4, o5, o6, o7])) (N : News h₀ L s.heap news) (h : ∀ h' k', Fr h₀ L h' (fm nm_znormalize [o0, o1, o2, o3, o4, o5, some v, o7]) → News h₀ L h' news → Q () { s with heap := h', toks := k' }) : wpAny M A (storeName (envOf cn sc_znormalize L a cd) (Str.ofString "n") v) Q E s := r_st F N (fun h' k' F' N' => h h' k' (by rw [fm_set ix_znormalize_n (by decide) rfl] at F'; exact F') N') rfl kl_znormalize_n
theorem ld_znormalize_t {Q : Value → Shared → Prop} (F : Fr h₀ L s.heap (fm nm_znormalize [o0, o1, o2, o3, o4, o5, o6, some v])) (h : Q v s) : wpAny M A (eval (.Name (Str.ofString "t") pos) (envOf cn sc_znormalize L a cd)) Q E s := ld F ((fm_get ix_znormalize_t).trans rfl) h rfl kl_znormalize_t hd_t
theorem ldn_znormalize_t {Q : Value → Shared → Prop} (F : Fr h₀ L s.heap (fm nm_znormalize [o0, o1, o2, o3, o4, o5, o6, some v])) (h : Q v s) : wpAny M A (loadName (envOf cn sc_znormalize L a cd) (Str.ofString "t")) Q E s := ldn F ((fm_get ix_znormalize_t).trans rfl) h rfl kl_znormalize_t
theorem st_znormalize_t {Q : Unit → Shared → Prop} (F : Fr h₀ L s.heap (fm nm_znormalize [o0, o1, o2, o3, o4, o5, o6, o7])) (N : News h₀ L s.heap news) (h : ∀ h' k', Fr h₀ L h' (fm nm_znormalize [o0, o1, o2, o3, o4, o5, o6, some v]) → News h₀ L h' news → Q () { s with heap := h', toks := k' }) : wpAny M A (storeName (envOf cn sc_znormalize L a cd) (Str.ofString "t") v) Q E s := r_st F N (fun h' k' F' N' => h h' k' (by rw [fm_set ix_znormalize_t (by decide) rfl] at F'; exact F') N') rfl kl_znormalize_t
end
end Mine

local macro_rules | `(tactic| walk_at "eval Name") => `(tactic| (
  k_here; with_reducible (first
   | (refine' ld_znormalize_sign ?hF9 ?_; (case hF9 => assumption))
   | (refine' ld_znormalize_man ?hF9 ?_; (case hF9 => assumption))
   | (refine' ld_znormalize_exp ?hF9 ?_; (case hF9 => assumption))
   | (refine' ld_znormalize_bc ?hF9 ?_; (case hF9 => assumption))
   | (refine' ld_znormalize_prec ?hF9 ?_; (case hF9 => assumption))
   | (refine' ld_znormalize_rnd ?hF9 ?_; (case hF9 => assumption))
   | (refine' ld_znormalize_n ?hF9 ?_; (case hF9 => assumption))
   | (refine' ld_znormalize_t ?hF9 ?_; (case hF9 => assumption))
   | (refine' gname gl_fzero hd_fzero ?hF9 ?hX9 ?hT9 rfl kl_znormalize_fzero ?_; (case hF9 => assumption); (case hX9 => assumption); (case hT9 => assumption))
   | (refine' gname gl_round_nearest hd_round_nearest ?hF9 ?hX9 ?hT9 rfl kl_znormalize_round_nearest ?_; (case hF9 => assumption); (case hX9 => assumption); (case hT9 => assumption))
   | (refine' gname gl_MPZ_ONE hd_MPZ_ONE ?hF9 ?hX9 ?hT9 rfl kl_znormalize_MPZ_ONE ?_; (case hF9 => assumption); (case hX9 => assumption); (case hT9 => assumption))
   | (refine' gname gl_shifts_down hd_shifts_down ?hF9 ?hX9 ?hT9 rfl kl_znormalize_shifts_down ?_; (case hF9 => assumption); (case hX9 => assumption); (case hT9 => assumption))
   | (refine' gname gl_trailing hd_trailing ?hF9 ?hX9 ?hT9 rfl kl_znormalize_trailing ?_; (case hF9 => assumption); (case hX9 => assumption); (case hT9 => assumption)))))
local macro_rules | `(tactic| walk_at "loadName") => `(tactic| (
  k_here; with_reducible (first
   | (refine' ldn_znormalize_sign ?hF9 ?_; (case hF9 => assumption))
   | (refine' ldn_znormalize_man ?hF9 ?_; (case hF9 => assumption))
   | (refine' ldn_znormalize_exp ?hF9 ?_; (case hF9 => assumption))
   | (refine' ldn_znormalize_bc ?hF9 ?_; (case hF9 => assumption))
   | (refine' ldn_znormalize_prec ?hF9 ?_; (case hF9 => assumption))
   | (refine' ldn_znormalize_rnd ?hF9 ?_; (case hF9 => assumption))
   | (refine' ldn_znormalize_n ?hF9 ?_; (case hF9 => assumption))
   | (refine' ldn_znormalize_t ?hF9 ?_; (case hF9 => assumption)))))
local macro_rules | `(tactic| walk_at "storeName") => `(tactic| (
  k_here; with_reducible (first
   | (refine' st_znormalize_sign ?hF9 ?hN9 ?_; (case hF9 => assumption); (case hN9 => assumption); intro _ _ _ _; (try dsimp only); (try k_sweep))
   | (refine' st_znormalize_man ?hF9 ?hN9 ?_; (case hF9 => assumption); (case hN9 => assumption); intro _ _ _ _; (try dsimp only); (try k_sweep))
   | (refine' st_znormalize_exp ?hF9 ?hN9 ?_; (case hF9 => assumption); (case hN9 => assumption); intro _ _ _ _; (try dsimp only); (try k_sweep))
   | (refine' st_znormalize_bc ?hF9 ?hN9 ?_; (case hF9 => assumption); (case hN9 => assumption); intro _ _ _ _; (try dsimp only); (try k_sweep))
   | (refine' st_znormalize_prec ?hF9 ?hN9 ?_; (case hF9 => assumption); (case hN9 => assumption); intro _ _ _ _; (try dsimp only); (try k_sweep))
   | (refine' st_znormalize_rnd ?hF9 ?hN9 ?_; (case hF9 => assumption); (case hN9 => assumption); intro _ _ _ _; (try dsimp only); (try k_sweep))
   | (refine' st_znormalize_n ?hF9 ?hN9 ?_; (case hF9 => assumption); (case hN9 => assumption); intro _ _ _ _; (try dsimp only); (try k_sweep))
   | (refine' st_znormalize_t ?hF9 ?hN9 ?_; (case hF9 => assumption); (case hN9 => assumption); intro _ _ _ _; (try dsimp only); (try k_sweep)))))
set_option hygiene false in
local macro_rules | `(tactic| walk_at "M base") => `(tactic| (
  (rename Fr _ _ _ _ => F1);
  (replace F1 := base_znormalize F1)))

namespace Mine
theorem normF_eq (sg man ex bc prec : Int) (rnd : Str) : normF sg man ex bc prec rnd = oneF (if 0 < bc - prec then stripF (roundF sg man bc prec rnd) (ex + (bc - prec)) prec else stripF man ex bc) := rfl
set_option maxHeartbeats 40000000 in
theorem c_normalize0 (sg man ex bc prec : Int) (rnd : Str) (t1 t2 t3 t4 t5 t6 : Tok) (hm : 0 < man) (news : List (Addr × Obj)) (hs : sg = 0 ∨ sg = 1) (hp : 1 ≤ prec) (hb : bc ≤ 100000) (hw : WayOk rnd) :
   Ctr 39 [.int sg t1, .int man t2, .int ex t3, .int bc t4, .int prec t5, .str rnd t6] 2 news
     (fun r ne => ∃ b t1 t2 t3 t4 m e c, r = .ref b ∧ ne = (b, { cls := .type "tuple", data := .seq #[.int sg t1, .int m t2, .int e t3, .int c t4] }) :: news ∧ (∀ p ∈ news, p.1 < b) ∧ normF sg man ex bc prec rnd = (m, e, c)) (fun _ => False) := by
  walk_at "M enter"
  walk_at "M base"
  k_steps
  all_goals first
    | (exfalso; omega)
    | (walk_at "M ret"; walk_at "M is"; refine ⟨_, _, _, _, _, _, _, _, rfl, rfl, by assumption, ?_⟩
       law_clear
       try simp only [beq_iff_eq, beq_eq_false_iff_ne, ne_eq] at *
       simp_all only [normF, oneF, stripF, roundF, ↓reduceIte, not_false_eq_true, not_true_eq_false, ne_eq, and_self, and_true, true_and, or_true, true_or, or_self, and_false, false_and, or_false, false_or]
       done)
    | fail
set_option maxHeartbeats 40000000 in
theorem c_normalize00 (sg ex bc prec : Int) (rnd : Str) (t1 t2 t3 t4 t5 t6 : Tok) (news : List (Addr × Obj)) :
   Ctr 39 [.int sg t1, .int 0 t2, .int ex t3, .int bc t4, .int prec t5, .str rnd t6] 2 news (fun r ne => r = .ref 22 ∧ ne = news) (fun _ => False) := by
  walk_at "M enter"
  walk_at "M base"
  k_steps
  all_goals first
    | (walk_at "M ret"; exact ⟨rfl, rfl⟩)
    | fail
end Mine
end
--CON
set_option hygiene false in
local macro_rules | `(tactic| walk_at "call ref") => `(tactic| (
  k_here; (with_reducible show wpAny _ _ (call (Value.ref 39) _) _ _ _);
  (refine' Ctr.use (c_normalize0 _ _ _ _ _ _ _ _ _ _ _ _ ?cp _ ?cs ?cq ?cb ?cw) ?cB ?cF ?cX ?cN ?cT ?cK ?cD ?cU (fun _ _ _ _ _ h => h.elim) ?_);
  (case cp => omega); (case cs => assumption); (case cq => omega); (case cb => omega); (case cw => assumption); walk_at "M use";
  intro r9 ne9 h9 k9 F9 N9 hr9; obtain ⟨b9, t19, t29, t39, t49, m9, e9, c9, rfl, rfl, l9, n9⟩ := hr9; (try dsimp only)))
set_option hygiene false in
local macro_rules | `(tactic| walk_at "call ref") => `(tactic| (
  k_here; (with_reducible show wpAny _ _ (call (Value.ref 39) [Value.int _ _, Value.int 0 _, Value.int _ _, Value.int _ _, Value.int _ _, Value.str _ _]) _ _ _);
  (refine' Ctr.use (c_normalize00 _ _ _ _ _ _ _ _ _ _ _ _) ?cB ?cF ?cX ?cN ?cT ?cK ?cD ?cU (fun _ _ _ _ _ h => h.elim) ?_); walk_at "M use";
  intro r9 ne9 h9 k9 F9 N9 hr9; obtain ⟨rfl, rfl⟩ := hr9; (try dsimp only)))
--END

section
namespace Mine
theorem hd__normalize : (Str.ofString "_normalize" == ("__debug__" : Str)) = false := by decide +kernel
theorem gl__normalize (P : Params) : nsIn (Mine.hd.heap_39 P) mainGlobals (Str.ofString "_normalize") = some (some (.ref 39)) := by kernel_rfl!
abbrev sc_normalize : Scope := { kind := .function, names := [(Str.ofString "sign", .local), (Str.ofString "man", .local), (Str.ofString "exp", .local), (Str.ofString "bc", .local), (Str.ofString "prec", .local), (Str.ofString "rnd", .local), (Str.ofString "_normalize", .globalImplicit)], isGenerator := false, isCoroutine := false, more := [] }
theorem kl_normalize_sign {cn : Str} {L a : Addr} {cd : Value} : (envOf cn sc_normalize L a cd).kindOf (Str.ofString "sign") = some .local := by kernel_rfl!
theorem kl_normalize_man {cn : Str} {L a : Addr} {cd : Value} : (envOf cn sc_normalize L a cd).kindOf (Str.ofString "man") = some .local := by kernel_rfl!
theorem kl_normalize_exp {cn : Str} {L a : Addr} {cd : Value} : (envOf cn sc_normalize L a cd).kindOf (Str.ofString "exp") = some .local := by kernel_rfl!
theorem kl_normalize_bc {cn : Str} {L a : Addr} {cd : Value} : (envOf cn sc_normalize L a cd).kindOf (Str.ofString "bc") = some .local := by kernel_rfl!
theorem kl_normalize_prec {cn : Str} {L a : Addr} {cd : Value} : (envOf cn sc_normalize L a cd).kindOf (Str.ofString "prec") = some .local := by kernel_rfl!
theorem kl_normalize_rnd {cn : Str} {L a : Addr} {cd : Value} : (envOf cn sc_normalize L a cd).kindOf (Str.ofString "rnd") = some .local := by kernel_rfl!
theorem kl_normalize__normalize {cn : Str} {L a : Addr} {cd : Value} : (envOf cn sc_normalize L a cd).kindOf (Str.ofString "_normalize") = some .globalImplicit := by kernel_rfl!
def nm_normalize : List Str := [Str.ofString "sign", Str.ofString "man", Str.ofString "exp", Str.ofString "bc", Str.ofString "prec", Str.ofString "rnd"]
theorem ix_normalize_sign : nm_normalize.idxOf (Str.ofString "sign") = 0 := by decide +kernel
theorem ix_normalize_man : nm_normalize.idxOf (Str.ofString "man") = 1 := by decide +kernel
theorem ix_normalize_exp : nm_normalize.idxOf (Str.ofString "exp") = 2 := by decide +kernel
theorem ix_normalize_bc : nm_normalize.idxOf (Str.ofString "bc") = 3 := by decide +kernel
theorem ix_normalize_prec : nm_normalize.idxOf (Str.ofString "prec") = 4 := by decide +kernel
theorem ix_normalize_rnd : nm_normalize.idxOf (Str.ofString "rnd") = 5 := by decide +kernel
theorem nd_normalize : ([Str.ofString "sign", Str.ofString "man", Str.ofString "exp", Str.ofString "bc", Str.ofString "prec", Str.ofString "rnd"] : List Str).Nodup := by decide +kernel
section
variable {M : Model} {A : Around} {E : Value → Shared → Prop} {s : Shared} {cn : Str} {L a : Addr} {cd : Value} {h₀ : Heap} {news : List (Addr × Obj)} {v : Value} {pos : Pos} {o0 o1 o2 o3 o4 o5 : Option Value}
theorem base_normalize {h : Heap} {v0 v1 v2 v3 v4 v5 : Value} (F : Fr h₀ L h (fun y => List.lookup y (List.zip [Str.ofString "sign", Str.ofString "man", Str.ofString "exp", Str.ofString "bc", Str.ofString "prec", Str.ofString "rnd"] [v0, v1, v2, v3, v4, v5]).reverse)) : Fr h₀ L h (fm nm_normalize [some v0, some v1, some v2, some v3, some v4, some v5]) := by
  rw [fm_base (ns₂ := []) (k := 0) nd_normalize rfl] at F
  exact F
theorem ld_normalize_sign {Q : Value → Shared → Prop} (F : Fr h₀ L s.heap (fm nm_normalize [some v, o1, o2, o3, o4, o5])) (h : Q v s) : wpAny M A (eval (.Name (Str.ofString "sign") pos) (envOf cn sc_normalize L a cd)) Q E s := ld F ((fm_get ix_normalize_sign).trans rfl) h rfl kl_normalize_sign hd_sign
theorem ldn_normalize_sign {Q : Value → Shared → Prop} (F : Fr h₀ L s.heap (fm nm_normalize [some v, o1, o2, o3, o4, o5])) (h : Q v s) : wpAny M A (loadName (envOf cn sc_normalize L a cd) (Str.ofString "sign")) Q E s := ldn F ((fm_get ix_normalize_sign).trans rfl) h rfl kl_normalize_sign
theorem st_normalize_sign {Q : Unit → Shared → Prop} (F : Fr h₀ L s.heap (fm nm_normalize [o0, o1, o2, o3, o4, o5])) (N : News h₀ L s.heap news) (h : ∀ h' k', Fr h₀ L h' (fm nm_normalize [some v, o1, o2, o3, o4, o5]) → News h₀ L h' news → Q () { s with heap := h', toks := k' }) : wpAny M A (storeName (envOf cn sc_normalize L a cd) (Str.ofString "sign") v) Q E s := r_st F N (fun h' k' F' N' => h h' k' (by rw [fm_set ix_normalize_sign (by decide) rfl] at F'; exact F') N') rfl kl_normalize_sign
theorem ld_normalize_man {Q : Value → Shared → Prop} (F : Fr h₀ L s.heap (fm nm_normalize [o0, some v, o2, o3, o4, o5])) (h : Q v s) : wpAny M A (eval (.Name (Str.ofString "man") pos) (envOf cn sc_normalize L a cd)) Q E s := ld F ((fm_get ix_normalize_man).trans rfl) h rfl kl_normalize_man hd_man
theorem ldn_normalize_man {Q : Value → Shared → Prop} (F : Fr h₀ L s.heap (fm nm_normalize [o0, some v, o2, o3, o4, o5])) (h : Q v s) : wpAny M A (loadName (envOf cn sc_normalize L a cd) (Str.ofString "man")) Q E s := ldn F ((fm_get ix_normalize_man).trans rfl) h rfl kl_normalize_man
theorem st_normalize_man {Q : Unit → Shared → Prop} (F : Fr h₀ L s.heap (fm nm_normalize [o0, o1, o2, o3, o4, o5])) (N : News h₀ L s.heap news) (h : ∀ h' k', Fr h₀ L h' (fm nm_normalize [o0, some v, o2, o3, o4, o5]) → News h₀ L h' news → Q () { s with heap := h', toks := k' }) : wpAny M A (storeName (envOf cn sc_normalize L a cd) (Str.ofString "man") v) Q E s := r_st F N (fun h' k' F' N' => h h' k' (by rw [fm_set ix_normalize_man (by decide) rfl] at F'; exact F') N') rfl kl_normalize_man
theorem ld_normalize_exp {Q : Value → Shared → Prop} (F : Fr h₀ L s.heap (fm nm_normalize [o0, o1, some v, o3, o4, o5])) (h : Q v s) : wpAny M A (eval (.Name (Str.ofString "exp") pos) (envOf cn sc_normalize L a cd)) Q E s := ld F ((fm_get ix_normalize_exp).trans rfl) h rfl kl_normalize_exp hd_exp
theorem ldn_normalize_exp {Q : Value → Shared → Prop} (F : Fr h₀ L s.heap (fm nm_normalize [o0, o1, some v, o3, o4, o5])) (h : Q v s) : wpAny M A (loadName (envOf cn sc_normalize L a cd) (Str.ofString "exp")) Q E s := ldn F ((fm_get ix_normalize_exp).trans rfl) h rfl kl_normalize_exp
theorem st_normalize_exp {Q : Unit → Shared → Prop} (F : Fr h₀ L s.heap (fm nm_normalize [o0, o1, o2, o3, o4, o5])) (N : News h₀ L s.heap news) (h : ∀ h' k', Fr h₀ L h' (fm nm_normalize [o0, o1, some v, o3, o4, o5]) → News h₀ L h' news → Q () { s with heap := h', toks := k' }) : wpAny M A (storeName (envOf cn sc_normalize L a cd) (Str.ofString "exp") v) Q E s := r_st F N (fun h' k' F' N' => h h' k' (by rw [fm_set ix_normalize_exp (by decide) rfl] at F'; exact F') N') rfl kl_normalize_exp
theorem ld_normalize_bc {Q : Value → Shared → Prop} (F : Fr h₀ L s.heap (fm nm_normalize [o0, o1, o2, some v, o4, o5])) (h : Q v s) : wpAny M A (eval (.Name (Str.ofString "bc") pos) (envOf cn sc_normalize L a cd)) Q E s := ld F ((fm_get ix_normalize_bc).trans rfl) h rfl kl_normalize_bc hd_bc
theorem ldn_normalize_bc {Q : Value → Shared → Prop} (F : Fr h₀ L s.heap (fm nm_normalize [o0, o1, o2, some v, o4, o5])) (h : Q v s) : wpAny M A (loadName (envOf cn sc_normalize L a cd) (Str.ofString "bc")) Q E s := ldn F ((fm_get ix_normalize_bc).trans rfl) h rfl kl_normalize_bc
theorem st_normalize_bc {Q : Unit → Shared → Prop} (F : Fr h₀ L s.heap (fm nm_normalize [o0, o1, o2, o3, o4, o5])) (N : News h₀ L s.heap news) (h : ∀ h' k', Fr h₀ L h' (fm nm_normalize [o0, o1, o2, some v, o4, o5]) → News h₀ L h' news → Q () { s with heap := h', toks := k' }) : wpAny M A (storeName (envOf cn sc_normalize L a cd) (Str.ofString "bc") v) Q E s := r_st F N (fun h' k' F' N' => h h' k' (by rw [fm_set ix_normalize_bc (by decide) rfl] at F'; exact F') N') rfl kl_normalize_bc
theorem ld_normalize_prec {Q : Value → Shared → Prop} (F : Fr h₀ L s.heap (fm nm_normalize [o0, o1, o2, o3, some v, o5])) (h : Q v s) : wpAny M A (eval (.Name (Str.ofString "prec") pos) (envOf cn sc_normalize L a cd)) Q E s := ld F ((fm_get ix_normalize_prec).trans rfl) h rfl kl_normalize_prec hd_prec
theorem ldn_normalize_prec {Q : Value → Shared → Prop} (F : Fr h₀ L s.heap (fm nm_normalize [o0, o1, o2, o3, some v, o5])) (h : Q v s) : wpAny M A (loadName (envOf cn sc_normalize L a cd) (Str.ofString "prec")) Q E s := ldn F ((fm_get ix_normalize_prec).trans rfl) h rfl kl_normalize_prec
theorem st_normalize_prec {Q : Unit → Shared → Prop} (F : Fr h₀ L s.heap (fm nm_normalize [o0, o1, o2, o3, o4, o5])) (N : News h₀ L s.heap news) (h : ∀ h' k', Fr h₀ L h' (fm nm_normalize [o0, o1, o2, o3, some v, o5]) → News h₀ L h' news → Q () { s with heap := h', toks := k' }) : wpAny M A (storeName (envOf cn sc_normalize L a cd) (Str.ofString "prec") v) Q E s := r_st F N (fun h' k' F' N' => h h' k' (by rw [fm_set ix_normalize_prec (by decide) rfl] at F'; exact F') N') rfl kl_normalize_prec
theorem ld_normalize_rnd {Q : Value → Shared → Prop} (F : Fr h₀ L s.heap (fm nm_normalize [o0, o1, o2, o3, o4, some v])) (h : Q v s) : wpAny M A (eval (.Name (Str.ofString "rnd") pos) (envOf cn sc_normalize L a cd)) Q E s := ld F ((fm_get ix_normalize_rnd).trans rfl) h rfl kl_normalize_rnd hd_rnd
theorem ldn_normalize_rnd {Q : Value → Shared → Prop} (F : Fr h₀ L s.heap (fm nm_normalize [o0, o1, o2, o3, o4, some v])) (h : Q v s) : wpAny M A (loadName (envOf cn sc_normalize L a cd) (Str.ofString "rnd")) Q E s := ldn F ((fm_get ix_normalize_rnd).trans rfl) h rfl kl_normalize_rnd
theorem st_normalize_rnd {Q : Unit → Shared → Prop} (F : Fr h₀ L s.heap (fm nm_normalize [o0, o1, o2, o3, o4, o5])) (N : News h₀ L s.heap news) (h : ∀ h' k', Fr h₀ L h' (fm nm_normalize [o0, o1, o2, o3, o4, some v]) → News h₀ L h' news → Q () { s with heap := h', toks := k' }) : wpAny M A (storeName (envOf cn sc_normalize L a cd) (Str.ofString "rnd") v) Q E s := r_st F N (fun h' k' F' N' => h h' k' (by rw [fm_set ix_normalize_rnd (by decide) rfl] at F'; exact F') N') rfl kl_normalize_rnd
end
end Mine

local macro_rules | `(tactic| walk_at "eval Name") => `(tactic| (
  k_here; with_reducible (first
   | (refine' ld_normalize_sign ?hF9 ?_; (case hF9 => assumption))
   | (refine' ld_normalize_man ?hF9 ?_; (case hF9 => assumption))
   | (refine' ld_normalize_exp ?hF9 ?_; (case hF9 => assumption))
   | (refine' ld_normalize_bc ?hF9 ?_; (case hF9 => assumption))
   | (refine' ld_normalize_prec ?hF9 ?_; (case hF9 => assumption))
   | (refine' ld_normalize_rnd ?hF9 ?_; (case hF9 => assumption))
   | (refine' gname gl__normalize hd__normalize ?hF9 ?hX9 ?hT9 rfl kl_normalize__normalize ?_; (case hF9 => assumption); (case hX9 => assumption); (case hT9 => assumption)))))
local macro_rules | `(tactic| walk_at "loadName") => `(tactic| (
  k_here; with_reducible (first
   | (refine' ldn_normalize_sign ?hF9 ?_; (case hF9 => assumption))
   | (refine' ldn_normalize_man ?hF9 ?_; (case hF9 => assumption))
   | (refine' ldn_normalize_exp ?hF9 ?_; (case hF9 => assumption))
   | (refine' ldn_normalize_bc ?hF9 ?_; (case hF9 => assumption))
   | (refine' ldn_normalize_prec ?hF9 ?_; (case hF9 => assumption))
   | (refine' ldn_normalize_rnd ?hF9 ?_; (case hF9 => assumption)))))
local macro_rules | `(tactic| walk_at "storeName") => `(tactic| (
  k_here; with_reducible (first
   | (refine' st_normalize_sign ?hF9 ?hN9 ?_; (case hF9 => assumption); (case hN9 => assumption); intro _ _ _ _; (try dsimp only); (try k_sweep))
   | (refine' st_normalize_man ?hF9 ?hN9 ?_; (case hF9 => assumption); (case hN9 => assumption); intro _ _ _ _; (try dsimp only); (try k_sweep))
   | (refine' st_normalize_exp ?hF9 ?hN9 ?_; (case hF9 => assumption); (case hN9 => assumption); intro _ _ _ _; (try dsimp only); (try k_sweep))
   | (refine' st_normalize_bc ?hF9 ?hN9 ?_; (case hF9 => assumption); (case hN9 => assumption); intro _ _ _ _; (try dsimp only); (try k_sweep))
   | (refine' st_normalize_prec ?hF9 ?hN9 ?_; (case hF9 => assumption); (case hN9 => assumption); intro _ _ _ _; (try dsimp only); (try k_sweep))
   | (refine' st_normalize_rnd ?hF9 ?hN9 ?_; (case hF9 => assumption); (case hN9 => assumption); intro _ _ _ _; (try dsimp only); (try k_sweep)))))
set_option hygiene false in
local macro_rules | `(tactic| walk_at "M base") => `(tactic| (
  (rename Fr _ _ _ _ => F1);
  (replace F1 := base_normalize F1)))

namespace Mine
set_option maxHeartbeats 40000000 in
theorem c_normalize (sg man ex bc prec : Int) (rnd : Str) (t1 t2 t3 t4 t5 t6 : Tok) (hm : 0 < man) (news : List (Addr × Obj)) (hs : sg = 0 ∨ sg = 1) (hp : 1 ≤ prec) (hbc : Is bc (bl man)) (hb : bc ≤ 100000) (hw : WayOk rnd) :
   Ctr 46 [.int sg t1, .int man t2, .int ex t3, .int bc t4, .int prec t5, .str rnd t6] 3 news
     (fun r ne => ∃ b t1 t2 t3 t4 m e c, r = .ref b ∧ ne = (b, { cls := .type "tuple", data := .seq #[.int sg t1, .int m t2, .int e t3, .int c t4] }) :: news ∧ (∀ p ∈ news, p.1 < b) ∧ normF sg man ex bc prec rnd = (m, e, c)) (fun _ => False) := by
  walk_at "M enter"
  walk_at "M base"
  k_steps
  all_goals first
    | (walk_at "M ret"; exact ⟨_, _, _, _, _, _, _, _, rfl, rfl, by assumption, by assumption⟩)
    | fail
set_option maxHeartbeats 40000000 in
theorem c_normalize_0 (sg ex prec : Int) (rnd : Str) (t1 t2 t3 t4 t5 t6 : Tok) (news : List (Addr × Obj)) :
   Ctr 46 [.int sg t1, .int 0 t2, .int ex t3, .int 0 t4, .int prec t5, .str rnd t6] 3 news (fun r ne => r = .ref 22 ∧ ne = news) (fun _ => False) := by
  have hz : Is (0 : Int) (bl 0) := ⟨rfl⟩
  walk_at "M enter"
  walk_at "M base"
  k_steps
  all_goals first
    | (walk_at "M ret"; exact ⟨rfl, rfl⟩)
    | fail
end Mine
end
--CON
set_option hygiene false in
local macro_rules | `(tactic| walk_at "call ref") => `(tactic| (
  k_here; (with_reducible show wpAny _ _ (call (Value.ref 46) _) _ _ _);
  (refine' Ctr.use (c_normalize _ _ _ _ _ _ _ _ _ _ _ _ ?cp _ ?cs ?cq ?ci ?cb ?cw) ?cB ?cF ?cX ?cN ?cT ?cK ?cD ?cU (fun _ _ _ _ _ h => h.elim) ?_);
  (case cp => omega); (case cs => first | assumption | decide); (case cq => omega); (case ci => assumption);
  (case cb => first | omega | ((rename Is _ (bl _) => hq9); rw [hq9.out]; first | assumption | (rw [bl_neg]; assumption) | omega | (refine Int.le_trans (bl_succ (by omega)) ?_; omega)));
  (case cw => assumption); walk_at "M use";
  intro r9 ne9 h9 k9 F9 N9 hr9; obtain ⟨b9, t19, t29, t39, t49, m9, e9, c9, rfl, rfl, l9, n9⟩ := hr9; (try dsimp only)))
set_option hygiene false in
local macro_rules | `(tactic| walk_at "call ref") => `(tactic| (
  k_here; (with_reducible show wpAny _ _ (call (Value.ref 46) [Value.int _ _, Value.int 0 _, Value.int _ _, Value.int 0 _, Value.int _ _, Value.str _ _]) _ _ _);
  (refine' Ctr.use (c_normalize_0 _ _ _ _ _ _ _ _ _ _ _) ?cB ?cF ?cX ?cN ?cT ?cK ?cD ?cU (fun _ _ _ _ _ h => h.elim) ?_); walk_at "M use";
  intro r9 ne9 h9 k9 F9 N9 hr9; obtain ⟨rfl, rfl⟩ := hr9; (try dsimp only)))
--END

section
namespace Mine
theorem hd_TypeError : (Str.ofString "TypeError" == ("__debug__" : Str)) = false := by decide +kernel
theorem hd_int : (Str.ofString "int" == ("__debug__" : Str)) = false := by decide +kernel
theorem hd_isinstance : (Str.ofString "isinstance" == ("__debug__" : Str)) = false := by decide +kernel
theorem hd_normalize : (Str.ofString "normalize" == ("__debug__" : Str)) = false := by decide +kernel
theorem bl_isinstance (P : Params) : nsIn (Mine.hd.heap_39 P) mainGlobals (Str.ofString "isinstance") = some none := by kernel_rfl!
theorem bv_isinstance : bootBuiltins (Str.ofString "isinstance") = some (.builtin "isinstance") := by boot_by_name
theorem bn_isinstance : (Str.ofString "isinstance") ≠ ("__name__" : Str) := by decide +kernel
theorem bl_int (P : Params) : nsIn (Mine.hd.heap_39 P) mainGlobals (Str.ofString "int") = some none := by kernel_rfl!
theorem bv_int : bootBuiltins (Str.ofString "int") = some (.type "int") := by boot_by_name
theorem bn_int : (Str.ofString "int") ≠ ("__name__" : Str) := by decide +kernel
theorem bl_TypeError (P : Params) : nsIn (Mine.hd.heap_39 P) mainGlobals (Str.ofString "TypeError") = some none := by kernel_rfl!
theorem bv_TypeError : bootBuiltins (Str.ofString "TypeError") = some (.type "TypeError") := by boot_by_name
theorem bn_TypeError : (Str.ofString "TypeError") ≠ ("__name__" : Str) := by decide +kernel
theorem gl_normalize (P : Params) : nsIn (Mine.hd.heap_39 P) mainGlobals (Str.ofString "normalize") = some (some (.ref 46)) := by kernel_rfl!
abbrev sc_from_man_exp : Scope := { kind := .function, names := [(Str.ofString "man", .local), (Str.ofString "exp", .local), (Str.ofString "prec", .local), (Str.ofString "rnd", .local), (Str.ofString "sign", .local), (Str.ofString "bc", .local), (Str.ofString "t", .local), (Str.ofString "isinstance", .globalImplicit), (Str.ofString "int", .globalImplicit), (Str.ofString "TypeError", .globalImplicit), (Str.ofString "fzero", .globalImplicit), (Str.ofString "trailing", .globalImplicit), (Str.ofString "normalize", .globalImplicit)], isGenerator := false, isCoroutine := false, more := [] }
theorem kl_from_man_exp_man {cn : Str} {L a : Addr} {cd : Value} : (envOf cn sc_from_man_exp L a cd).kindOf (Str.ofString "man") = some .local := by kernel_rfl!
theorem kl_from_man_exp_exp {cn : Str} {L a : Addr} {cd : Value} : (envOf cn sc_from_man_exp L a cd).kindOf (Str.ofString "exp") = some .local := by kernel_rfl!
theorem kl_from_man_exp_prec {cn : Str} {L a : Addr} {cd : Value} : (envOf cn sc_from_man_exp L a cd).kindOf (Str.ofString "prec") = some .local := by kernel_rfl!
theorem kl_from_man_exp_rnd {cn : Str} {L a : Addr} {cd : Value} : (envOf cn sc_from_man_exp L a cd).kindOf (Str.ofString "rnd") = some .local := by kernel_rfl!
theorem kl_from_man_exp_sign {cn : Str} {L a : Addr} {cd : Value} : (envOf cn sc_from_man_exp L a cd).kindOf (Str.ofString "sign") = some .local := by kernel_rfl!
theorem kl_from_man_exp_bc {cn : Str} {L a : Addr} {cd : Value} : (envOf cn sc_from_man_exp L a cd).kindOf (Str.ofString "bc") = some .local := by kernel_rfl!
theorem kl_from_man_exp_t {cn : Str} {L a : Addr} {cd : Value} : (envOf cn sc_from_man_exp L a cd).kindOf (Str.ofString "t") = some .local := by kernel_rfl!
theorem kl_from_man_exp_isinstance {cn : Str} {L a : Addr} {cd : Value} : (envOf cn sc_from_man_exp L a cd).kindOf (Str.ofString "isinstance") = some .globalImplicit := by kernel_rfl!
theorem kl_from_man_exp_int {cn : Str} {L a : Addr} {cd : Value} : (envOf cn sc_from_man_exp L a cd).kindOf (Str.ofString "int") = some .globalImplicit := by kernel_rfl!
theorem kl_from_man_exp_TypeError {cn : Str} {L a : Addr} {cd : Value} : (envOf cn sc_from_man_exp L a cd).kindOf (Str.ofString "TypeError") = some .globalImplicit := by kernel_rfl!
theorem kl_from_man_exp_fzero {cn : Str} {L a : Addr} {cd : Value} : (envOf cn sc_from_man_exp L a cd).kindOf (Str.ofString "fzero") = some .globalImplicit := by kernel_rfl!
theorem kl_from_man_exp_trailing {cn : Str} {L a : Addr} {cd : Value} : (envOf cn sc_from_man_exp L a cd).kindOf (Str.ofString "trailing") = some .globalImplicit := by kernel_rfl!
theorem kl_from_man_exp_normalize {cn : Str} {L a : Addr} {cd : Value} : (envOf cn sc_from_man_exp L a cd).kindOf (Str.ofString "normalize") = some .globalImplicit := by kernel_rfl!
def nm_from_man_exp : List Str := [Str.ofString "man", Str.ofString "exp", Str.ofString "prec", Str.ofString "rnd", Str.ofString "sign", Str.ofString "bc", Str.ofString "t"]
theorem ix_from_man_exp_man : nm_from_man_exp.idxOf (Str.ofString "man") = 0 := by decide +kernel
theorem ix_from_man_exp_exp : nm_from_man_exp.idxOf (Str.ofString "exp") = 1 := by decide +kernel
theorem ix_from_man_exp_prec : nm_from_man_exp.idxOf (Str.ofString "prec") = 2 := by decide +kernel
theorem ix_from_man_exp_rnd : nm_from_man_exp.idxOf (Str.ofString "rnd") = 3 := by decide +kernel
theorem ix_from_man_exp_sign : nm_from_man_exp.idxOf (Str.ofString "sign") = 4 := by decide +kernel
theorem ix_from_man_exp_bc : nm_from_man_exp.idxOf (Str.ofString "bc") = 5 := by decide +kernel
theorem ix_from_man_exp_t : nm_from_man_exp.idxOf (Str.ofString "t") = 6 := by decide +kernel
theorem nd_from_man_exp : ([Str.ofString "man", Str.ofString "exp", Str.ofString "prec", Str.ofString "rnd"] : List Str).Nodup := by decide +kernel
section
variable {M : Model} {A : Around} {E : Value → Shared → Prop} {s : Shared} {cn : Str} {L a : Addr} {cd : Value} {h₀ : Heap} {news : List (Addr × Obj)} {v : Value} {pos : Pos} {o0 o1 o2 o3 o4 o5 o6 : Option Value}
theorem base_from_man_exp {h : Heap} {v0 v1 v2 v3 : Value} (F : Fr h₀ L h (fun y => List.lookup y (List.zip [Str.ofString "man", Str.ofString "exp", Str.ofString "prec", Str.ofString "rnd"] [v0, v1, v2, v3]).reverse)) : Fr h₀ L h (fm nm_from_man_exp [some v0, some v1, some v2, some v3, none, none, none]) := by
  rw [fm_base (ns₂ := [Str.ofString "sign", Str.ofString "bc", Str.ofString "t"]) (k := 3) nd_from_man_exp rfl] at F
  exact F
theorem ld_from_man_exp_man {Q : Value → Shared → Prop} (F : Fr h₀ L s.heap (fm nm_from_man_exp [some v, o1, o2, o3, o4, o5, o6])) (h : Q v s) : wpAny M A (eval (.Name (Str.ofString "man") pos) (envOf cn sc_from_man_exp L a cd)) Q E s := ld F ((fm_get ix_from_man_exp_man).trans rfl) h rfl kl_from_man_exp_man hd_man
theorem ldn_from_man_exp_man {Q : Value → Shared → Prop} (F : Fr h₀ L s.heap (fm nm_from_man_exp [some v, o1, o2, o3, o4, o5, o6])) (h : Q v s) : wpAny M A (loadName (envOf cn sc_from_man_exp L a cd) (Str.ofString "man")) Q E s := ldn F ((fm_get ix_from_man_exp_man).trans rfl) h rfl kl_from_man_exp_man
theorem st_from_man_exp_man {Q : Unit → Shared → Prop} (F : Fr h₀ L s.heap (fm nm_from_man_exp [o0, o1, o2, o3, o4, o5, o6])) (N : News h₀ L s.heap news) (h : ∀ h' k', Fr h₀ L h' (fm nm_from_man_exp [some v, o1, o2, o3, o4, o5, o6]) → News h₀ L h' news → Q () { s with heap := h', toks := k' }) : wpAny M A (storeName (envOf cn sc_from_man_exp L a cd) (Str.ofString "man") v) Q E s := r_st F N (fun h' k' F' N' => h h' k' (by rw [fm_set ix_from_man_exp_man (by decide) rfl] at F'; exact F') N') rfl kl_from_man_exp_man
theorem ld_from_man_exp_exp {Q : Value → Shared → Prop} (F : Fr h₀ L s.heap (fm nm_from_man_exp [o0, some v, o2, o3, o4, o5, o6])) (h : Q v s) : wpAny M A (eval (.Name (Str.ofString "exp") pos) (envOf cn sc_from_man_exp L a cd)) Q E s := ld F ((fm_get ix_from_man_exp_exp).trans rfl) h rfl kl_from_man_exp_exp hd_exp
theorem ldn_from_man_exp_exp {Q : Value → Shared → Prop} (F : Fr h₀ L s.heap (fm nm_from_man_exp [o0, some v, o2, o3, o4, o5, o6])) (h : Q v s) : wpAny M A (loadName (envOf cn sc_from_man_exp L a cd) (Str.ofString "exp")) Q E s := ldn F ((fm_get ix_from_man_exp_exp).trans rfl) h rfl kl_from_man_exp_exp
theorem st_from_man_exp_exp {Q : Unit → Shared → Prop} (F : Fr h₀ L s.heap (fm nm_from_man_exp [o0, o1, o2, o3, o4, o5, o6])) (N : News h₀ L s.heap news) (h : ∀ h' k', Fr h₀ L h' (fm nm_from_man_exp [o0, some v, o2, o3, o4, o5, o6]) → News h₀ L h' news → Q () { s with heap := h', toks := k' }) : wpAny M A (storeName (envOf cn sc_from_man_exp L a cd) (Str.ofString "exp") v) Q E s := r_st F N (fun h' k' F' N' => h h' k' (by rw [fm_set ix_from_man_exp_exp (by decide) rfl] at F'; exact F') N') rfl kl_from_man_exp_exp
theorem ld_from_man_exp_prec {Q : Value → Shared → Prop} (F : Fr h₀ L s.heap (fm nm_from_man_exp [o0, o1, some v, o3, o4, o5, o6])) (h : Q v s) : wpAny M A (eval (.Name (Str.ofString "prec") pos) (envOf cn sc_from_man_exp L a cd)) Q E s := ld F ((fm_get ix_from_man_exp_prec).trans rfl) h rfl kl_from_man_exp_prec hd_prec
theorem ldn_from_man_exp_prec {Q : Value → Shared → Prop} (F : Fr h₀ L s.heap (fm nm_from_man_exp [o0, o1, some v, o3, o4, o5, o6])) (h : Q v s) : wpAny M A (loadName (envOf cn sc_from_man_exp L a cd) (Str.ofString "prec")) Q E s := ldn F ((fm_get ix_from_man_exp_prec).trans rfl) h rfl kl_from_man_exp_prec
theorem st_from_man_exp_prec {Q : Unit → Shared → Prop} (F : Fr h₀ L s.heap (fm nm_from_man_exp [o0, o1, o2, o3, o4, o5, o6])) (N : News h₀ L s.heap news) (h : ∀ h' k', Fr h₀ L h' (fm nm_from_man_exp [o0, o1, some v, o3, o4, o5, o6]) → News h₀ L h' news → Q () { s with heap := h', toks := k' }) : wpAny M A (storeName (envOf cn sc_from_man_exp L a cd) (Str.ofString "prec") v) Q E s := r_st F N (fun h' k' F' N' => h h' k' (by rw [fm_set ix_from_man_exp_prec (by decide) rfl] at F'; exact F') N') rfl kl_from_man_exp_prec
theorem ld_from_man_exp_rnd {Q : Value → Shared → Prop} (F : Fr h₀ L s.heap (fm nm_from_man_exp [o0, o1, o2, some v, o4, o5, o6])) (h : Q v s) : wpAny M A (eval (.Name (Str.ofString "rnd") pos) (envOf cn sc_from_man_exp L a cd)) Q E s := ld F ((fm_get ix_from_man_exp_rnd).trans rfl) h rfl kl_from_man_exp_rnd hd_rnd
theorem ldn_from_man_exp_rnd {Q : Value → Shared → Prop} (F : Fr h₀ L s.heap (fm nm_from_man_exp [o0, o1, o2, some v, o4, o5, o6])) (h : Q v s) : wpAny M A (loadName (envOf cn sc_from_man_exp L a cd) (Str.ofString "rnd")) Q E s := ldn F ((fm_get ix_from_man_exp_rnd).trans rfl) h rfl kl_from_man_exp_rnd
theorem st_from_man_exp_rnd {Q : Unit → Shared → Prop} (F : Fr h₀ L s.heap (fm nm_from_man_exp [o0, o1, o2, o3, o4, o5, o6])) (N : News h₀ L s.heap news) (h : ∀ h' k', Fr h₀ L h' (fm nm_from_man_exp [o0, o1, o2, some v, o4, o5, o6]) → News h₀ L h' news → Q () { s with heap := h', toks := k' }) : wpAny M A (storeName (envOf cn sc_from_man_exp L a cd) (Str.ofString "rnd") v) Q E s := r_st F N (fun h' k' F' N' => h h' k' (by rw [fm_set ix_from_man_exp_rnd (by decide) rfl] at F'; exact F') N') rfl kl_from_man_exp_rnd
theorem ld_from_man_exp_sign {Q : Value → Shared → Prop} (F : Fr h₀ L s.heap (fm nm_from_man_exp [o0, o1, o2, o3, some v, o5, o6])) (h : Q v s) : wpAny M A (eval (.Name (Str.ofString "sign") pos) (envOf cn sc_from_man_exp L a cd)) Q E s := ld F ((fm_get ix_from_man_exp_sign).trans rfl) h rfl kl_from_man_exp_sign hd_sign
theorem ldn_from_man_exp_sign {Q : Value → Shared → Prop} (F : Fr h₀ L s.heap (fm nm_from_man_exp [o0, o1, o2, o3, some v, o5, o6])) (h : Q v s) : wpAny M A (loadName (envOf cn sc_from_man_exp L a cd) (Str.ofString "sign")) Q E s := ldn F ((fm_get ix_from_man_exp_sign).trans rfl) h rfl kl_from_man_exp_sign
theorem st_from_man_exp_sign {Q : Unit → Shared → Prop} (F : Fr h₀ L s.heap (fm nm_from_man_exp [o0, o1, o2, o3, o4, o5, o6])) (N : News h₀ L s.heap news) (h : ∀ h' k', Fr h₀ L h' (fm nm_from_man_exp [o0, o1, o2, o3, some v, o5, o6]) → News h₀ L h' news → Q () { s with heap := h', toks := k' }) : wpAny M A (storeName (envOf cn sc_from_man_exp L a cd) (Str.ofString "sign") v) Q E s := r_st F N (fun h' k' F' N' => h h' k' (by rw [fm_set ix_from_man_exp_sign (by decide) rfl] at F'; exact F') N') rfl kl_from_man_exp_sign
theorem ld_from_man_exp_bc {Q : Value → Shared → Prop} (F : Fr h₀ L s.heap (fm nm_from_man_exp [o0, o1, o2, o3, o4, some v, o6])) (h : Q v s) : wpAny M A (eval (.Name (Str.ofString "bc") pos) (envOf cn sc_from_man_exp L a cd)) Q E s := ld F ((fm_get ix_from_man_exp_bc).trans rfl) h rfl kl_from_man_exp_bc hd_bc
theorem ldn_from_man_exp_bc {Q : Value → Shared → Prop} (F : Fr h₀ L s.heap (fm nm_from_man_exp [o0, o1, o2, o3, o4, some v, o6])) (h : Q v s) : wpAny M A (loadName (envOf cn sc_from_man_exp L a cd) (Str.ofString "bc")) Q E s := ldn F ((fm_get ix_from_man_exp_bc).trans rfl) h rfl kl_from_man_exp_bc
theorem st_from_man_exp_bc {Q : Unit → Shared → Prop} (F : Fr h₀ L s.heap (fm nm_from_man_exp [o0, o1, o2, o3, o4, o5, o6])) (N : News h₀ L s.heap news) (h : ∀ h' k', Fr h₀ L h' (fm nm_from_man_exp [o0, o1, o2, o3, o4, some v, o6]) → News h₀ L h' news → Q () { s with heap := h', toks := k' }) : wpAny M A (storeName (envOf cn sc_from_man_exp L a cd) (Str.ofString "bc") v) Q E s := r_st F N (fun h' k' F' N' => h h' k' (by rw [fm_set ix_from_man_exp_bc (by decide) rfl] at F'; exact F') N') rfl kl_from_man_exp_bc
theorem ld_from_man_exp_t {Q : Value → Shared → Prop} (F : Fr h₀ L s.heap (fm nm_from_man_exp [o0, o1, o2, o3, o4, o5, some v])) (h : Q v s) : wpAny M A (eval (.Name (Str.ofString "t") pos) (envOf cn sc_from_man_exp L a cd)) Q E s := ld F ((fm_get ix_from_man_exp_t).trans rfl) h rfl kl_from_man_exp_t hd_t
theorem ldn_from_man_exp_t {Q : Value → Shared → Prop} (F : Fr h₀ L s.heap (fm nm_from_man_exp [o0, o1, o2, o3, o4, o5, some v])) (h : Q v s) : wpAny M A (loadName (envOf cn sc_from_man_exp L a cd) (Str.ofString "t")) Q E s := ldn F ((fm_get ix_from_man_exp_t).trans rfl) h rfl kl_from_man_exp_t
theorem st_from_man_exp_t {Q : Unit → Shared → Prop} (F : Fr h₀ L s.heap (fm nm_from_man_exp [o0, o1, o2, o3, o4, o5, o6])) (N : News h₀ L s.heap news) (h : ∀ h' k', Fr h₀ L h' (fm nm_from_man_exp [o0, o1, o2, o3, o4, o5, some v]) → News h₀ L h' news → Q () { s with heap := h', toks := k' }) : wpAny M A (storeName (envOf cn sc_from_man_exp L a cd) (Str.ofString "t") v) Q E s := r_st F N (fun h' k' F' N' => h h' k' (by rw [fm_set ix_from_man_exp_t (by decide) rfl] at F'; exact F') N') rfl kl_from_man_exp_t
end
end Mine

local macro_rules | `(tactic| walk_at "eval Name") => `(tactic| (
  k_here; with_reducible (first
   | (refine' ld_from_man_exp_man ?hF9 ?_; (case hF9 => assumption))
   | (refine' ld_from_man_exp_exp ?hF9 ?_; (case hF9 => assumption))
   | (refine' ld_from_man_exp_prec ?hF9 ?_; (case hF9 => assumption))
   | (refine' ld_from_man_exp_rnd ?hF9 ?_; (case hF9 => assumption))
   | (refine' ld_from_man_exp_sign ?hF9 ?_; (case hF9 => assumption))
   | (refine' ld_from_man_exp_bc ?hF9 ?_; (case hF9 => assumption))
   | (refine' ld_from_man_exp_t ?hF9 ?_; (case hF9 => assumption))
   | (refine' bname bl_isinstance bv_isinstance bn_isinstance hd_isinstance ?hF9 ?hX9 ?hT9 rfl kl_from_man_exp_isinstance ?_; (case hF9 => assumption); (case hX9 => assumption); (case hT9 => assumption))
   | (refine' bname bl_int bv_int bn_int hd_int ?hF9 ?hX9 ?hT9 rfl kl_from_man_exp_int ?_; (case hF9 => assumption); (case hX9 => assumption); (case hT9 => assumption))
   | (refine' bname bl_TypeError bv_TypeError bn_TypeError hd_TypeError ?hF9 ?hX9 ?hT9 rfl kl_from_man_exp_TypeError ?_; (case hF9 => assumption); (case hX9 => assumption); (case hT9 => assumption))
   | (refine' gname gl_fzero hd_fzero ?hF9 ?hX9 ?hT9 rfl kl_from_man_exp_fzero ?_; (case hF9 => assumption); (case hX9 => assumption); (case hT9 => assumption))
   | (refine' gname gl_trailing hd_trailing ?hF9 ?hX9 ?hT9 rfl kl_from_man_exp_trailing ?_; (case hF9 => assumption); (case hX9 => assumption); (case hT9 => assumption))
   | (refine' gname gl_normalize hd_normalize ?hF9 ?hX9 ?hT9 rfl kl_from_man_exp_normalize ?_; (case hF9 => assumption); (case hX9 => assumption); (case hT9 => assumption)))))
local macro_rules | `(tactic| walk_at "loadName") => `(tactic| (
  k_here; with_reducible (first
   | (refine' ldn_from_man_exp_man ?hF9 ?_; (case hF9 => assumption))
   | (refine' ldn_from_man_exp_exp ?hF9 ?_; (case hF9 => assumption))
   | (refine' ldn_from_man_exp_prec ?hF9 ?_; (case hF9 => assumption))
   | (refine' ldn_from_man_exp_rnd ?hF9 ?_; (case hF9 => assumption))
   | (refine' ldn_from_man_exp_sign ?hF9 ?_; (case hF9 => assumption))
   | (refine' ldn_from_man_exp_bc ?hF9 ?_; (case hF9 => assumption))
   | (refine' ldn_from_man_exp_t ?hF9 ?_; (case hF9 => assumption)))))
local macro_rules | `(tactic| walk_at "storeName") => `(tactic| (
  k_here; with_reducible (first
   | (refine' st_from_man_exp_man ?hF9 ?hN9 ?_; (case hF9 => assumption); (case hN9 => assumption); intro _ _ _ _; (try dsimp only); (try k_sweep))
   | (refine' st_from_man_exp_exp ?hF9 ?hN9 ?_; (case hF9 => assumption); (case hN9 => assumption); intro _ _ _ _; (try dsimp only); (try k_sweep))
   | (refine' st_from_man_exp_prec ?hF9 ?hN9 ?_; (case hF9 => assumption); (case hN9 => assumption); intro _ _ _ _; (try dsimp only); (try k_sweep))
   | (refine' st_from_man_exp_rnd ?hF9 ?hN9 ?_; (case hF9 => assumption); (case hN9 => assumption); intro _ _ _ _; (try dsimp only); (try k_sweep))
   | (refine' st_from_man_exp_sign ?hF9 ?hN9 ?_; (case hF9 => assumption); (case hN9 => assumption); intro _ _ _ _; (try dsimp only); (try k_sweep))
   | (refine' st_from_man_exp_bc ?hF9 ?hN9 ?_; (case hF9 => assumption); (case hN9 => assumption); intro _ _ _ _; (try dsimp only); (try k_sweep))
   | (refine' st_from_man_exp_t ?hF9 ?hN9 ?_; (case hF9 => assumption); (case hN9 => assumption); intro _ _ _ _; (try dsimp only); (try k_sweep)))))
set_option hygiene false in
local macro_rules | `(tactic| walk_at "M base") => `(tactic| (
  (rename Fr _ _ _ _ => F1);
  (replace F1 := base_from_man_exp F1)))

namespace Mine
set_option maxHeartbeats 40000000 in
/-- bits told, a man that is not 0 -/
theorem c_fme (man ex prec : Int) (rnd : Str) (t2 t3 t5 t6 : Tok) (hm : man ≠ 0) (news : List (Addr × Obj)) (hp : 1 ≤ prec) (hb : bl man ≤ 100000) (hw : WayOk rnd) :
   Ctr 54 [.int man t2, .int ex t3, .int prec t5, .str rnd t6] 4 news
     (fun r ne => ∃ b t1 t2 t3 t4 sg m e c, r = .ref b ∧ ne = (b, { cls := .type "tuple", data := .seq #[.int sg t1, .int m t2, .int e t3, .int c t4] }) :: news ∧ (∀ p ∈ news, p.1 < b) ∧ sg = sgF man ∧ normF (sgF man) (absF man) ex (bl man) prec rnd = (m, e, c)) (fun _ => False) := by
  walk_at "M enter"
  walk_at "M base"
  k_steps
  all_goals first
    | (exfalso; omega)
    | (walk_at "M ret"; walk_at "M is"; refine ⟨_, _, _, _, _, _, _, _, _, rfl, rfl, by assumption, (by unfold sgF; first | exact (if_pos (by assumption)).symm | exact (if_neg (by assumption)).symm), ?_⟩
       unfold sgF absF
       first
         | (rw [if_pos (by assumption), if_pos (by assumption), ← bl_neg man]; assumption)
         | (rw [if_neg (by assumption), if_neg (by assumption)]; assumption))
    | fail
set_option maxHeartbeats 40000000 in
/-- no bits told, a man that is not 0 -/
theorem c_fme0 (man ex : Int) (rnd : Str) (t2 t3 t5 t6 : Tok) (hm : man ≠ 0) (news : List (Addr × Obj)) :
   Ctr 54 [.int man t2, .int ex t3, .int 0 t5, .str rnd t6] 4 news
     (fun r ne => ∃ b t1 t2 t3 t4 sg m e c, r = .ref b ∧ ne = (b, { cls := .type "tuple", data := .seq #[.int sg t1, .int m t2, .int e t3, .int c t4] }) :: news ∧ (∀ p ∈ news, p.1 < b) ∧ sg = sgF man ∧ strip0F (absF man) ex (bl man) = (m, e, c)) (fun _ => False) := by
  walk_at "M enter"
  walk_at "M base"
  k_steps
  all_goals first
    | (exfalso; omega)
    | (walk_at "M ret"; walk_at "M is"; refine ⟨_, _, _, _, _, _, _, _, _, rfl, rfl, by assumption, (by unfold sgF; first | exact (if_pos (by assumption)).symm | exact (if_neg (by assumption)).symm), ?_⟩
       law_clear
       simp_all only [strip0F, absF, ↓reduceIte, not_false_eq_true, not_true_eq_false, ne_eq, if_true, if_false, bl_neg]
       done)
    | fail
set_option maxHeartbeats 40000000 in
/-- man = 0, bits told or not -/
theorem c_fmez (ex prec : Int) (rnd : Str) (t2 t3 t5 t6 : Tok) (news : List (Addr × Obj)) :
   Ctr 54 [.int 0 t2, .int ex t3, .int prec t5, .str rnd t6] 4 news (fun r ne => r = .ref 22 ∧ ne = news) (fun _ => False) := by
  have hz : Is (0 : Int) (bl 0) := ⟨rfl⟩
  walk_at "M enter"
  walk_at "M base"
  k_steps
  all_goals first
    | (walk_at "M ret"; exact ⟨rfl, rfl⟩)
    | fail
end Mine
end
--CON
set_option hygiene false in
local macro_rules | `(tactic| walk_at "call ref") => `(tactic| (
  k_here; (with_reducible show wpAny _ _ (call (Value.ref 54) _) _ _ _);
  (refine' Ctr.use (c_fme _ _ _ _ _ _ _ _ ?cp _ ?cq ?cb ?cw) ?cB ?cF ?cX ?cN ?cT ?cK ?cD ?cU (fun _ _ _ _ _ h => h.elim) ?_);
  (case cp => first | assumption | omega); (case cq => first | assumption | omega);
  (case cb => first | assumption | omega); (case cw => assumption); walk_at "M use";
  intro r9 ne9 h9 k9 F9 N9 hr9; obtain ⟨b9, t19, t29, t39, t49, sg9, m9, e9, c9, rfl, rfl, l9, s9, n9⟩ := hr9; (try dsimp only)))
set_option hygiene false in
local macro_rules | `(tactic| walk_at "call ref") => `(tactic| (
  k_here; (with_reducible show wpAny _ _ (call (Value.ref 54) [Value.int _ _, Value.int _ _, Value.int 0 _, Value.str _ _]) _ _ _);
  (refine' Ctr.use (c_fme0 _ _ _ _ _ _ _ ?cp _) ?cB ?cF ?cX ?cN ?cT ?cK ?cD ?cU (fun _ _ _ _ _ h => h.elim) ?_);
  (case cp => first | assumption | omega); walk_at "M use";
  intro r9 ne9 h9 k9 F9 N9 hr9; obtain ⟨b9, t19, t29, t39, t49, sg9, m9, e9, c9, rfl, rfl, l9, s9, n9⟩ := hr9; (try dsimp only)))
set_option hygiene false in
local macro_rules | `(tactic| walk_at "call ref") => `(tactic| (
  k_here; (with_reducible show wpAny _ _ (call (Value.ref 54) [Value.int 0 _, Value.int _ _, Value.int _ _, Value.str _ _]) _ _ _);
  (refine' Ctr.use (c_fmez _ _ _ _ _ _ _ _) ?cB ?cF ?cX ?cN ?cT ?cK ?cD ?cU (fun _ _ _ _ _ h => h.elim) ?_); walk_at "M use";
  intro r9 ne9 h9 k9 F9 N9 hr9; obtain ⟨rfl, rfl⟩ := hr9; (try dsimp only)))
--END

section
namespace Mine
theorem hd_from_man_exp : (Str.ofString "from_man_exp" == ("__debug__" : Str)) = false := by decide +kernel
theorem gl_from_man_exp (P : Params) : nsIn (Mine.hd.heap_39 P) mainGlobals (Str.ofString "from_man_exp") = some (some (.ref 54)) := by kernel_rfl!
abbrev sc_from_int : Scope := { kind := .function, names := [(Str.ofString "n", .local), (Str.ofString "prec", .local), (Str.ofString "rnd", .local), (Str.ofString "from_man_exp", .globalImplicit), (Str.ofString "int", .globalImplicit)], isGenerator := false, isCoroutine := false, more := [] }
theorem kl_from_int_n {cn : Str} {L a : Addr} {cd : Value} : (envOf cn sc_from_int L a cd).kindOf (Str.ofString "n") = some .local := by kernel_rfl!
theorem kl_from_int_prec {cn : Str} {L a : Addr} {cd : Value} : (envOf cn sc_from_int L a cd).kindOf (Str.ofString "prec") = some .local := by kernel_rfl!
theorem kl_from_int_rnd {cn : Str} {L a : Addr} {cd : Value} : (envOf cn sc_from_int L a cd).kindOf (Str.ofString "rnd") = some .local := by kernel_rfl!
theorem kl_from_int_from_man_exp {cn : Str} {L a : Addr} {cd : Value} : (envOf cn sc_from_int L a cd).kindOf (Str.ofString "from_man_exp") = some .globalImplicit := by kernel_rfl!
theorem kl_from_int_int {cn : Str} {L a : Addr} {cd : Value} : (envOf cn sc_from_int L a cd).kindOf (Str.ofString "int") = some .globalImplicit := by kernel_rfl!
def nm_from_int : List Str := [Str.ofString "n", Str.ofString "prec", Str.ofString "rnd"]
theorem ix_from_int_n : nm_from_int.idxOf (Str.ofString "n") = 0 := by decide +kernel
theorem ix_from_int_prec : nm_from_int.idxOf (Str.ofString "prec") = 1 := by decide +kernel
theorem ix_from_int_rnd : nm_from_int.idxOf (Str.ofString "rnd") = 2 := by decide +kernel
theorem nd_from_int : ([Str.ofString "n", Str.ofString "prec", Str.ofString "rnd"] : List Str).Nodup := by decide +kernel
section
variable {M : Model} {A : Around} {E : Value → Shared → Prop} {s : Shared} {cn : Str} {L a : Addr} {cd : Value} {h₀ : Heap} {news : List (Addr × Obj)} {v : Value} {pos : Pos} {o0 o1 o2 : Option Value}
theorem base_from_int {h : Heap} {v0 v1 v2 : Value} (F : Fr h₀ L h (fun y => List.lookup y (List.zip [Str.ofString "n", Str.ofString "prec", Str.ofString "rnd"] [v0, v1, v2]).reverse)) : Fr h₀ L h (fm nm_from_int [some v0, some v1, some v2]) := by
  rw [fm_base (ns₂ := []) (k := 0) nd_from_int rfl] at F
  exact F
theorem ld_from_int_n {Q : Value → Shared → Prop} (F : Fr h₀ L s.heap (fm nm_from_int [some v, o1, o2])) (h : Q v s) : wpAny M A (eval (.Name (Str.ofString "n") pos) (envOf cn sc_from_int L a cd)) Q E s := ld F ((fm_get ix_from_int_n).trans rfl) h rfl kl_from_int_n hd_n
theorem ldn_from_int_n {Q : Value → Shared → Prop} (F : Fr h₀ L s.heap (fm nm_from_int [some v, o1, o2])) (h : Q v s) : wpAny M A (loadName (envOf cn sc_from_int L a cd) (Str.ofString "n")) Q E s := ldn F ((fm_get ix_from_int_n).trans rfl) h rfl kl_from_int_n
theorem st_from_int_n {Q : Unit → Shared → Prop} (F : Fr h₀ L s.heap (fm nm_from_int [o0, o1, o2])) (N : News h₀ L s.heap news) (h : ∀ h' k', Fr h₀ L h' (fm nm_from_int [some v, o1, o2]) → News h₀ L h' news → Q () { s with heap := h', toks := k' }) : wpAny M A (storeName (envOf cn sc_from_int L a cd) (Str.ofString "n") v) Q E s := r_st F N (fun h' k' F' N' => h h' k' (by rw [fm_set ix_from_int_n (by decide) rfl] at F'; exact F') N') rfl kl_from_int_n
theorem ld_from_int_prec {Q : Value → Shared → Prop} (F : Fr h₀ L s.heap (fm nm_from_int [o0, some v, o2])) (h : Q v s) : wpAny M A (eval (.Name (Str.ofString "prec") pos) (envOf cn sc_from_int L a cd)) Q E s := ld F ((fm_get ix_from_int_prec).trans rfl) h rfl kl_from_int_prec hd_prec
theorem ldn_from_int_prec {Q : Value → Shared → Prop} (F : Fr h₀ L s.heap (fm nm_from_int [o0, some v, o2])) (h : Q v s) : wpAny M A (loadName (envOf cn sc_from_int L a cd) (Str.ofString "prec")) Q E s := ldn F ((fm_get ix_from_int_prec).trans rfl) h rfl kl_from_int_prec
theorem st_from_int_prec {Q : Unit → Shared → Prop} (F : Fr h₀ L s.heap (fm nm_from_int [o0, o1, o2])) (N : News h₀ L s.heap news) (h : ∀ h' k', Fr h₀ L h' (fm nm_from_int [o0, some v, o2]) → News h₀ L h' news → Q () { s with heap := h', toks := k' }) : wpAny M A (storeName (envOf cn sc_from_int L a cd) (Str.ofString "prec") v) Q E s := r_st F N (fun h' k' F' N' => h h' k' (by rw [fm_set ix_from_int_prec (by decide) rfl] at F'; exact F') N') rfl kl_from_int_prec
theorem ld_from_int_rnd {Q : Value → Shared → Prop} (F : Fr h₀ L s.heap (fm nm_from_int [o0, o1, some v])) (h : Q v s) : wpAny M A (eval (.Name (Str.ofString "rnd") pos) (envOf cn sc_from_int L a cd)) Q E s := ld F ((fm_get ix_from_int_rnd).trans rfl) h rfl kl_from_int_rnd hd_rnd
theorem ldn_from_int_rnd {Q : Value → Shared → Prop} (F : Fr h₀ L s.heap (fm nm_from_int [o0, o1, some v])) (h : Q v s) : wpAny M A (loadName (envOf cn sc_from_int L a cd) (Str.ofString "rnd")) Q E s := ldn F ((fm_get ix_from_int_rnd).trans rfl) h rfl kl_from_int_rnd
theorem st_from_int_rnd {Q : Unit → Shared → Prop} (F : Fr h₀ L s.heap (fm nm_from_int [o0, o1, o2])) (N : News h₀ L s.heap news) (h : ∀ h' k', Fr h₀ L h' (fm nm_from_int [o0, o1, some v]) → News h₀ L h' news → Q () { s with heap := h', toks := k' }) : wpAny M A (storeName (envOf cn sc_from_int L a cd) (Str.ofString "rnd") v) Q E s := r_st F N (fun h' k' F' N' => h h' k' (by rw [fm_set ix_from_int_rnd (by decide) rfl] at F'; exact F') N') rfl kl_from_int_rnd
end
end Mine

local macro_rules | `(tactic| walk_at "eval Name") => `(tactic| (
  k_here; with_reducible (first
   | (refine' ld_from_int_n ?hF9 ?_; (case hF9 => assumption))
   | (refine' ld_from_int_prec ?hF9 ?_; (case hF9 => assumption))
   | (refine' ld_from_int_rnd ?hF9 ?_; (case hF9 => assumption))
   | (refine' gname gl_from_man_exp hd_from_man_exp ?hF9 ?hX9 ?hT9 rfl kl_from_int_from_man_exp ?_; (case hF9 => assumption); (case hX9 => assumption); (case hT9 => assumption))
   | (refine' bname bl_int bv_int bn_int hd_int ?hF9 ?hX9 ?hT9 rfl kl_from_int_int ?_; (case hF9 => assumption); (case hX9 => assumption); (case hT9 => assumption)))))
local macro_rules | `(tactic| walk_at "loadName") => `(tactic| (
  k_here; with_reducible (first
   | (refine' ldn_from_int_n ?hF9 ?_; (case hF9 => assumption))
   | (refine' ldn_from_int_prec ?hF9 ?_; (case hF9 => assumption))
   | (refine' ldn_from_int_rnd ?hF9 ?_; (case hF9 => assumption)))))
local macro_rules | `(tactic| walk_at "storeName") => `(tactic| (
  k_here; with_reducible (first
   | (refine' st_from_int_n ?hF9 ?hN9 ?_; (case hF9 => assumption); (case hN9 => assumption); intro _ _ _ _; (try dsimp only); (try k_sweep))
   | (refine' st_from_int_prec ?hF9 ?hN9 ?_; (case hF9 => assumption); (case hN9 => assumption); intro _ _ _ _; (try dsimp only); (try k_sweep))
   | (refine' st_from_int_rnd ?hF9 ?hN9 ?_; (case hF9 => assumption); (case hN9 => assumption); intro _ _ _ _; (try dsimp only); (try k_sweep)))))
set_option hygiene false in
local macro_rules | `(tactic| walk_at "M base") => `(tactic| (
  (rename Fr _ _ _ _ => F1);
  (replace F1 := base_from_int F1)))

namespace Mine
set_option maxHeartbeats 40000000 in
theorem c_fi1 (man : Int) (t2 : Tok) (hm : man ≠ 0) (news : List (Addr × Obj)) :
   Ctr 62 [.int man t2] 5 news
     (fun r ne => ∃ b t1 t2 t3 t4 sg m e c, r = .ref b ∧ ne = (b, { cls := .type "tuple", data := .seq #[.int sg t1, .int m t2, .int e t3, .int c t4] }) :: news ∧ (∀ p ∈ news, p.1 < b) ∧ sg = sgF man ∧ strip0F (absF man) 0 (bl man) = (m, e, c)) (fun _ => False) := by
  walk_at "M enter"
  walk_at "M base"
  k_steps
  all_goals first
    | (walk_at "M ret"; exact ⟨_, _, _, _, _, _, _, _, _, rfl, rfl, by assumption, by assumption, by assumption⟩)
    | fail

set_option maxHeartbeats 40000000 in
theorem c_fi1z (t2 : Tok) (news : List (Addr × Obj)) :
   Ctr 62 [.int 0 t2] 5 news (fun r ne => r = .ref 22 ∧ ne = news) (fun _ => False) := by
  walk_at "M enter"
  walk_at "M base"
  k_steps
  all_goals first
    | (walk_at "M ret"; exact ⟨rfl, rfl⟩)
    | fail

set_option maxHeartbeats 40000000 in
theorem c_fi3 (man prec : Int) (rnd : Str) (t2 t3 t5 : Tok) (hm : man ≠ 0) (news : List (Addr × Obj)) (hp : 1 ≤ prec) (hb : bl man ≤ 100000) (hw : WayOk rnd) :
   Ctr 62 [.int man t2, .int prec t3, .str rnd t5] 5 news
     (fun r ne => ∃ b t1 t2 t3 t4 sg m e c, r = .ref b ∧ ne = (b, { cls := .type "tuple", data := .seq #[.int sg t1, .int m t2, .int e t3, .int c t4] }) :: news ∧ (∀ p ∈ news, p.1 < b) ∧ sg = sgF man ∧ normF (sgF man) (absF man) 0 (bl man) prec rnd = (m, e, c)) (fun _ => False) := by
  walk_at "M enter"
  walk_at "M base"
  k_steps
  all_goals first
    | (walk_at "M ret"; exact ⟨_, _, _, _, _, _, _, _, _, rfl, rfl, by assumption, by assumption, by assumption⟩)
    | fail

set_option maxHeartbeats 40000000 in
theorem c_fi3z (prec : Int) (rnd : Str) (t2 t3 t5 : Tok) (news : List (Addr × Obj)) :
   Ctr 62 [.int 0 t2, .int prec t3, .str rnd t5] 5 news (fun r ne => r = .ref 22 ∧ ne = news) (fun _ => False) := by
  walk_at "M enter"
  walk_at "M base"
  k_steps
  all_goals first
    | (walk_at "M ret"; exact ⟨rfl, rfl⟩)
    | fail

end Mine
end
namespace Mine
theorem c_fi1s (man : Int) (t2 : Tok) (hm : man ≠ 0) (news : List (Addr × Obj)) :
   Ctr 62 [.int man t2] 5 news
     (fun r ne => ∃ b t1 t2 t3 t4 sg m e c, r = .ref b ∧ ne = (b, { cls := .type "tuple", data := .seq #[.int sg t1, .int m t2, .int e t3, .int c t4] }) :: news ∧ (∀ p ∈ news, p.1 < b) ∧ sg = sgF man ∧ strip0F (absF man) 0 (bl man) = (m, e, c) ∧ 0 < m ∧ Is c (bl m) ∧ bl m ≤ bl man ∧ (sg = 0 ∨ sg = 1)) (fun _ => False) := by
  intro w mean mg mb dp un gd cn cs a ccd cl outer A₀ base h₀ L m s Q E B F X N T hk hd hu hret hexc
  refine c_fi1 man t2 hm news w mean mg mb dp un gd cn cs a ccd cl outer A₀ base h₀ L m s Q E B F X N T hk hd hu (fun r ne h' k' F' N' hr => ?_) hexc
  obtain ⟨b9, t19, t29, t39, t49, sg9, m9, e9, c9, rfl, rfl, l9, s9, n9⟩ := hr
  have h1 : 0 < absF man := by unfold absF; split <;> omega
  have h2 : bl (absF man) = bl man := by unfold absF; split <;> simp only [bl_neg]
  rw [← h2] at n9
  obtain ⟨k, M, q1, q2, q3, q4, q5⟩ := strip0_spec h1 n9
  have h3 : bl (absF man) = bl (M : Int) + k := by rw [q1]; exact bl_mul_pow M k (by omega)
  refine hret _ _ _ _ F' N' ⟨_, _, _, _, _, _, _, _, _, rfl, rfl, l9, s9, h2 ▸ n9, by omega, ⟨q5⟩, by rw [q3]; omega, ?_⟩
  rw [s9]; unfold sgF; split <;> simp
/-- from_int of a number above 0: its sign is written -/
theorem c_fi1p (man : Int) (t2 : Tok) (hm : 0 < man) (news : List (Addr × Obj)) :
   Ctr 62 [.int man t2] 5 news
     (fun r ne => ∃ b t1 t2 t3 t4 m e c, r = .ref b ∧ ne = (b, { cls := .type "tuple", data := .seq #[.int 0 t1, .int m t2, .int e t3, .int c t4] }) :: news ∧ (∀ p ∈ news, p.1 < b) ∧ strip0F man 0 (bl man) = (m, e, c) ∧ 0 < m ∧ Is c (bl m) ∧ bl m ≤ bl man) (fun _ => False) := by
  intro w mean mg mb dp un gd cn cs a ccd cl outer A₀ base h₀ L m s Q E B F X N T hk hd hu hret hexc
  refine c_fi1s man t2 (by omega) news w mean mg mb dp un gd cn cs a ccd cl outer A₀ base h₀ L m s Q E B F X N T hk hd hu (fun r ne h' k' F' N' hr => ?_) hexc
  obtain ⟨b9, t19, t29, t39, t49, sg9, m9, e9, c9, rfl, rfl, l9, s9, n9, x9, y9, z9, w9⟩ := hr
  have e1 : sgF man = 0 := if_neg (by omega)
  have e2 : absF man = man := if_neg (by omega)
  rw [e1] at s9
  rw [e2] at n9
  subst s9
  exact hret _ _ _ _ F' N' ⟨_, _, _, _, _, _, _, _, rfl, rfl, l9, n9, x9, y9, z9⟩
end Mine
--CON
set_option hygiene false in
local macro_rules | `(tactic| walk_at "call ref") => `(tactic| (
  k_here; (with_reducible show wpAny _ _ (call (Value.ref 62) [Value.int _ _]) _ _ _);
  (first
   | (
     (refine' Ctr.use (c_fi1p _ _ ?cp _) ?cB ?cF ?cX ?cN ?cT ?cK ?cD ?cU (fun _ _ _ _ _ h => h.elim) ?_);
     (case cp => first | assumption | omega); walk_at "M use";
     intro r9 ne9 h9 k9 F9 N9 hr9; obtain ⟨b9, t19, t29, t39, t49, m9, e9, c9, rfl, rfl, l9, n9, x9, y9, z9⟩ := hr9; (try dsimp only))
   | (
     (refine' Ctr.use (c_fi1s _ _ ?cp _) ?cB ?cF ?cX ?cN ?cT ?cK ?cD ?cU (fun _ _ _ _ _ h => h.elim) ?_);
     (case cp => first | assumption | omega); walk_at "M use";
     intro r9 ne9 h9 k9 F9 N9 hr9; obtain ⟨b9, t19, t29, t39, t49, sg9, m9, e9, c9, rfl, rfl, l9, s9, n9, x9, y9, z9, w9⟩ := hr9; (try dsimp only)))))
set_option hygiene false in
local macro_rules | `(tactic| walk_at "call ref") => `(tactic| (
  k_here; (with_reducible show wpAny _ _ (call (Value.ref 62) [Value.int 0 _]) _ _ _);
  (refine' Ctr.use (c_fi1z _ _) ?cB ?cF ?cX ?cN ?cT ?cK ?cD ?cU (fun _ _ _ _ _ h => h.elim) ?_); walk_at "M use";
  intro r9 ne9 h9 k9 F9 N9 hr9; obtain ⟨rfl, rfl⟩ := hr9; (try dsimp only)))
set_option hygiene false in
local macro_rules | `(tactic| walk_at "call ref") => `(tactic| (
  k_here; (with_reducible show wpAny _ _ (call (Value.ref 62) [Value.int _ _, Value.int _ _, Value.str _ _]) _ _ _);
  (refine' Ctr.use (c_fi3 _ _ _ _ _ _ ?cp _ ?cq ?cb ?cw) ?cB ?cF ?cX ?cN ?cT ?cK ?cD ?cU (fun _ _ _ _ _ h => h.elim) ?_);
  (case cp => first | assumption | omega); (case cq => first | assumption | omega); (case cb => first | assumption | omega); (case cw => assumption); walk_at "M use";
  intro r9 ne9 h9 k9 F9 N9 hr9; obtain ⟨b9, t19, t29, t39, t49, sg9, m9, e9, c9, rfl, rfl, l9, s9, n9⟩ := hr9; (try dsimp only)))
set_option hygiene false in
local macro_rules | `(tactic| walk_at "call ref") => `(tactic| (
  k_here; (with_reducible show wpAny _ _ (call (Value.ref 62) [Value.int 0 _, Value.int _ _, Value.str _ _]) _ _ _);
  (refine' Ctr.use (c_fi3z _ _ _ _ _ _) ?cB ?cF ?cX ?cN ?cT ?cK ?cD ?cU (fun _ _ _ _ _ h => h.elim) ?_); walk_at "M use";
  intro r9 ne9 h9 k9 F9 N9 hr9; obtain ⟨rfl, rfl⟩ := hr9; (try dsimp only)))
--END

section
namespace Mine
theorem hd_ZeroDivisionError : (Str.ofString "ZeroDivisionError" == ("__debug__" : Str)) = false := by decide +kernel
theorem hd_divmod : (Str.ofString "divmod" == ("__debug__" : Str)) = false := by decide +kernel
theorem hd_extra : (Str.ofString "extra" == ("__debug__" : Str)) = false := by decide +kernel
theorem hd_finf : (Str.ofString "finf" == ("__debug__" : Str)) = false := by decide +kernel
theorem hd_fnan : (Str.ofString "fnan" == ("__debug__" : Str)) = false := by decide +kernel
theorem hd_fninf : (Str.ofString "fninf" == ("__debug__" : Str)) = false := by decide +kernel
theorem hd_max : (Str.ofString "max" == ("__debug__" : Str)) = false := by decide +kernel
theorem hd_mpf_sign : (Str.ofString "mpf_sign" == ("__debug__" : Str)) = false := by decide +kernel
theorem hd_quot : (Str.ofString "quot" == ("__debug__" : Str)) = false := by decide +kernel
theorem hd_rem : (Str.ofString "rem" == ("__debug__" : Str)) = false := by decide +kernel
theorem hd_s : (Str.ofString "s" == ("__debug__" : Str)) = false := by decide +kernel
theorem hd_s_special : (Str.ofString "s_special" == ("__debug__" : Str)) = false := by decide +kernel
theorem hd_sbc : (Str.ofString "sbc" == ("__debug__" : Str)) = false := by decide +kernel
theorem hd_sexp : (Str.ofString "sexp" == ("__debug__" : Str)) = false := by decide +kernel
theorem hd_sman : (Str.ofString "sman" == ("__debug__" : Str)) = false := by decide +kernel
theorem hd_ssign : (Str.ofString "ssign" == ("__debug__" : Str)) = false := by decide +kernel
theorem hd_t_special : (Str.ofString "t_special" == ("__debug__" : Str)) = false := by decide +kernel
theorem hd_tbc : (Str.ofString "tbc" == ("__debug__" : Str)) = false := by decide +kernel
theorem hd_texp : (Str.ofString "texp" == ("__debug__" : Str)) = false := by decide +kernel
theorem hd_tman : (Str.ofString "tman" == ("__debug__" : Str)) = false := by decide +kernel
theorem hd_tsign : (Str.ofString "tsign" == ("__debug__" : Str)) = false := by decide +kernel
theorem bl_ZeroDivisionError (P : Params) : nsIn (Mine.hd.heap_39 P) mainGlobals (Str.ofString "ZeroDivisionError") = some none := by kernel_rfl!
theorem bv_ZeroDivisionError : bootBuiltins (Str.ofString "ZeroDivisionError") = some (.type "ZeroDivisionError") := by boot_by_name
theorem bn_ZeroDivisionError : (Str.ofString "ZeroDivisionError") ≠ ("__name__" : Str) := by decide +kernel
theorem gl_fnan (P : Params) : nsIn (Mine.hd.heap_39 P) mainGlobals (Str.ofString "fnan") = some (some (.ref 25)) := by kernel_rfl!
theorem gl_finf (P : Params) : nsIn (Mine.hd.heap_39 P) mainGlobals (Str.ofString "finf") = some (some (.ref 26)) := by kernel_rfl!
theorem gl_fninf (P : Params) : nsIn (Mine.hd.heap_39 P) mainGlobals (Str.ofString "fninf") = some (some (.ref 27)) := by kernel_rfl!
theorem gl_mpf_sign (P : Params) : nsIn (Mine.hd.heap_39 P) mainGlobals (Str.ofString "mpf_sign") = some (some (.ref 85)) := by kernel_rfl!
theorem bl_max (P : Params) : nsIn (Mine.hd.heap_39 P) mainGlobals (Str.ofString "max") = some none := by kernel_rfl!
theorem bv_max : bootBuiltins (Str.ofString "max") = some (.builtin "max") := by boot_by_name
theorem bn_max : (Str.ofString "max") ≠ ("__name__" : Str) := by decide +kernel
theorem bl_divmod (P : Params) : nsIn (Mine.hd.heap_39 P) mainGlobals (Str.ofString "divmod") = some none := by kernel_rfl!
theorem bv_divmod : bootBuiltins (Str.ofString "divmod") = some (.builtin "divmod") := by boot_by_name
theorem bn_divmod : (Str.ofString "divmod") ≠ ("__name__" : Str) := by decide +kernel
abbrev sc_mpf_div : Scope := { kind := .function, names := [(Str.ofString "s", .local), (Str.ofString "t", .local), (Str.ofString "prec", .local), (Str.ofString "rnd", .local), (Str.ofString "ssign", .local), (Str.ofString "sman", .local), (Str.ofString "sexp", .local), (Str.ofString "sbc", .local), (Str.ofString "tsign", .local), (Str.ofString "tman", .local), (Str.ofString "texp", .local), (Str.ofString "tbc", .local), (Str.ofString "s_special", .local), (Str.ofString "t_special", .local), (Str.ofString "sign", .local), (Str.ofString "extra", .local), (Str.ofString "quot", .local), (Str.ofString "rem", .local), (Str.ofString "bc", .local), (Str.ofString "fzero", .globalImplicit), (Str.ofString "ZeroDivisionError", .globalImplicit), (Str.ofString "fnan", .globalImplicit), (Str.ofString "finf", .globalImplicit), (Str.ofString "fninf", .globalImplicit), (Str.ofString "mpf_sign", .globalImplicit), (Str.ofString "normalize", .globalImplicit), (Str.ofString "max", .globalImplicit), (Str.ofString "divmod", .globalImplicit)], isGenerator := false, isCoroutine := false, more := [] }
theorem kl_mpf_div_s {cn : Str} {L a : Addr} {cd : Value} : (envOf cn sc_mpf_div L a cd).kindOf (Str.ofString "s") = some .local := by kernel_rfl!
theorem kl_mpf_div_t {cn : Str} {L a : Addr} {cd : Value} : (envOf cn sc_mpf_div L a cd).kindOf (Str.ofString "t") = some .local := by kernel_rfl!
theorem kl_mpf_div_prec {cn : Str} {L a : Addr} {cd : Value} : (envOf cn sc_mpf_div L a cd).kindOf (Str.ofString "prec") = some .local := by kernel_rfl!
theorem kl_mpf_div_rnd {cn : Str} {L a : Addr} {cd : Value} : (envOf cn sc_mpf_div L a cd).kindOf (Str.ofString "rnd") = some .local := by kernel_rfl!
theorem kl_mpf_div_ssign {cn : Str} {L a : Addr} {cd : Value} : (envOf cn sc_mpf_div L a cd).kindOf (Str.ofString "ssign") = some .local := by kernel_rfl!
theorem kl_mpf_div_sman {cn : Str} {L a : Addr} {cd : Value} : (envOf cn sc_mpf_div L a cd).kindOf (Str.ofString "sman") = some .local := by kernel_rfl!
theorem kl_mpf_div_sexp {cn : Str} {L a : Addr} {cd : Value} : (envOf cn sc_mpf_div L a cd).kindOf (Str.ofString "sexp") = some .local := by kernel_rfl!
theorem kl_mpf_div_sbc {cn : Str} {L a : Addr} {cd : Value} : (envOf cn sc_mpf_div L a cd).kindOf (Str.ofString "sbc") = some .local := by kernel_rfl!
theorem kl_mpf_div_tsign {cn : Str} {L a : Addr} {cd : Value} : (envOf cn sc_mpf_div L a cd).kindOf (Str.ofString "tsign") = some .local := by kernel_rfl!
theorem kl_mpf_div_tman {cn : Str} {L a : Addr} {cd : Value} : (envOf cn sc_mpf_div L a cd).kindOf (Str.ofString "tman") = some .local := by kernel_rfl!
theorem kl_mpf_div_texp {cn : Str} {L a : Addr} {cd : Value} : (envOf cn sc_mpf_div L a cd).kindOf (Str.ofString "texp") = some .local := by kernel_rfl!
theorem kl_mpf_div_tbc {cn : Str} {L a : Addr} {cd : Value} : (envOf cn sc_mpf_div L a cd).kindOf (Str.ofString "tbc") = some .local := by kernel_rfl!
theorem kl_mpf_div_s_special {cn : Str} {L a : Addr} {cd : Value} : (envOf cn sc_mpf_div L a cd).kindOf (Str.ofString "s_special") = some .local := by kernel_rfl!
theorem kl_mpf_div_t_special {cn : Str} {L a : Addr} {cd : Value} : (envOf cn sc_mpf_div L a cd).kindOf (Str.ofString "t_special") = some .local := by kernel_rfl!
theorem kl_mpf_div_sign {cn : Str} {L a : Addr} {cd : Value} : (envOf cn sc_mpf_div L a cd).kindOf (Str.ofString "sign") = some .local := by kernel_rfl!
theorem kl_mpf_div_extra {cn : Str} {L a : Addr} {cd : Value} : (envOf cn sc_mpf_div L a cd).kindOf (Str.ofString "extra") = some .local := by kernel_rfl!
theorem kl_mpf_div_quot {cn : Str} {L a : Addr} {cd : Value} : (envOf cn sc_mpf_div L a cd).kindOf (Str.ofString "quot") = some .local := by kernel_rfl!
theorem kl_mpf_div_rem {cn : Str} {L a : Addr} {cd : Value} : (envOf cn sc_mpf_div L a cd).kindOf (Str.ofString "rem") = some .local := by kernel_rfl!
theorem kl_mpf_div_bc {cn : Str} {L a : Addr} {cd : Value} : (envOf cn sc_mpf_div L a cd).kindOf (Str.ofString "bc") = some .local := by kernel_rfl!
theorem kl_mpf_div_fzero {cn : Str} {L a : Addr} {cd : Value} : (envOf cn sc_mpf_div L a cd).kindOf (Str.ofString "fzero") = some .globalImplicit := by kernel_rfl!
theorem kl_mpf_div_ZeroDivisionError {cn : Str} {L a : Addr} {cd : Value} : (envOf cn sc_mpf_div L a cd).kindOf (Str.ofString "ZeroDivisionError") = some .globalImplicit := by kernel_rfl!
theorem kl_mpf_div_fnan {cn : Str} {L a : Addr} {cd : Value} : (envOf cn sc_mpf_div L a cd).kindOf (Str.ofString "fnan") = some .globalImplicit := by kernel_rfl!
theorem kl_mpf_div_finf {cn : Str} {L a : Addr} {cd : Value} : (envOf cn sc_mpf_div L a cd).kindOf (Str.ofString "finf") = some .globalImplicit := by kernel_rfl!
theorem kl_mpf_div_fninf {cn : Str} {L a : Addr} {cd : Value} : (envOf cn sc_mpf_div L a cd).kindOf (Str.ofString "fninf") = some .globalImplicit := by kernel_rfl!
theorem kl_mpf_div_mpf_sign {cn : Str} {L a : Addr} {cd : Value} : (envOf cn sc_mpf_div L a cd).kindOf (Str.ofString "mpf_sign") = some .globalImplicit := by kernel_rfl!
theorem kl_mpf_div_normalize {cn : Str} {L a : Addr} {cd : Value} : (envOf cn sc_mpf_div L a cd).kindOf (Str.ofString "normalize") = some .globalImplicit := by kernel_rfl!
theorem kl_mpf_div_max {cn : Str} {L a : Addr} {cd : Value} : (envOf cn sc_mpf_div L a cd).kindOf (Str.ofString "max") = some .globalImplicit := by kernel_rfl!
theorem kl_mpf_div_divmod {cn : Str} {L a : Addr} {cd : Value} : (envOf cn sc_mpf_div L a cd).kindOf (Str.ofString "divmod") = some .globalImplicit := by kernel_rfl!
def nm_mpf_div : List Str := [Str.ofString "s", Str.ofString "t", Str.ofString "prec", Str.ofString "rnd", Str.ofString "sign", Str.ofString "bc", Str.ofString "ssign", Str.ofString "sman", Str.ofString "sexp", Str.ofString "sbc", Str.ofString "tsign", Str.ofString "tman", Str.ofString "texp", Str.ofString "tbc", Str.ofString "s_special", Str.ofString "t_special", Str.ofString "extra", Str.ofString "quot", Str.ofString "rem"]
theorem ix_mpf_div_s : nm_mpf_div.idxOf (Str.ofString "s") = 0 := by decide +kernel
theorem ix_mpf_div_t : nm_mpf_div.idxOf (Str.ofString "t") = 1 := by decide +kernel
theorem ix_mpf_div_prec : nm_mpf_div.idxOf (Str.ofString "prec") = 2 := by decide +kernel
theorem ix_mpf_div_rnd : nm_mpf_div.idxOf (Str.ofString "rnd") = 3 := by decide +kernel
theorem ix_mpf_div_sign : nm_mpf_div.idxOf (Str.ofString "sign") = 4 := by decide +kernel
theorem ix_mpf_div_bc : nm_mpf_div.idxOf (Str.ofString "bc") = 5 := by decide +kernel
theorem ix_mpf_div_ssign : nm_mpf_div.idxOf (Str.ofString "ssign") = 6 := by decide +kernel
theorem ix_mpf_div_sman : nm_mpf_div.idxOf (Str.ofString "sman") = 7 := by decide +kernel
theorem ix_mpf_div_sexp : nm_mpf_div.idxOf (Str.ofString "sexp") = 8 := by decide +kernel
theorem ix_mpf_div_sbc : nm_mpf_div.idxOf (Str.ofString "sbc") = 9 := by decide +kernel
theorem ix_mpf_div_tsign : nm_mpf_div.idxOf (Str.ofString "tsign") = 10 := by decide +kernel
theorem ix_mpf_div_tman : nm_mpf_div.idxOf (Str.ofString "tman") = 11 := by decide +kernel
theorem ix_mpf_div_texp : nm_mpf_div.idxOf (Str.ofString "texp") = 12 := by decide +kernel
theorem ix_mpf_div_tbc : nm_mpf_div.idxOf (Str.ofString "tbc") = 13 := by decide +kernel
theorem ix_mpf_div_s_special : nm_mpf_div.idxOf (Str.ofString "s_special") = 14 := by decide +kernel
theorem ix_mpf_div_t_special : nm_mpf_div.idxOf (Str.ofString "t_special") = 15 := by decide +kernel
theorem ix_mpf_div_extra : nm_mpf_div.idxOf (Str.ofString "extra") = 16 := by decide +kernel
theorem ix_mpf_div_quot : nm_mpf_div.idxOf (Str.ofString "quot") = 17 := by decide +kernel
theorem ix_mpf_div_rem : nm_mpf_div.idxOf (Str.ofString "rem") = 18 := by decide +kernel
theorem nd_mpf_div : ([Str.ofString "s", Str.ofString "t", Str.ofString "prec", Str.ofString "rnd"] : List Str).Nodup := by decide +kernel
section
variable {M : Model} {A : Around} {E : Value → Shared → Prop} {s : Shared} {cn : Str} {L a : Addr} {cd : Value} {h₀ : Heap} {news : List (Addr × Obj)} {v : Value} {pos : Pos} {o0 o1 o2 o3 o4 o5 o6 o7 o8 o9 o10 o11 o12 o13 o14 o15 o16 o17 o18 : Option Value}
theorem base_mpf_div {h : Heap} {v0 v1 v2 v3 : Value} (F : Fr h₀ L h (fun y => List.lookup y (List.zip [Str.ofString "s", Str.ofString "t", Str.ofString "prec", Str.ofString "rnd"] [v0, v1, v2, v3]).reverse)) : Fr h₀ L h (fm nm_mpf_div [some v0, some v1, some v2, some v3, none, none, none, none, none, none, none, none, none, none, none, none, none, none, none]) := by
  rw [fm_base (ns₂ := [Str.ofString "sign", Str.ofString "bc", Str.ofString "ssign", Str.ofString "sman", Str.ofString "sexp", Str.ofString "sbc", Str.ofString "tsign", Str.ofString "tman", Str.ofString "texp", Str.ofString "tbc", Str.ofString "s_special", Str.ofString "t_special", Str.ofString "extra", Str.ofString "quot", Str.ofString "rem"]) (k := 15) nd_mpf_div rfl] at F
  exact F
theorem ld_mpf_div_s {Q : Value → Shared → Prop} (F : Fr h₀ L s.heap (fm nm_mpf_div [some v, o1, o2, o3, o4, o5, o6, o7, o8, o9, o10, o11, o12, o13, o14, o15, o16, o17, o18])) (h : Q v s) : wpAny M A (eval (.Name (Str.ofString "s") pos) (envOf cn sc_mpf_div L a cd)) Q E s := ld F ((fm_get ix_mpf_div_s).trans rfl) h rfl kl_mpf_div_s hd_s
theorem ldn_mpf_div_s {Q : Value → Shared → Prop} (F : Fr h₀ L s.heap (fm nm_mpf_div [some v, o1, o2, o3, o4, o5, o6, o7, o8, o9, o10, o11, o12, o13, o14, o15, o16, o17, o18])) (h : Q v s) : wpAny M A (loadName (envOf cn sc_mpf_div L a cd) (Str.ofString "s")) Q E s := ldn F ((fm_get ix_mpf_div_s).trans rfl) h rfl kl_mpf_div_s
theorem st_mpf_div_s {Q : Unit → Shared → Prop} (F : Fr h₀ L s.heap (fm nm_mpf_div [o0, o1, o2, o3, o4, o5, o6, o7, o8, o9, o10, o11, o12, o13, o14, o15, o16, o17, o18])) (N : News h₀ L s.heap news) (h : ∀ h' k', Fr h₀ L h' (fm nm_mpf_div [some v, o1, o2, o3, o4, o5, o6, o7, o8, o9, o10, o11, o12, o13, o14, o15, o16, o17, o18]) → News h₀ L h' news → Q () { s with heap := h', toks := k' }) : wpAny M A (storeName (envOf cn sc_mpf_div L a cd) (Str.ofString "s") v) Q E s := r_st F N (fun h' k' F' N' => h h' k' (by rw [fm_set ix_mpf_div_s (by decide) rfl] at F'; exact F') N') rfl kl_mpf_div_s
theorem ld_mpf_div_t {Q : Value → Shared → Prop} (F : Fr h₀ L s.heap (fm nm_mpf_div [o0, some v, o2, o3, o4, o5, o6, o7, o8, o9, o10, o11, o12, o13, o14, o15, o16, o17, o18])) (h : Q v s) : wpAny M A (eval (.Name (Str.ofString "t") pos) (envOf cn sc_mpf_div L a cd)) Q E s := ld F ((fm_get ix_mpf_div_t).trans rfl) h rfl kl_mpf_div_t hd_t
theorem ldn_mpf_div_t {Q : Value → Shared → Prop} (F : Fr h₀ L s.heap (fm nm_mpf_div [o0, some v, o2, o3, o4, o5, o6, o7, o8, o9, o10, o11, o12, o13, o14, o15, o16, o17, o18])) (h : Q v s) : wpAny M A (loadName (envOf cn sc_mpf_div L a cd) (Str.ofString "t")) Q E s := ldn F ((fm_get ix_mpf_div_t).trans rfl) h rfl kl_mpf_div_t
theorem st_mpf_div_t {Q : Unit → Shared → Prop} (F : Fr h₀ L s.heap (fm nm_mpf_div [o0, o1, o2, o3, o4, o5, o6, o7, o8, o9, o10, o11, o12, o13, o14, o15, o16, o17, o18])) (N : News h₀ L s.heap news) (h : ∀ h' k', Fr h₀ L h' (fm nm_mpf_div [o0, some v, o2, o3, o4, o5, o6, o7, o8, o9, o10, o11, o12, o13, o14, o15, o16, o17, o18]) → News h₀ L h' news → Q () { s with heap := h', toks := k' }) : wpAny M A (storeName (envOf cn sc_mpf_div L a cd) (Str.ofString "t") v) Q E s := r_st F N (fun h' k' F' N' => h h' k' (by rw [fm_set ix_mpf_div_t (by decide) rfl] at F'; exact F') N') rfl kl_mpf_div_t
theorem ld_mpf_div_prec {Q : Value → Shared → Prop} (F : Fr h₀ L s.heap (fm nm_mpf_div [o0, o1, some v, o3, o4, o5, o6, o7, o8, o9, o10, o11, o12, o13, o14, o15, o16, o17, o18])) (h : Q v s) : wpAny M A (eval (.Name (Str.ofString "prec") pos) (envOf cn sc_mpf_div L a cd)) Q E s := ld F ((fm_get ix_mpf_div_prec).trans rfl) h rfl kl_mpf_div_prec hd_prec
theorem ldn_mpf_div_prec {Q : Value → Shared → Prop} (F : Fr h₀ L s.heap (fm nm_mpf_div [o0, o1, some v, o3, o4, o5, o6, o7, o8, o9, o10, o11, o12, o13, o14, o15, o16, o17, o18])) (h : Q v s) : wpAny M A (loadName (envOf cn sc_mpf_div L a cd) (Str.ofString "prec")) Q E s := ldn F ((fm_get ix_mpf_div_prec).trans rfl) h rfl kl_mpf_div_prec
theorem st_mpf_div_prec {Q : Unit → Shared → Prop} (F : Fr h₀ L s.heap (fm nm_mpf_div [o0, o1, o2, o3, o4, o5, o6, o7, o8, o9, o10, o11, o12, o13, o14, o15, o16, o17, o18])) (N : News h₀ L s.heap news) (h : ∀ h' k', Fr h₀ L h' (fm nm_mpf_div [o0, o1, some v, o3, o4, o5, o6, o7, o8, o9, o10, o11, o12, o13, o14, o15, o16, o17, o18]) → News h₀ L h' news → Q () { s with heap := h', toks := k' }) : wpAny M A (storeName (envOf cn sc_mpf_div L a cd) (Str.ofString "prec") v) Q E s := r_st F N (fun h' k' F' N' => h h' k' (by rw [fm_set ix_mpf_div_prec (by decide) rfl] at F'; exact F') N') rfl kl_mpf_div_prec
theorem ld_mpf_div_rnd {Q : Value → Shared → Prop} (F : Fr h₀ L s.heap (fm nm_mpf_div [o0, o1, o2, some v, o4, o5, o6, o7, o8, o9, o10, o11, o12, o13, o14, o15, o16, o17, o18])) (h : Q v s) : wpAny M A (eval (.Name (Str.ofString "rnd") pos) (envOf cn sc_mpf_div L a cd)) Q E s := ld F ((fm_get ix_mpf_div_rnd).trans rfl) h rfl kl_mpf_div_rnd hd_rnd
theorem ldn_mpf_div_rnd {Q : Value → Shared → Prop} (F : Fr h₀ L s.heap (fm nm_mpf_div [o0, o1, o2, some v, o4, o5, o6, o7, o8, o9, o10, o11, o12, o13, o14, o15, o16, o17, o18])) (h : Q v s) : wpAny M A (loadName (envOf cn sc_mpf_div L a cd) (Str.ofString "rnd")) Q E s := ldn F ((fm_get ix_mpf_div_rnd).trans rfl) h rfl kl_mpf_div_rnd
theorem st_mpf_div_rnd {Q : Unit → Shared → Prop} (F : Fr h₀ L s.heap (fm nm_mpf_div [o0, o1, o2, o3, o4, o5, o6, o7, o8, o9, o10, o11, o12, o13, o14, o15, o16, o17, o18])) (N : News h₀ L s.heap news) (h : ∀ h' k', Fr h₀ L h' (fm nm_mpf_div [o0, o1, o2, some v, o4, o5, o6, o7, o8, o9, o10, o11, o12, o13, o14, o15, o16, o17, o18]) → News h₀ L h' news → Q () { s with heap := h', toks := k' }) : wpAny M A (storeName (envOf cn sc_mpf_div L a cd) (Str.ofString "rnd") v) Q E s := r_st F N (fun h' k' F' N' => h h' k' (by rw [fm_set ix_mpf_div_rnd (by decide) rfl] at F'; exact F') N') rfl kl_mpf_div_rnd
theorem ld_mpf_div_sign {Q : Value → Shared → Prop} (F : Fr h₀ L s.heap (fm nm_mpf_div [o0, o1, o2, o3, some v, o5, o6, o7, o8, o9, o10, o11, o12, o13, o14, o15, o16, o17, o18])) (h : Q v s) : wpAny M A (eval (.Name (Str.ofString "sign") pos) (envOf cn sc_mpf_div L a cd)) Q E s := ld F ((fm_get ix_mpf_div_sign).trans rfl) h rfl kl_mpf_div_sign hd_sign
theorem ldn_mpf_div_sign {Q : Value → Shared → Prop} (F : Fr h₀ L s.heap (fm nm_mpf_div [o0, o1, o2, o3, some v, o5, o6, o7, o8, o9, o10, o11, o12, o13, o14, o15, o16, o17, o18])) (h : Q v s) : wpAny M A (loadName (envOf cn sc_mpf_div L a cd) (Str.ofString "sign")) Q E s := ldn F ((fm_get ix_mpf_div_sign).trans rfl) h rfl kl_mpf_div_sign
theorem st_mpf_div_sign {Q : Unit → Shared → Prop} (F : Fr h₀ L s.heap (fm nm_mpf_div [o0, o1, o2, o3, o4, o5, o6, o7, o8, o9, o10, o11, o12, o13, o14, o15, o16, o17, o18])) (N : News h₀ L s.heap news) (h : ∀ h' k', Fr h₀ L h' (fm nm_mpf_div [o0, o1, o2, o3, some v, o5, o6, o7, o8, o9, o10, o11, o12, o13, o14, o15, o16, o17, o18]) → News h₀ L h' news → Q () { s with heap := h', toks := k' }) : wpAny M A (storeName (envOf cn sc_mpf_div L a cd) (Str.ofString "sign") v) Q E s := r_st F N (fun h' k' F' N' => h h' k' (by rw [fm_set ix_mpf_div_sign (by decide) rfl] at F'; exact F') N') rfl kl_mpf_div_sign
theorem ld_mpf_div_bc {Q : Value → Shared → Prop} (F : Fr h₀ L s.heap (fm nm_mpf_div [o0, o1, o2, o3, o4, some v, o6, o7, o8, o9, o10, o11, o12, o13, o14, o15, o16, o17, o18])) (h : Q v s) : wpAny M A (eval (.Name (Str.ofString "bc") pos) (envOf cn sc_mpf_div L a cd)) Q E s := ld F ((fm_get ix_mpf_div_bc).trans rfl) h rfl kl_mpf_div_bc hd_bc
theorem ldn_mpf_div_bc {Q : Value → Shared → Prop} (F : Fr h₀ L s.heap (fm nm_mpf_div [o0, o1, o2, o3, o4, some v, o6, o7, o8, o9, o10, o11, o12, o13, o14, o15, o16, o17, o18])) (h : Q v s) : wpAny M A (loadName (envOf cn sc_mpf_div L a cd) (Str.ofString "bc")) Q E s := ldn F ((fm_get ix_mpf_div_bc).trans rfl) h rfl kl_mpf_div_bc
theorem st_mpf_div_bc {Q : Unit → Shared → Prop} (F : Fr h₀ L s.heap (fm nm_mpf_div [o0, o1, o2, o3, o4, o5, o6, o7, o8, o9, o10, o11, o12, o13, o14, o15, o16, o17, o18])) (N : News h₀ L s.heap news) (h : ∀ h' k', Fr h₀ L h' (fm nm_mpf_div [o0, o1, o2, o3, o4, some v, o6, o7, o8, o9, o10, o11, o12, o13, o14, o15, o16, o17, o18]) → News h₀ L h' news → Q () { s with heap := h', toks := k' }) : wpAny M A (storeName (envOf cn sc_mpf_div L a cd) (Str.ofString "bc") v) Q E s := r_st F N (fun h' k' F' N' => h h' k' (by rw [fm_set ix_mpf_div_bc (by decide) rfl] at F'; exact F') N') rfl kl_mpf_div_bc
theorem ld_mpf_div_ssign {Q : Value → Shared → Prop} (F : Fr h₀ L s.heap (fm nm_mpf_div [o0, o1, o2, o3, o4, o5, some v, o7, o8, o9, o10, o11, o12, o13, o14, o15, o16, o17, o18])) (h : Q v s) : wpAny M A (eval (.Name (Str.ofString "ssign") pos) (envOf cn sc_mpf_div L a cd)) Q E s := ld F ((fm_get ix_mpf_div_ssign).trans rfl) h rfl kl_mpf_div_ssign hd_ssign
theorem ldn_mpf_div_ssign {Q : Value → Shared → Prop} (F : Fr h₀ L s.heap (fm nm_mpf_div [o0, o1, o2, o3, o4, o5, some v, o7, o8, o9, o10, o11, o12, o13, o14, o15, o16, o17, o18])) (h : Q v s) : wpAny M A (loadName (envOf cn sc_mpf_div L a cd) (Str.ofString "ssign")) Q E s := ldn F ((fm_get ix_mpf_div_ssign).trans rfl) h rfl kl_mpf_div_ssign
theorem st_mpf_div_ssign {Q : Unit → Shared → Prop} (F : Fr h₀ L s.heap (fm nm_mpf_div [o0, o1, o2, o3, o4, o5, o6, o7, o8, o9, o10, o11, o12, o13, o14, o15, o16, o17, o18])) (N : News h₀ L s.heap news) (h : ∀ h' k', Fr h₀ L h' (fm nm_mpf_div [o0, o1, o2, o3, o4, o5, some v, o7, o8, o9, o10, o11, o12, o13, o14, o15, o16, o17, o18]) → News h₀ L h' news → Q () { s with heap := h', toks := k' }) : wpAny M A (storeName (envOf cn sc_mpf_div L a cd) (Str.ofString "ssign") v) Q E s := r_st F N (fun h' k' F' N' => h h' k' (by rw [fm_set ix_mpf_div_ssign (by decide) rfl] at F'; exact F') N') rfl kl_mpf_div_ssign
theorem ld_mpf_div_sman {Q : Value → Shared → Prop} (F : Fr h₀ L s.heap (fm nm_mpf_div [o0, o1, o2, o3, o4, o5, o6, some v, o8, o9, o10, o11, o12, o13, o14, o15, o16, o17, o18])) (h : Q v s) : wpAny M A (eval (.Name (Str.ofString "sman") pos) (envOf cn sc_mpf_div L a cd)) Q E s := ld F ((fm_get ix_mpf_div_sman).trans rfl) h rfl kl_mpf_div_sman hd_sman
theorem ldn_mpf_div_sman {Q : Value → Shared → Prop} (F : Fr h₀ L s.heap (fm nm_mpf_div [o0, o1, o2, o3, o4, o5, o6, some v, o8, o9, o10, o11, o12, o13, o14, o15, o16, o17, o18])) (h : Q v s) : wpAny M A (loadName (envOf cn sc_mpf_div L a cd) (Str.ofString "sman")) Q E s := ldn F ((fm_get ix_mpf_div_sman).trans rfl) h rfl kl_mpf_div_sman
theorem st_mpf_div_sman {Q : Unit → Shared → Prop} (F : Fr h₀ L s.heap (fm nm_mpf_div [o0, o1, o2, o3, o4, o5, o6, o7, o8, o9, o10, o11, o12, o13, o14, o15, o16, o17, o18])) (N : News h₀ L s.heap news) (h : ∀ h' k', Fr h₀ L h' (fm nm_mpf_div [o0, o1, o2, o3, o4, o5, o6, some v, o8, o9, o10, o11, o12, o13, o14, o15, o16, o17, o18]) → News h₀ L h' news → Q () { s with heap := h', toks := k' }) : wpAny M A (storeName (envOf cn sc_mpf_div L a cd) (Str.ofString "sman") v) Q E s := r_st F N (fun h' k' F' N' => h h' k' (by rw [fm_set ix_mpf_div_sman (by decide) rfl] at F'; exact F') N') rfl kl_mpf_div_sman
theorem ld_mpf_div_sexp {Q : Value → Shared → Prop} (F : Fr h₀ L s.heap (fm nm_mpf_div [o0, o1, o2, o3, o4, o5, o6, o7, some v, o9, o10, o11, o12, o13, o14, o15, o16, o17, o18])) (h : Q v s) : wpAny M A (eval (.Name (Str.ofString "sexp") pos) (envOf cn sc_mpf_div L a cd)) Q E s := ld F ((fm_get ix_mpf_div_sexp).trans rfl) h rfl kl_mpf_div_sexp hd_sexp
theorem ldn_mpf_div_sexp {Q : Value → Shared → Prop} (F : Fr h₀ L s.heap (fm nm_mpf_div [o0, o1, o2, o3, o4, o5, o6, o7, some v, o9, o10, o11, o12, o13, o14, o15, o16, o17, o18])) (h : Q v s) : wpAny M A (loadName (envOf cn sc_mpf_div L a cd) (Str.ofString "sexp")) Q E s := ldn F ((fm_get ix_mpf_div_sexp).trans rfl) h rfl kl_mpf_div_sexp
theorem st_mpf_div_sexp {Q : Unit → Shared → Prop} (F : Fr h₀ L s.heap (fm nm_mpf_div [o0, o1, o2, o3, o4, o5, o6, o7, o8, o9, o10, o11, o12, o13, o14, o15, o16, o17, o18])) (N : News h₀ L s.heap news) (h : ∀ h' k', Fr h₀ L h' (fm nm_mpf_div [o0, o1, o2, o3, o4, o5, o6, o7, some v, o9, o10, o11, o12, o13, o14, o15, o16, o17, o18]) → News h₀ L h' news → Q () { s with heap := h', toks := k' }) : wpAny M A (storeName (envOf cn sc_mpf_div L a cd) (Str.ofString "sexp") v) Q E s := r_st F N (fun h' k' F' N' => h h' k' (by rw [fm_set ix_mpf_div_sexp (by decide) rfl] at F'; exact F') N') rfl kl_mpf_div_sexp
theorem ld_mpf_div_sbc {Q : Value → Shared → Prop} (F : Fr h₀ L s.heap (fm nm_mpf_div [o0, o1, o2, o3, o4, o5, o6, o7, o8, some v, o10, o11, o12, o13, o14, o15, o16, o17, o18])) (h : Q v s) : wpAny M A (eval (.Name (Str.ofString "sbc") pos) (envOf cn sc_mpf_div L a cd)) Q E s := ld F ((fm_get ix_mpf_div_sbc).trans rfl) h rfl kl_mpf_div_sbc hd_sbc
theorem ldn_mpf_div_sbc {Q : Value → Shared → Prop} (F : Fr h₀ L s.heap (fm nm_mpf_div [o0, o1, o2, o3, o4, o5, o6, o7, o8, some v, o10, o11, o12, o13, o14, o15, o16, o17, o18])) (h : Q v s) : wpAny M A (loadName (envOf cn sc_mpf_div L a cd) (Str.ofString "sbc")) Q E s := ldn F ((fm_get ix_mpf_div_sbc).trans rfl) h rfl kl_mpf_div_sbc
theorem st_mpf_div_sbc {Q : Unit → Shared → Prop} (F : Fr h₀ L s.heap (fm nm_mpf_div [o0, o1, o2, o3, o4, o5, o6, o7, o8, o9, o10, o11, o12, o13, o14, o15, o16, o17, o18])) (N : News h₀ L s.heap news) (h : ∀ h' k', Fr h₀ L h' (fm nm_mpf_div [o0, o1, o2, o3, o4, o5, o6, o7, o8, some v, o10, o11, o12, o13, o14, o15, o16, o17, o18]) → News h₀ L h' news → Q () { s with heap := h', toks := k' }) : wpAny M A (storeName (envOf cn sc_mpf_div L a cd) (Str.ofString "sbc") v) Q E s := r_st F N (fun h' k' F' N' => h h' k' (by rw [fm_set ix_mpf_div_sbc (by decide) rfl] at F'; exact F') N') rfl kl_mpf_div_sbc
theorem ld_mpf_div_tsign {Q : Value → Shared → Prop} (F : Fr h₀ L s.heap (fm nm_mpf_div [o0, o1, o2, o3, o4, o5, o6, o7, o8, o9, some v, o11, o12, o13, o14, o15, o16, o17, o18])) (h : Q v s) : wpAny M A (eval (.Name (Str.ofString "tsign") pos) (envOf cn sc_mpf_div L a cd)) Q E s := ld F ((fm_get ix_mpf_div_tsign).trans rfl) h rfl kl_mpf_div_tsign hd_tsign
theorem ldn_mpf_div_tsign {Q : Value → Shared → Prop} (F : Fr h₀ L s.heap (fm nm_mpf_div [o0, o1, o2, o3, o4, o5, o6, o7, o8, o9, some v, o11, o12, o13, o14, o15, o16, o17, o18])) (h : Q v s) : wpAny M A (loadName (envOf cn sc_mpf_div L a cd) (Str.ofString "tsign")) Q E s := ldn F ((fm_get ix_mpf_div_tsign).trans rfl) h rfl kl_mpf_div_tsign
theorem st_mpf_div_tsign {Q : Unit → Shared → Prop} (F : Fr h₀ L s.heap (fm nm_mpf_div [o0, o1, o2, o3, o4, o5, o6, o7, o8, o9, o10, o11, o12, o13, o14, o15, o16, o17, o18])) (N : News h₀ L s.heap news) (h : ∀ h' k', Fr h₀ L h' (fm nm_mpf_div [o0, o1, o2, o3, o4, o5, o6, o7, o8, o9, some v, o11, o12, o13, o14, o15, o16, o17, o18]) → News h₀ L h' news → Q () { s with heap := h', toks := k' }) : wpAny M A (storeName (envOf cn sc_mpf_div L a cd) (Str.ofString "tsign") v) Q E s := r_st F N (fun h' k' F' N' => h h' k' (by rw [fm_set ix_mpf_div_tsign (by decide) rfl] at F'; exact F') N') rfl kl_mpf_div_tsign
theorem ld_mpf_div_tman {Q : Value → Shared → Prop} (F : Fr h₀ L s.heap (fm nm_mpf_div [o0, o1, o2, o3, o4, o5, o6, o7, o8, o9, o10, some v, o12, o13, o14, o15, o16, o17, o18])) (h : Q v s) : wpAny M A (eval (.Name (Str.ofString "tman") pos) (envOf cn sc_mpf_div L a cd)) Q E s := ld F ((fm_get ix_mpf_div_tman).trans rfl) h rfl kl_mpf_div_tman hd_tman
theorem ldn_mpf_div_tman {Q : Value → Shared → Prop} (F : Fr h₀ L s.heap (fm nm_mpf_div [o0, o1, o2, o3, o4, o5, o6, o7, o8, o9, o10, some v, o12, o13, o14, o15, o16, o17, o18])) (h : Q v s) : wpAny M A (loadName (envOf cn sc_mpf_div L a cd) (Str.ofString "tman")) Q E s := ldn F ((fm_get ix_mpf_div_tman).trans rfl) h rfl kl_mpf_div_tman
theorem st_mpf_div_tman {Q : Unit → Shared → Prop} (F : Fr h₀ L s.heap (fm nm_mpf_div [o0, o1, o2, o3, o4, o5, o6, o7, o8, o9, o10, o11, o12, o13, o14, o15, o16, o17, o18])) (N : News h₀ L s.heap news) (h : ∀ h' k', Fr h₀ L h' (fm nm_mpf_div [o0, o1, o2, o3, o4, o5, o6, o7, o8, o9, o10, some v, o12, o13, o14, o15, o16, o17, o18]) → News h₀ L h' news → Q () { s with heap := h', toks := k' }) : wpAny M A (storeName (envOf cn sc_mpf_div L a cd) (Str.ofString "tman") v) Q E s := r_st F N (fun h' k' F' N' => h h' k' (by rw [fm_set ix_mpf_div_tman (by decide) rfl] at F'; exact F') N') rfl kl_mpf_div_tman
theorem ld_mpf_div_texp {Q : Value → Shared → Prop} (F : Fr h₀ L s.heap (fm nm_mpf_div [o0, o1, o2, o3, o4, o5, o6, o7, o8, o9, o10, o11, some v, o13, o14, o15, o16, o17, o18])) (h : Q v s) : wpAny M A (eval (.Name (Str.ofString "texp") pos) (envOf cn sc_mpf_div L a cd)) Q E s := ld F ((fm_get ix_mpf_div_texp).trans rfl) h rfl kl_mpf_div_texp hd_texp
theorem ldn_mpf_div_texp {Q : Value → Shared → Prop} (F : Fr h₀ L s.heap (fm nm_mpf_div [o0, o1, o2, o3, o4, o5, o6, o7, o8, o9, o10, o11, some v, o13, o14, o15, o16, o17, o18])) (h : Q v s) : wpAny M A (loadName (envOf cn sc_mpf_div L a cd) (Str.ofString "texp")) Q E s := ldn F ((fm_get ix_mpf_div_texp).trans rfl) h rfl kl_mpf_div_texp
theorem st_mpf_div_texp {Q : Unit → Shared → Prop} (F : Fr h₀ L s.heap (fm nm_mpf_div [o0, o1, o2, o3, o4, o5, o6, o7, o8, o9, o10, o11, o12, o13, o14, o15, o16, o17, o18])) (N : News h₀ L s.heap news) (h : ∀ h' k', Fr h₀ L h' (fm nm_mpf_div [o0, o1, o2, o3, o4, o5, o6, o7, o8, o9, o10, o11, some v, o13, o14, o15, o16, o17, o18]) → News h₀ L h' news → Q () { s with heap := h', toks := k' }) : wpAny M A (storeName (envOf cn sc_mpf_div L a cd) (Str.ofString "texp") v) Q E s := r_st F N (fun h' k' F' N' => h h' k' (by rw [fm_set ix_mpf_div_texp (by decide) rfl] at F'; exact F') N') rfl kl_mpf_div_texp
theorem ld_mpf_div_tbc {Q : Value → Shared → Prop} (F : Fr h₀ L s.heap (fm nm_mpf_div [o0, o1, o2, o3, o4, o5, o6, o7, o8, o9, o10, o11, o12, some v, o14, o15, o16, o17, o18])) (h : Q v s) : wpAny M A (eval (.Name (Str.ofString "tbc") pos) (envOf cn sc_mpf_div L a cd)) Q E s := ld F ((fm_get ix_mpf_div_tbc).trans rfl) h rfl kl_mpf_div_tbc hd_tbc
theorem ldn_mpf_div_tbc {Q : Value → Shared → Prop} (F : Fr h₀ L s.heap (fm nm_mpf_div [o0, o1, o2, o3, o4, o5, o6, o7, o8, o9, o10, o11, o12, some v, o14, o15, o16, o17, o18])) (h : Q v s) : wpAny M A (loadName (envOf cn sc_mpf_div L a cd) (Str.ofString "tbc")) Q E s := ldn F ((fm_get ix_mpf_div_tbc).trans rfl) h rfl kl_mpf_div_tbc
theorem st_mpf_div_tbc {Q : Unit → Shared → Prop} (F : Fr h₀ L s.heap (fm nm_mpf_div [o0, o1, o2, o3, o4, o5, o6, o7, o8, o9, o10, o11, o12, o13, o14, o15, o16, o17, o18])) (N : News h₀ L s.heap news) (h : ∀ h' k', Fr h₀ L h' (fm nm_mpf_div [o0, o1, o2, o3, o4, o5, o6, o7, o8, o9, o10, o11, o12, some v, o14, o15, o16, o17, o18]) → News h₀ L h' news → Q () { s with heap := h', toks := k' }) : wpAny M A (storeName (envOf cn sc_mpf_div L a cd) (Str.ofString "tbc") v) Q E s := r_st F N (fun h' k' F' N' => h h' k' (by rw [fm_set ix_mpf_div_tbc (by decide) rfl] at F'; exact F') N') rfl kl_mpf_div_tbc
theorem ld_mpf_div_s_special {Q : Value → Shared → Prop} (F : Fr h₀ L s.heap (fm nm_mpf_div [o0, o1, o2, o3, o4, o5, o6, o7, o8, o9, o10, o11, o12, o13, some v, o15, o16, o17, o18])) (h : Q v s) : wpAny M A (eval (.Name (Str.ofString "s_special") pos) (envOf cn sc_mpf_div L a cd)) Q E s := ld F ((fm_get ix_mpf_div_s_special).trans rfl) h rfl kl_mpf_div_s_special hd_s_special
theorem ldn_mpf_div_s_special {Q : Value → Shared → Prop} (F : Fr h₀ L s.heap (fm nm_mpf_div [o0, o1, o2, o3, o4, o5, o6, o7, o8, o9, o10, o11, o12, o13, some v, o15, o16, o17, o18])) (h : Q v s) : wpAny M A (loadName (envOf cn sc_mpf_div L a cd) (Str.ofString "s_special")) Q E s := ldn F ((fm_get ix_mpf_div_s_special).trans rfl) h rfl kl_mpf_div_s_special
theorem st_mpf_div_s_special {Q : Unit → Shared → Prop} (F : Fr h₀ L s.heap (fm nm_mpf_div [o0, o1, o2, o3, o4, o5, o6, o7, o8, o9, o10, o11, o12, o13, o14, o15, o16, o17, o18])) (N : News h₀ L s.heap news) (h : ∀ h' k', Fr h₀ L h' (fm nm_mpf_div [o0, o1, o2, o3, o4, o5, o6, o7, o8, o9, o10, o11, o12, o13, some v, o15, o16, o17, o18]) → News h₀ L h' news → Q () { s with heap := h', toks := k' }) : wpAny M A (storeName (envOf cn sc_mpf_div L a cd) (Str.ofString "s_special") v) Q E s := r_st F N (fun h' k' F' N' => h h' k' (by rw [fm_set ix_mpf_div_s_special (by decide) rfl] at F'; exact F') N') rfl kl_mpf_div_s_special
theorem ld_mpf_div_t_special {Q : Value → Shared → Prop} (F : Fr h₀ L s.heap (fm nm_mpf_div [o0, o1, o2, o3, o4, o5, o6, o7, o8, o9, o10, o11, o12, o13, o14, some v, o16, o17, o18])) (h : Q v s) : wpAny M A (eval (.Name (Str.ofString "t_special") pos) (envOf cn sc_mpf_div L a cd)) Q E s := ld F ((fm_get ix_mpf_div_t_special).trans rfl) h rfl kl_mpf_div_t_special hd_t_special
theorem ldn_mpf_div_t_special {Q : Value → Shared → Prop} (F : Fr h₀ L s.heap (fm nm_mpf_div [o0, o1, o2, o3, o4, o5, o6, o7, o8, o9, o10, o11, o12, o13, o14, some v, o16, o17, o18])) (h : Q v s) : wpAny M A (loadName (envOf cn sc_mpf_div L a cd) (Str.ofString "t_special")) Q E s := ldn F ((fm_get ix_mpf_div_t_special).trans rfl) h rfl kl_mpf_div_t_special
theorem st_mpf_div_t_special {Q : Unit → Shared → Prop} (F : Fr h₀ L s.heap (fm nm_mpf_div [o0, o1, o2, o3, o4, o5, o6, o7, o8, o9, o10, o11, o12, o13, o14, o15, o16, o17, o18])) (N : News h₀ L s.heap news) (h : ∀ h' k', Fr h₀ L h' (fm nm_mpf_div [o0, o1, o2, o3, o4, o5, o6, o7, o8, o9, o10, o11, o12, o13, o14, some v, o16, o17, o18]) → News h₀ L h' news → Q () { s with heap := h', toks := k' }) : wpAny M A (storeName (envOf cn sc_mpf_div L a cd) (Str.ofString "t_special") v) Q E s := r_st F N (fun h' k' F' N' => h h' k' (by rw [fm_set ix_mpf_div_t_special (by decide) rfl] at F'; exact F') N') rfl kl_mpf_div_t_special
theorem ld_mpf_div_extra {Q : Value → Shared → Prop} (F : Fr h₀ L s.heap (fm nm_mpf_div [o0, o1, o2, o3, o4, o5, o6, o7, o8, o9, o10, o11, o12, o13, o14, o15, some v, o17, o18])) (h : Q v s) : wpAny M A (eval (.Name (Str.ofString "extra") pos) (envOf cn sc_mpf_div L a cd)) Q E s := ld F ((fm_get ix_mpf_div_extra).trans rfl) h rfl kl_mpf_div_extra hd_extra
theorem ldn_mpf_div_extra {Q : Value → Shared → Prop} (F : Fr h₀ L s.heap (fm nm_mpf_div [o0, o1, o2, o3, o4, o5, o6, o7, o8, o9, o10, o11, o12, o13, o14, o15, some v, o17, o18])) (h : Q v s) : wpAny M A (loadName (envOf cn sc_mpf_div L a cd) (Str.ofString "extra")) Q E s := ldn F ((fm_get ix_mpf_div_extra).trans rfl) h rfl kl_mpf_div_extra
theorem st_mpf_div_extra {Q : Unit → Shared → Prop} (F : Fr h₀ L s.heap (fm nm_mpf_div [o0, o1, o2, o3, o4, o5, o6, o7, o8, o9, o10, o11, o12, o13, o14, o15, o16, o17, o18])) (N : News h₀ L s.heap news) (h : ∀ h' k', Fr h₀ L h' (fm nm_mpf_div [o0, o1, o2, o3, o4, o5, o6, o7, o8, o9, o10, o11, o12, o13, o14, o15, some v, o17, o18]) → News h₀ L h' news → Q () { s with heap := h', toks := k' }) : wpAny M A (storeName (envOf cn sc_mpf_div L a cd) (Str.ofString "extra") v) Q E s := r_st F N (fun h' k' F' N' => h h' k' (by rw [fm_set ix_mpf_div_extra (by decide) rfl] at F'; exact F') N') rfl kl_mpf_div_extra
theorem ld_mpf_div_quot {Q : Value → Shared → Prop} (F : Fr h₀ L s.heap (fm nm_mpf_div [o0, o1, o2, o3, o4, o5, o6, o7, o8, o9, o10, o11, o12, o13, o14, o15, o16, some v, o18])) (h : Q v s) : wpAny M A (eval (.Name (Str.ofString "quot") pos) (envOf cn sc_mpf_div L a cd)) Q E s := ld F ((fm_get ix_mpf_div_quot).trans rfl) h rfl kl_mpf_div_quot hd_quot
theorem ldn_mpf_div_quot {Q : Value → Shared → Prop} (F : Fr h₀ L s.heap (fm nm_mpf_div [o0, o1, o2, o3, o4, o5, o6, o7, o8, o9, o10, o11, o12, o13, o14, o15, o16, some v, o18])) (h : Q v s) : wpAny M A (loadName (envOf cn sc_mpf_div L a cd) (Str.ofString "quot")) Q E s := ldn F ((fm_get ix_mpf_div_quot).trans rfl) h rfl kl_mpf_div_quot
theorem st_mpf_div_quot {Q : Unit → Shared → Prop} (F : Fr h₀ L s.heap (fm nm_mpf_div [o0, o1, o2, o3, o4, o5, o6, o7, o8, o9, o10, o11, o12, o13, o14, o15, o16, o17, o18])) (N : News h₀ L s.heap news) (h : ∀ h' k', Fr h₀ L h' (fm nm_mpf_div [o0, o1, o2, o3, o4, o5, o6, o7, o8, o9, o10, o11, o12, o13, o14, o15, o16, some v, o18]) → News h₀ L h' news → Q () { s with heap := h', toks := k' }) : wpAny M A (storeName (envOf cn sc_mpf_div L a cd) (Str.ofString "quot") v) Q E s := r_st F N (fun h' k' F' N' => h h' k' (by rw [fm_set ix_mpf_div_quot (by decide) rfl] at F'; exact F') N') rfl kl_mpf_div_quot
theorem ld_mpf_div_rem {Q : Value → Shared → Prop} (F : Fr h₀ L s.heap (fm nm_mpf_div [o0, o1, o2, o3, o4, o5, o6, o7, o8, o9, o10, o11, o12, o13, o14, o15, o16, o17, some v])) (h : Q v s) : wpAny M A (eval (.Name (Str.ofString "rem") pos) (envOf cn sc_mpf_div L a cd)) Q E s := ld F ((fm_get ix_mpf_div_rem).trans rfl) h rfl kl_mpf_div_rem hd_rem
theorem ldn_mpf_div_rem {Q : Value → Shared → Prop} (F : Fr h₀ L s.heap (fm nm_mpf_div [o0, o1, o2, o3, o4, o5, o6, o7, o8, o9, o10, o11, o12, o13, o14, o15, o16, o17, some v])) (h : Q v s) : wpAny M A (loadName (envOf cn sc_mpf_div L a cd) (Str.ofString "rem")) Q E s := ldn F ((fm_get ix_mpf_div_rem).trans rfl) h rfl kl_mpf_div_rem
theorem st_mpf_div_rem {Q : Unit → Shared → Prop} (F : Fr h₀ L s.heap (fm nm_mpf_div [o0, o1, o2, o3, o4, o5, o6, o7, o8, o9, o10, o11, o12, o13, o14, o15, o16, o17, o18])) (N : News h₀ L s.heap news) (h : ∀ h' k', Fr h₀ L h' (fm nm_mpf_div [o0, o1, o2, o3, o4, o5, o6, o7, o8, o9, o10, o11, o12, o13, o14, o15, o16, o17, some v]) → News h₀ L h' news → Q () { s with heap := h', toks := k' }) : wpAny M A (storeName (envOf cn sc_mpf_div L a cd) (Str.ofString "rem") v) Q E s := r_st F N (fun h' k' F' N' => h h' k' (by rw [fm_set ix_mpf_div_rem (by decide) rfl] at F'; exact F') N') rfl kl_mpf_div_rem
end
end Mine

local macro_rules | `(tactic| walk_at "eval Name") => `(tactic| (
  k_here; with_reducible (first
   | (refine' ld_mpf_div_s ?hF9 ?_; (case hF9 => assumption))
   | (refine' ld_mpf_div_t ?hF9 ?_; (case hF9 => assumption))
   | (refine' ld_mpf_div_prec ?hF9 ?_; (case hF9 => assumption))
   | (refine' ld_mpf_div_rnd ?hF9 ?_; (case hF9 => assumption))
   | (refine' ld_mpf_div_sign ?hF9 ?_; (case hF9 => assumption))
   | (refine' ld_mpf_div_bc ?hF9 ?_; (case hF9 => assumption))
   | (refine' ld_mpf_div_ssign ?hF9 ?_; (case hF9 => assumption))
   | (refine' ld_mpf_div_sman ?hF9 ?_; (case hF9 => assumption))
   | (refine' ld_mpf_div_sexp ?hF9 ?_; (case hF9 => assumption))
   | (refine' ld_mpf_div_sbc ?hF9 ?_; (case hF9 => assumption))
   | (refine' ld_mpf_div_tsign ?hF9 ?_; (case hF9 => assumption))
   | (refine' ld_mpf_div_tman ?hF9 ?_; (case hF9 => assumption))
   | (refine' ld_mpf_div_texp ?hF9 ?_; (case hF9 => assumption))
   | (refine' ld_mpf_div_tbc ?hF9 ?_; (case hF9 => assumption))
   | (refine' ld_mpf_div_s_special ?hF9 ?_; (case hF9 => assumption))
   | (refine' ld_mpf_div_t_special ?hF9 ?_; (case hF9 => assumption))
   | (refine' ld_mpf_div_extra ?hF9 ?_; (case hF9 => assumption))
   | (refine' ld_mpf_div_quot ?hF9 ?_; (case hF9 => assumption))
   | (refine' ld_mpf_div_rem ?hF9 ?_; (case hF9 => assumption))
   | (refine' gname gl_fzero hd_fzero ?hF9 ?hX9 ?hT9 rfl kl_mpf_div_fzero ?_; (case hF9 => assumption); (case hX9 => assumption); (case hT9 => assumption))
   | (refine' bname bl_ZeroDivisionError bv_ZeroDivisionError bn_ZeroDivisionError hd_ZeroDivisionError ?hF9 ?hX9 ?hT9 rfl kl_mpf_div_ZeroDivisionError ?_; (case hF9 => assumption); (case hX9 => assumption); (case hT9 => assumption))
   | (refine' gname gl_fnan hd_fnan ?hF9 ?hX9 ?hT9 rfl kl_mpf_div_fnan ?_; (case hF9 => assumption); (case hX9 => assumption); (case hT9 => assumption))
   | (refine' gname gl_finf hd_finf ?hF9 ?hX9 ?hT9 rfl kl_mpf_div_finf ?_; (case hF9 => assumption); (case hX9 => assumption); (case hT9 => assumption))
   | (refine' gname gl_fninf hd_fninf ?hF9 ?hX9 ?hT9 rfl kl_mpf_div_fninf ?_; (case hF9 => assumption); (case hX9 => assumption); (case hT9 => assumption))
   | (refine' gname gl_mpf_sign hd_mpf_sign ?hF9 ?hX9 ?hT9 rfl kl_mpf_div_mpf_sign ?_; (case hF9 => assumption); (case hX9 => assumption); (case hT9 => assumption))
   | (refine' gname gl_normalize hd_normalize ?hF9 ?hX9 ?hT9 rfl kl_mpf_div_normalize ?_; (case hF9 => assumption); (case hX9 => assumption); (case hT9 => assumption))
   | (refine' bname bl_max bv_max bn_max hd_max ?hF9 ?hX9 ?hT9 rfl kl_mpf_div_max ?_; (case hF9 => assumption); (case hX9 => assumption); (case hT9 => assumption))
   | (refine' bname bl_divmod bv_divmod bn_divmod hd_divmod ?hF9 ?hX9 ?hT9 rfl kl_mpf_div_divmod ?_; (case hF9 => assumption); (case hX9 => assumption); (case hT9 => assumption)))))
local macro_rules | `(tactic| walk_at "loadName") => `(tactic| (
  k_here; with_reducible (first
   | (refine' ldn_mpf_div_s ?hF9 ?_; (case hF9 => assumption))
   | (refine' ldn_mpf_div_t ?hF9 ?_; (case hF9 => assumption))
   | (refine' ldn_mpf_div_prec ?hF9 ?_; (case hF9 => assumption))
   | (refine' ldn_mpf_div_rnd ?hF9 ?_; (case hF9 => assumption))
   | (refine' ldn_mpf_div_sign ?hF9 ?_; (case hF9 => assumption))
   | (refine' ldn_mpf_div_bc ?hF9 ?_; (case hF9 => assumption))
   | (refine' ldn_mpf_div_ssign ?hF9 ?_; (case hF9 => assumption))
   | (refine' ldn_mpf_div_sman ?hF9 ?_; (case hF9 => assumption))
   | (refine' ldn_mpf_div_sexp ?hF9 ?_; (case hF9 => assumption))
   | (refine' ldn_mpf_div_sbc ?hF9 ?_; (case hF9 => assumption))
   | (refine' ldn_mpf_div_tsign ?hF9 ?_; (case hF9 => assumption))
   | (refine' ldn_mpf_div_tman ?hF9 ?_; (case hF9 => assumption))
   | (refine' ldn_mpf_div_texp ?hF9 ?_; (case hF9 => assumption))
   | (refine' ldn_mpf_div_tbc ?hF9 ?_; (case hF9 => assumption))
   | (refine' ldn_mpf_div_s_special ?hF9 ?_; (case hF9 => assumption))
   | (refine' ldn_mpf_div_t_special ?hF9 ?_; (case hF9 => assumption))
   | (refine' ldn_mpf_div_extra ?hF9 ?_; (case hF9 => assumption))
   | (refine' ldn_mpf_div_quot ?hF9 ?_; (case hF9 => assumption))
   | (refine' ldn_mpf_div_rem ?hF9 ?_; (case hF9 => assumption)))))
local macro_rules | `(tactic| walk_at "storeName") => `(tactic| (
  k_here; with_reducible (first
   | (refine' st_mpf_div_s ?hF9 ?hN9 ?_; (case hF9 => assumption); (case hN9 => assumption); intro _ _ _ _; (try dsimp only); (try k_sweep))
   | (refine' st_mpf_div_t ?hF9 ?hN9 ?_; (case hF9 => assumption); (case hN9 => assumption); intro _ _ _ _; (try dsimp only); (try k_sweep))
   | (refine' st_mpf_div_prec ?hF9 ?hN9 ?_; (case hF9 => assumption); (case hN9 => assumption); intro _ _ _ _; (try dsimp only); (try k_sweep))
   | (refine' st_mpf_div_rnd ?hF9 ?hN9 ?_; (case hF9 => assumption); (case hN9 => assumption); intro _ _ _ _; (try dsimp only); (try k_sweep))
   | (refine' st_mpf_div_sign ?hF9 ?hN9 ?_; (case hF9 => assumption); (case hN9 => assumption); intro _ _ _ _; (try dsimp only); (try k_sweep))
   | (refine' st_mpf_div_bc ?hF9 ?hN9 ?_; (case hF9 => assumption); (case hN9 => assumption); intro _ _ _ _; (try dsimp only); (try k_sweep))
   | (refine' st_mpf_div_ssign ?hF9 ?hN9 ?_; (case hF9 => assumption); (case hN9 => assumption); intro _ _ _ _; (try dsimp only); (try k_sweep))
   | (refine' st_mpf_div_sman ?hF9 ?hN9 ?_; (case hF9 => assumption); (case hN9 => assumption); intro _ _ _ _; (try dsimp only); (try k_sweep))
   | (refine' st_mpf_div_sexp ?hF9 ?hN9 ?_; (case hF9 => assumption); (case hN9 => assumption); intro _ _ _ _; (try dsimp only); (try k_sweep))
   | (refine' st_mpf_div_sbc ?hF9 ?hN9 ?_; (case hF9 => assumption); (case hN9 => assumption); intro _ _ _ _; (try dsimp only); (try k_sweep))
   | (refine' st_mpf_div_tsign ?hF9 ?hN9 ?_; (case hF9 => assumption); (case hN9 => assumption); intro _ _ _ _; (try dsimp only); (try k_sweep))
   | (refine' st_mpf_div_tman ?hF9 ?hN9 ?_; (case hF9 => assumption); (case hN9 => assumption); intro _ _ _ _; (try dsimp only); (try k_sweep))
   | (refine' st_mpf_div_texp ?hF9 ?hN9 ?_; (case hF9 => assumption); (case hN9 => assumption); intro _ _ _ _; (try dsimp only); (try k_sweep))
   | (refine' st_mpf_div_tbc ?hF9 ?hN9 ?_; (case hF9 => assumption); (case hN9 => assumption); intro _ _ _ _; (try dsimp only); (try k_sweep))
   | (refine' st_mpf_div_s_special ?hF9 ?hN9 ?_; (case hF9 => assumption); (case hN9 => assumption); intro _ _ _ _; (try dsimp only); (try k_sweep))
   | (refine' st_mpf_div_t_special ?hF9 ?hN9 ?_; (case hF9 => assumption); (case hN9 => assumption); intro _ _ _ _; (try dsimp only); (try k_sweep))
   | (refine' st_mpf_div_extra ?hF9 ?hN9 ?_; (case hF9 => assumption); (case hN9 => assumption); intro _ _ _ _; (try dsimp only); (try k_sweep))
   | (refine' st_mpf_div_quot ?hF9 ?hN9 ?_; (case hF9 => assumption); (case hN9 => assumption); intro _ _ _ _; (try dsimp only); (try k_sweep))
   | (refine' st_mpf_div_rem ?hF9 ?hN9 ?_; (case hF9 => assumption); (case hN9 => assumption); intro _ _ _ _; (try dsimp only); (try k_sweep)))))
set_option hygiene false in
local macro_rules | `(tactic| walk_at "M base") => `(tactic| (
  (rename Fr _ _ _ _ => F1);
  (replace F1 := base_mpf_div F1)))

local macro_rules | `(tactic| walk_at "call builtin:divmod") => `(tactic| (k_here; (refine r_divmod (by assumption) (by assumption) ?kk1 ?kk2 ?kk3 ?_); (case kk1 => omega); (case kk2 => omega); (case kk3 => omega); intro _ _ _ _ _ _ _ _ _ _ _ _ _ _ _ _ _; (try dsimp only)))
local macro_rules | `(tactic| walk_at "binaryOp LShift int int") => `(tactic| (k_here; (refine r_shlb ?kk1 ?kk2 ?kk3 ?_); (case kk1 => omega); (case kk2 => omega); (case kk3 => omega); intro _ _ _ _ _ _ _; (try dsimp only)))
namespace Mine
set_option maxHeartbeats 40000000 in
theorem c_div (sp tp : Addr) (sg m1 e1 m2 e2 c1 c2 prec : Int) (rnd : Str) (t1 t2 t3 t4 u1 u2 u3 u4 t5 t6 : Tok) (news : List (Addr × Obj)) (hsg : sg = 0 ∨ sg = 1) (hm1 : 0 < m1) (hm2 : 0 < m2) (hc1 : Is c1 (bl m1)) (hc2 : Is c2 (bl m2)) (hb1 : bl m1 ≤ 8000) (hb2 : bl m2 ≤ 8000) (hp : 1 ≤ prec) (hp2 : prec ≤ 1000) (hw : WayOk rnd) (hlt : sp < tp) (hl : ∀ p ∈ news, p.1 < sp) :
   Ctr 101 [.ref sp, .ref tp, .int prec t5, .str rnd t6] 4
     ((tp, { cls := .type "tuple", data := .seq #[.int 0 u1, .int m2 u2, .int e2 u3, .int c2 u4] }) :: (sp, { cls := .type "tuple", data := .seq #[.int sg t1, .int m1 t2, .int e1 t3, .int c1 t4] }) :: news)
     (fun r ne => ∃ b t1 t2 t3 t4 m e c, r = .ref b ∧ ne = (b, { cls := .type "tuple", data := .seq #[.int sg t1, .int m t2, .int e t3, .int c t4] }) :: news ∧ (∀ p ∈ news, p.1 < b) ∧ divF sg m1 e1 c1 m2 e2 c2 prec rnd = (m, e, c)) (fun _ => False) := by
  have hb1' : c1 ≤ 8000 := hc1.out ▸ hb1
  have hb2' : c2 ≤ 8000 := hc2.out ▸ hb2
  have hb1'' : 0 ≤ c1 := hc1.out ▸ bl_nonneg _
  have hb2'' : 0 ≤ c2 := hc2.out ▸ bl_nonneg _
  walk_at "M enter"
  walk_at "M base"
  k_steps
  all_goals first
    | (exfalso; omega)
    | (walk_at "M retD"
       walk_at "M is"
       law_clear
       simp_all only [divF, divX, ↓reduceIte, not_false_eq_true, not_true_eq_false, ne_eq]
       done)
    | fail
end Mine
end
--CON
set_option hygiene false in
local macro_rules | `(tactic| walk_at "call ref") => `(tactic| (
  k_here; (with_reducible show wpAny _ _ (call (Value.ref 101) _) _ _ _);
  (refine' Ctr.use (c_div _ _ _ _ _ _ _ _ _ _ _ _ _ _ _ _ _ _ _ _ _ _ ?cs ?cp ?cp2 ?ci1 ?ci2 ?cb1 ?cb2 ?cq ?cq2 ?cw ?clt ?cl) ?cB ?cF ?cX ?cN ?cT ?cK ?cD ?cU (fun _ _ _ _ _ h => h.elim) ?_);
  (case cN => k_asm); (case cs => assumption); (case cp => assumption); (case cp2 => assumption); (case ci1 => assumption); (case ci2 => assumption); (case cb1 => omega); (case cb2 => omega); (case cq => assumption); (case cq2 => assumption); (case cw => assumption);
  (case clt => exact lt_head (by assumption)); (case cl => assumption);
  (case cB => k_asm); (case cF => k_asm); (case cX => k_asm); (case cT => k_asm); (case cK => first | exact rfl | assumption);
  (case cD => first | (dsimp only [Around.deeper]; omega) | ktr_room); (case cU => first | (dsimp only [Around.deeper]; omega) | ktr_units);
  intro r9 ne9 h9 k9 F9 N9 hr9; obtain ⟨b9, t19, t29, t39, t49, m9, e9, c9, rfl, rfl, l9, n9⟩ := hr9; (try dsimp only)))
--END

section
namespace Mine
theorem hd_from_int : (Str.ofString "from_int" == ("__debug__" : Str)) = false := by decide +kernel
theorem hd_mpf_div : (Str.ofString "mpf_div" == ("__debug__" : Str)) = false := by decide +kernel
theorem hd_p : (Str.ofString "p" == ("__debug__" : Str)) = false := by decide +kernel
theorem hd_q : (Str.ofString "q" == ("__debug__" : Str)) = false := by decide +kernel
theorem gl_mpf_div (P : Params) : nsIn (Mine.hd.heap_39 P) mainGlobals (Str.ofString "mpf_div") = some (some (.ref 101)) := by kernel_rfl!
theorem gl_from_int (P : Params) : nsIn (Mine.hd.heap_39 P) mainGlobals (Str.ofString "from_int") = some (some (.ref 62)) := by kernel_rfl!
abbrev sc_from_rational : Scope := { kind := .function, names := [(Str.ofString "p", .local), (Str.ofString "q", .local), (Str.ofString "prec", .local), (Str.ofString "rnd", .local), (Str.ofString "mpf_div", .globalImplicit), (Str.ofString "from_int", .globalImplicit)], isGenerator := false, isCoroutine := false, more := [] }
theorem kl_from_rational_p {cn : Str} {L a : Addr} {cd : Value} : (envOf cn sc_from_rational L a cd).kindOf (Str.ofString "p") = some .local := by kernel_rfl!
theorem kl_from_rational_q {cn : Str} {L a : Addr} {cd : Value} : (envOf cn sc_from_rational L a cd).kindOf (Str.ofString "q") = some .local := by kernel_rfl!
theorem kl_from_rational_prec {cn : Str} {L a : Addr} {cd : Value} : (envOf cn sc_from_rational L a cd).kindOf (Str.ofString "prec") = some .local := by kernel_rfl!
theorem kl_from_rational_rnd {cn : Str} {L a : Addr} {cd : Value} : (envOf cn sc_from_rational L a cd).kindOf (Str.ofString "rnd") = some .local := by kernel_rfl!
theorem kl_from_rational_mpf_div {cn : Str} {L a : Addr} {cd : Value} : (envOf cn sc_from_rational L a cd).kindOf (Str.ofString "mpf_div") = some .globalImplicit := by kernel_rfl!
theorem kl_from_rational_from_int {cn : Str} {L a : Addr} {cd : Value} : (envOf cn sc_from_rational L a cd).kindOf (Str.ofString "from_int") = some .globalImplicit := by kernel_rfl!
def nm_from_rational : List Str := [Str.ofString "p", Str.ofString "q", Str.ofString "prec", Str.ofString "rnd"]
theorem ix_from_rational_p : nm_from_rational.idxOf (Str.ofString "p") = 0 := by decide +kernel
theorem ix_from_rational_q : nm_from_rational.idxOf (Str.ofString "q") = 1 := by decide +kernel
theorem ix_from_rational_prec : nm_from_rational.idxOf (Str.ofString "prec") = 2 := by decide +kernel
theorem ix_from_rational_rnd : nm_from_rational.idxOf (Str.ofString "rnd") = 3 := by decide +kernel
theorem nd_from_rational : ([Str.ofString "p", Str.ofString "q", Str.ofString "prec", Str.ofString "rnd"] : List Str).Nodup := by decide +kernel
section
variable {M : Model} {A : Around} {E : Value → Shared → Prop} {s : Shared} {cn : Str} {L a : Addr} {cd : Value} {h₀ : Heap} {news : List (Addr × Obj)} {v : Value} {pos : Pos} {o0 o1 o2 o3 : Option Value}
theorem base_from_rational {h : Heap} {v0 v1 v2 v3 : Value} (F : Fr h₀ L h (fun y => List.lookup y (List.zip [Str.ofString "p", Str.ofString "q", Str.ofString "prec", Str.ofString "rnd"] [v0, v1, v2, v3]).reverse)) : Fr h₀ L h (fm nm_from_rational [some v0, some v1, some v2, some v3]) := by
  rw [fm_base (ns₂ := []) (k := 0) nd_from_rational rfl] at F
  exact F
theorem ld_from_rational_p {Q : Value → Shared → Prop} (F : Fr h₀ L s.heap (fm nm_from_rational [some v, o1, o2, o3])) (h : Q v s) : wpAny M A (eval (.Name (Str.ofString "p") pos) (envOf cn sc_from_rational L a cd)) Q E s := ld F ((fm_get ix_from_rational_p).trans rfl) h rfl kl_from_rational_p hd_p
theorem ldn_from_rational_p {Q : Value → Shared → Prop} (F : Fr h₀ L s.heap (fm nm_from_rational [some v, o1, o2, o3])) (h : Q v s) : wpAny M A (loadName (envOf cn sc_from_rational L a cd) (Str.ofString "p")) Q E s := ldn F ((fm_get ix_from_rational_p).trans rfl) h rfl kl_from_rational_p
theorem st_from_rational_p {Q : Unit → Shared → Prop} (F : Fr h₀ L s.heap (fm nm_from_rational [o0, o1, o2, o3])) (N : News h₀ L s.heap news) (h : ∀ h' k', Fr h₀ L h' (fm nm_from_rational [some v, o1, o2, o3]) → News h₀ L h' news → Q () { s with heap := h', toks := k' }) : wpAny M A (storeName (envOf cn sc_from_rational L a cd) (Str.ofString "p") v) Q E s := r_st F N (fun h' k' F' N' => h h' k' (by rw [fm_set ix_from_rational_p (by decide) rfl] at F'; exact F') N') rfl kl_from_rational_p
theorem ld_from_rational_q {Q : Value → Shared → Prop} (F : Fr h₀ L s.heap (fm nm_from_rational [o0, some v, o2, o3])) (h : Q v s) : wpAny M A (eval (.Name (Str.ofString "q") pos) (envOf cn sc_from_rational L a cd)) Q E s := ld F ((fm_get ix_from_rational_q).trans rfl) h rfl kl_from_rational_q hd_q
theorem ldn_from_rational_q {Q : Value → Shared → Prop} (F : Fr h₀ L s.heap (fm nm_from_rational [o0, some v, o2, o3])) (h : Q v s) : wpAny M A (loadName (envOf cn sc_from_rational L a cd) (Str.ofString "q")) Q E s := ldn F ((fm_get ix_from_rational_q).trans rfl) h rfl kl_from_rational_q
theorem st_from_rational_q {Q : Unit → Shared → Prop} (F : Fr h₀ L s.heap (fm nm_from_rational [o0, o1, o2, o3])) (N : News h₀ L s.heap news) (h : ∀ h' k', Fr h₀ L h' (fm nm_from_rational [o0, some v, o2, o3]) → News h₀ L h' news → Q () { s with heap := h', toks := k' }) : wpAny M A (storeName (envOf cn sc_from_rational L a cd) (Str.ofString "q") v) Q E s := r_st F N (fun h' k' F' N' => h h' k' (by rw [fm_set ix_from_rational_q (by decide) rfl] at F'; exact F') N') rfl kl_from_rational_q
theorem ld_from_rational_prec {Q : Value → Shared → Prop} (F : Fr h₀ L s.heap (fm nm_from_rational [o0, o1, some v, o3])) (h : Q v s) : wpAny M A (eval (.Name (Str.ofString "prec") pos) (envOf cn sc_from_rational L a cd)) Q E s := ld F ((fm_get ix_from_rational_prec).trans rfl) h rfl kl_from_rational_prec hd_prec
theorem ldn_from_rational_prec {Q : Value → Shared → Prop} (F : Fr h₀ L s.heap (fm nm_from_rational [o0, o1, some v, o3])) (h : Q v s) : wpAny M A (loadName (envOf cn sc_from_rational L a cd) (Str.ofString "prec")) Q E s := ldn F ((fm_get ix_from_rational_prec).trans rfl) h rfl kl_from_rational_prec
theorem st_from_rational_prec {Q : Unit → Shared → Prop} (F : Fr h₀ L s.heap (fm nm_from_rational [o0, o1, o2, o3])) (N : News h₀ L s.heap news) (h : ∀ h' k', Fr h₀ L h' (fm nm_from_rational [o0, o1, some v, o3]) → News h₀ L h' news → Q () { s with heap := h', toks := k' }) : wpAny M A (storeName (envOf cn sc_from_rational L a cd) (Str.ofString "prec") v) Q E s := r_st F N (fun h' k' F' N' => h h' k' (by rw [fm_set ix_from_rational_prec (by decide) rfl] at F'; exact F') N') rfl kl_from_rational_prec
theorem ld_from_rational_rnd {Q : Value → Shared → Prop} (F : Fr h₀ L s.heap (fm nm_from_rational [o0, o1, o2, some v])) (h : Q v s) : wpAny M A (eval (.Name (Str.ofString "rnd") pos) (envOf cn sc_from_rational L a cd)) Q E s := ld F ((fm_get ix_from_rational_rnd).trans rfl) h rfl kl_from_rational_rnd hd_rnd
theorem ldn_from_rational_rnd {Q : Value → Shared → Prop} (F : Fr h₀ L s.heap (fm nm_from_rational [o0, o1, o2, some v])) (h : Q v s) : wpAny M A (loadName (envOf cn sc_from_rational L a cd) (Str.ofString "rnd")) Q E s := ldn F ((fm_get ix_from_rational_rnd).trans rfl) h rfl kl_from_rational_rnd
theorem st_from_rational_rnd {Q : Unit → Shared → Prop} (F : Fr h₀ L s.heap (fm nm_from_rational [o0, o1, o2, o3])) (N : News h₀ L s.heap news) (h : ∀ h' k', Fr h₀ L h' (fm nm_from_rational [o0, o1, o2, some v]) → News h₀ L h' news → Q () { s with heap := h', toks := k' }) : wpAny M A (storeName (envOf cn sc_from_rational L a cd) (Str.ofString "rnd") v) Q E s := r_st F N (fun h' k' F' N' => h h' k' (by rw [fm_set ix_from_rational_rnd (by decide) rfl] at F'; exact F') N') rfl kl_from_rational_rnd
end
end Mine

local macro_rules | `(tactic| walk_at "eval Name") => `(tactic| (
  k_here; with_reducible (first
   | (refine' ld_from_rational_p ?hF9 ?_; (case hF9 => assumption))
   | (refine' ld_from_rational_q ?hF9 ?_; (case hF9 => assumption))
   | (refine' ld_from_rational_prec ?hF9 ?_; (case hF9 => assumption))
   | (refine' ld_from_rational_rnd ?hF9 ?_; (case hF9 => assumption))
   | (refine' gname gl_mpf_div hd_mpf_div ?hF9 ?hX9 ?hT9 rfl kl_from_rational_mpf_div ?_; (case hF9 => assumption); (case hX9 => assumption); (case hT9 => assumption))
   | (refine' gname gl_from_int hd_from_int ?hF9 ?hX9 ?hT9 rfl kl_from_rational_from_int ?_; (case hF9 => assumption); (case hX9 => assumption); (case hT9 => assumption)))))
local macro_rules | `(tactic| walk_at "loadName") => `(tactic| (
  k_here; with_reducible (first
   | (refine' ldn_from_rational_p ?hF9 ?_; (case hF9 => assumption))
   | (refine' ldn_from_rational_q ?hF9 ?_; (case hF9 => assumption))
   | (refine' ldn_from_rational_prec ?hF9 ?_; (case hF9 => assumption))
   | (refine' ldn_from_rational_rnd ?hF9 ?_; (case hF9 => assumption)))))
local macro_rules | `(tactic| walk_at "storeName") => `(tactic| (
  k_here; with_reducible (first
   | (refine' st_from_rational_p ?hF9 ?hN9 ?_; (case hF9 => assumption); (case hN9 => assumption); intro _ _ _ _; (try dsimp only); (try k_sweep))
   | (refine' st_from_rational_q ?hF9 ?hN9 ?_; (case hF9 => assumption); (case hN9 => assumption); intro _ _ _ _; (try dsimp only); (try k_sweep))
   | (refine' st_from_rational_prec ?hF9 ?hN9 ?_; (case hF9 => assumption); (case hN9 => assumption); intro _ _ _ _; (try dsimp only); (try k_sweep))
   | (refine' st_from_rational_rnd ?hF9 ?hN9 ?_; (case hF9 => assumption); (case hN9 => assumption); intro _ _ _ _; (try dsimp only); (try k_sweep)))))
set_option hygiene false in
local macro_rules | `(tactic| walk_at "M base") => `(tactic| (
  (rename Fr _ _ _ _ => F1);
  (replace F1 := base_from_rational F1)))

namespace Mine
/-- p over q -/
def frF (p q prec : Int) (rnd : Str) : Int × Int × Int :=
  divF (sgF p) (strip0F (absF p) 0 (bl p)).1 (strip0F (absF p) 0 (bl p)).2.1 (strip0F (absF p) 0 (bl p)).2.2 (strip0F q 0 (bl q)).1 (strip0F q 0 (bl q)).2.1 (strip0F q 0 (bl q)).2.2 prec rnd
set_option maxHeartbeats 40000000 in
theorem c_fr (p q prec : Int) (rnd : Str) (t1 t2 t5 t6 : Tok) (news : List (Addr × Obj)) (hp0 : p ≠ 0) (hq0 : 0 < q) (hb1 : bl p ≤ 8000) (hb2 : bl q ≤ 8000) (hp : 1 ≤ prec) (hp2 : prec ≤ 1000) (hw : WayOk rnd) :
   Ctr 70 [.int p t1, .int q t2, .int prec t5, .str rnd t6] 6 news
     (fun r ne => ∃ b t1 t2 t3 t4 sg m e c, r = .ref b ∧ ne = (b, { cls := .type "tuple", data := .seq #[.int sg t1, .int m t2, .int e t3, .int c t4] }) :: news ∧ (∀ p ∈ news, p.1 < b) ∧ sg = sgF p ∧ frF p q prec rnd = (m, e, c)) (fun _ => False) := by
  walk_at "M enter"
  walk_at "M base"
  k_steps
  all_goals first
    | (refine hret _ _ _ _ (by assumption) (by assumption) ⟨_, _, _, _, _, _, _, _, _, rfl, rfl, by assumption, by assumption, ?_⟩
       subst s9
       unfold frF
       simp only [*]
       done)
    | fail
end Mine
end

section
local macro_rules | `(tactic| walk_at "eval Name") => `(tactic| (
  k_here; with_reducible (first
   | (refine' ld_mpf_div_s ?hF9 ?_; (case hF9 => assumption))
   | (refine' ld_mpf_div_t ?hF9 ?_; (case hF9 => assumption))
   | (refine' ld_mpf_div_prec ?hF9 ?_; (case hF9 => assumption))
   | (refine' ld_mpf_div_rnd ?hF9 ?_; (case hF9 => assumption))
   | (refine' ld_mpf_div_sign ?hF9 ?_; (case hF9 => assumption))
   | (refine' ld_mpf_div_bc ?hF9 ?_; (case hF9 => assumption))
   | (refine' ld_mpf_div_ssign ?hF9 ?_; (case hF9 => assumption))
   | (refine' ld_mpf_div_sman ?hF9 ?_; (case hF9 => assumption))
   | (refine' ld_mpf_div_sexp ?hF9 ?_; (case hF9 => assumption))
   | (refine' ld_mpf_div_sbc ?hF9 ?_; (case hF9 => assumption))
   | (refine' ld_mpf_div_tsign ?hF9 ?_; (case hF9 => assumption))
   | (refine' ld_mpf_div_tman ?hF9 ?_; (case hF9 => assumption))
   | (refine' ld_mpf_div_texp ?hF9 ?_; (case hF9 => assumption))
   | (refine' ld_mpf_div_tbc ?hF9 ?_; (case hF9 => assumption))
   | (refine' ld_mpf_div_s_special ?hF9 ?_; (case hF9 => assumption))
   | (refine' ld_mpf_div_t_special ?hF9 ?_; (case hF9 => assumption))
   | (refine' ld_mpf_div_extra ?hF9 ?_; (case hF9 => assumption))
   | (refine' ld_mpf_div_quot ?hF9 ?_; (case hF9 => assumption))
   | (refine' ld_mpf_div_rem ?hF9 ?_; (case hF9 => assumption))
   | (refine' gname gl_fzero hd_fzero ?hF9 ?hX9 ?hT9 rfl kl_mpf_div_fzero ?_; (case hF9 => assumption); (case hX9 => assumption); (case hT9 => assumption))
   | (refine' bname bl_ZeroDivisionError bv_ZeroDivisionError bn_ZeroDivisionError hd_ZeroDivisionError ?hF9 ?hX9 ?hT9 rfl kl_mpf_div_ZeroDivisionError ?_; (case hF9 => assumption); (case hX9 => assumption); (case hT9 => assumption))
   | (refine' gname gl_fnan hd_fnan ?hF9 ?hX9 ?hT9 rfl kl_mpf_div_fnan ?_; (case hF9 => assumption); (case hX9 => assumption); (case hT9 => assumption))
   | (refine' gname gl_finf hd_finf ?hF9 ?hX9 ?hT9 rfl kl_mpf_div_finf ?_; (case hF9 => assumption); (case hX9 => assumption); (case hT9 => assumption))
   | (refine' gname gl_fninf hd_fninf ?hF9 ?hX9 ?hT9 rfl kl_mpf_div_fninf ?_; (case hF9 => assumption); (case hX9 => assumption); (case hT9 => assumption))
   | (refine' gname gl_mpf_sign hd_mpf_sign ?hF9 ?hX9 ?hT9 rfl kl_mpf_div_mpf_sign ?_; (case hF9 => assumption); (case hX9 => assumption); (case hT9 => assumption))
   | (refine' gname gl_normalize hd_normalize ?hF9 ?hX9 ?hT9 rfl kl_mpf_div_normalize ?_; (case hF9 => assumption); (case hX9 => assumption); (case hT9 => assumption))
   | (refine' bname bl_max bv_max bn_max hd_max ?hF9 ?hX9 ?hT9 rfl kl_mpf_div_max ?_; (case hF9 => assumption); (case hX9 => assumption); (case hT9 => assumption))
   | (refine' bname bl_divmod bv_divmod bn_divmod hd_divmod ?hF9 ?hX9 ?hT9 rfl kl_mpf_div_divmod ?_; (case hF9 => assumption); (case hX9 => assumption); (case hT9 => assumption)))))
local macro_rules | `(tactic| walk_at "loadName") => `(tactic| (
  k_here; with_reducible (first
   | (refine' ldn_mpf_div_s ?hF9 ?_; (case hF9 => assumption))
   | (refine' ldn_mpf_div_t ?hF9 ?_; (case hF9 => assumption))
   | (refine' ldn_mpf_div_prec ?hF9 ?_; (case hF9 => assumption))
   | (refine' ldn_mpf_div_rnd ?hF9 ?_; (case hF9 => assumption))
   | (refine' ldn_mpf_div_sign ?hF9 ?_; (case hF9 => assumption))
   | (refine' ldn_mpf_div_bc ?hF9 ?_; (case hF9 => assumption))
   | (refine' ldn_mpf_div_ssign ?hF9 ?_; (case hF9 => assumption))
   | (refine' ldn_mpf_div_sman ?hF9 ?_; (case hF9 => assumption))
   | (refine' ldn_mpf_div_sexp ?hF9 ?_; (case hF9 => assumption))
   | (refine' ldn_mpf_div_sbc ?hF9 ?_; (case hF9 => assumption))
   | (refine' ldn_mpf_div_tsign ?hF9 ?_; (case hF9 => assumption))
   | (refine' ldn_mpf_div_tman ?hF9 ?_; (case hF9 => assumption))
   | (refine' ldn_mpf_div_texp ?hF9 ?_; (case hF9 => assumption))
   | (refine' ldn_mpf_div_tbc ?hF9 ?_; (case hF9 => assumption))
   | (refine' ldn_mpf_div_s_special ?hF9 ?_; (case hF9 => assumption))
   | (refine' ldn_mpf_div_t_special ?hF9 ?_; (case hF9 => assumption))
   | (refine' ldn_mpf_div_extra ?hF9 ?_; (case hF9 => assumption))
   | (refine' ldn_mpf_div_quot ?hF9 ?_; (case hF9 => assumption))
   | (refine' ldn_mpf_div_rem ?hF9 ?_; (case hF9 => assumption)))))
local macro_rules | `(tactic| walk_at "storeName") => `(tactic| (
  k_here; with_reducible (first
   | (refine' st_mpf_div_s ?hF9 ?hN9 ?_; (case hF9 => assumption); (case hN9 => assumption); intro _ _ _ _; (try dsimp only); (try k_sweep))
   | (refine' st_mpf_div_t ?hF9 ?hN9 ?_; (case hF9 => assumption); (case hN9 => assumption); intro _ _ _ _; (try dsimp only); (try k_sweep))
   | (refine' st_mpf_div_prec ?hF9 ?hN9 ?_; (case hF9 => assumption); (case hN9 => assumption); intro _ _ _ _; (try dsimp only); (try k_sweep))
   | (refine' st_mpf_div_rnd ?hF9 ?hN9 ?_; (case hF9 => assumption); (case hN9 => assumption); intro _ _ _ _; (try dsimp only); (try k_sweep))
   | (refine' st_mpf_div_sign ?hF9 ?hN9 ?_; (case hF9 => assumption); (case hN9 => assumption); intro _ _ _ _; (try dsimp only); (try k_sweep))
   | (refine' st_mpf_div_bc ?hF9 ?hN9 ?_; (case hF9 => assumption); (case hN9 => assumption); intro _ _ _ _; (try dsimp only); (try k_sweep))
   | (refine' st_mpf_div_ssign ?hF9 ?hN9 ?_; (case hF9 => assumption); (case hN9 => assumption); intro _ _ _ _; (try dsimp only); (try k_sweep))
   | (refine' st_mpf_div_sman ?hF9 ?hN9 ?_; (case hF9 => assumption); (case hN9 => assumption); intro _ _ _ _; (try dsimp only); (try k_sweep))
   | (refine' st_mpf_div_sexp ?hF9 ?hN9 ?_; (case hF9 => assumption); (case hN9 => assumption); intro _ _ _ _; (try dsimp only); (try k_sweep))
   | (refine' st_mpf_div_sbc ?hF9 ?hN9 ?_; (case hF9 => assumption); (case hN9 => assumption); intro _ _ _ _; (try dsimp only); (try k_sweep))
   | (refine' st_mpf_div_tsign ?hF9 ?hN9 ?_; (case hF9 => assumption); (case hN9 => assumption); intro _ _ _ _; (try dsimp only); (try k_sweep))
   | (refine' st_mpf_div_tman ?hF9 ?hN9 ?_; (case hF9 => assumption); (case hN9 => assumption); intro _ _ _ _; (try dsimp only); (try k_sweep))
   | (refine' st_mpf_div_texp ?hF9 ?hN9 ?_; (case hF9 => assumption); (case hN9 => assumption); intro _ _ _ _; (try dsimp only); (try k_sweep))
   | (refine' st_mpf_div_tbc ?hF9 ?hN9 ?_; (case hF9 => assumption); (case hN9 => assumption); intro _ _ _ _; (try dsimp only); (try k_sweep))
   | (refine' st_mpf_div_s_special ?hF9 ?hN9 ?_; (case hF9 => assumption); (case hN9 => assumption); intro _ _ _ _; (try dsimp only); (try k_sweep))
   | (refine' st_mpf_div_t_special ?hF9 ?hN9 ?_; (case hF9 => assumption); (case hN9 => assumption); intro _ _ _ _; (try dsimp only); (try k_sweep))
   | (refine' st_mpf_div_extra ?hF9 ?hN9 ?_; (case hF9 => assumption); (case hN9 => assumption); intro _ _ _ _; (try dsimp only); (try k_sweep))
   | (refine' st_mpf_div_quot ?hF9 ?hN9 ?_; (case hF9 => assumption); (case hN9 => assumption); intro _ _ _ _; (try dsimp only); (try k_sweep))
   | (refine' st_mpf_div_rem ?hF9 ?hN9 ?_; (case hF9 => assumption); (case hN9 => assumption); intro _ _ _ _; (try dsimp only); (try k_sweep)))))
set_option hygiene false in
local macro_rules | `(tactic| walk_at "M base") => `(tactic| (
  (rename Fr _ _ _ _ => F1);
  (replace F1 := base_mpf_div F1)))

local macro_rules | `(tactic| walk_at "exec Raise some none") => `(tactic| (
  k_here; (with_reducible show wpAny _ _ (exec (Stmt.Raise (some (Expr.Name _ _)) none _) _) _ _ _);
  k_dflt (refine' Raise_classB rfl excClass_ZeroDivisionError ?e1 (bname bl_ZeroDivisionError bv_ZeroDivisionError bn_ZeroDivisionError hd_ZeroDivisionError (Q := fun v s₁ => v = Value.type _ ∧ s₁ = _) ?e2 ?e3 ?e4 rfl kl_mpf_div_ZeroDivisionError (And.intro (Eq.refl _) (Eq.refl _))) ?_); (case e1 => (rw [isSubtype_type]; kernel_rfl)); (case e2 => k_asm); (case e3 => k_asm); (case e4 => k_asm); intro _ _ _; (try dsimp only)))
namespace Mine
set_option maxHeartbeats 40000000 in
theorem c_div_z (tp : Addr) (m2 e2 c2 prec : Int) (rnd : Str) (u1 u2 u3 u4 t5 t6 : Tok) (news : List (Addr × Obj)) (hm2 : 0 < m2) :
   Ctr 101 [.ref 22, .ref tp, .int prec t5, .str rnd t6] 14
     ((tp, { cls := .type "tuple", data := .seq #[.int 0 u1, .int m2 u2, .int e2 u3, .int c2 u4] }) :: news)
     (fun r ne => r = .ref 22 ∧ ne = news) (fun _ => False) := by
  walk_at "M enter"
  walk_at "M base"
  k_steps
  all_goals first
    | (refine hret _ news _ _ (by assumption) (cb_drop (by assumption) (fun p hp => List.mem_cons_of_mem _ hp)) ⟨rfl, rfl⟩)
    | fail
set_option maxHeartbeats 40000000 in
theorem c_div_0 (sp : Addr) (sg m1 e1 c1 prec : Int) (rnd : Str) (u1 u2 u3 u4 t5 t6 : Tok) (news : List (Addr × Obj)) (hm1 : 0 < m1) :
   Ctr 101 [.ref sp, .ref 22, .int prec t5, .str rnd t6] 14
     ((sp, { cls := .type "tuple", data := .seq #[.int sg u1, .int m1 u2, .int e1 u3, .int c1 u4] }) :: news)
     (fun r ne => False) (fun X => X = "ZeroDivisionError") := by
  walk_at "M enter"
  walk_at "M base"
  k_steps
  all_goals exact hexc _ _ _ _ _ rfl (by assumption) (by assumption) (by assumption)
set_option maxHeartbeats 40000000 in
theorem c_div_00 (prec : Int) (rnd : Str) (t5 t6 : Tok) (news : List (Addr × Obj)) :
   Ctr 101 [.ref 22, .ref 22, .int prec t5, .str rnd t6] 14 news
     (fun r ne => False) (fun X => X = "ZeroDivisionError") := by
  walk_at "M enter"
  walk_at "M base"
  k_steps
  all_goals exact hexc _ _ _ _ _ rfl (by assumption) (by assumption) (by assumption)
end Mine
end
--CON
set_option hygiene false in
local macro_rules | `(tactic| walk_at "call ref") => `(tactic| (
  k_here; (with_reducible show wpAny _ _ (call (Value.ref 101) [Value.ref 22, _, _, _]) _ _ _);
  (refine' Ctr.use (c_div_z _ _ _ _ _ _ _ _ _ _ _ _ _ ?cp) ?cB ?cF ?cX ?cN ?cT ?cK ?cD ?cU (fun _ _ _ _ _ h => h.elim) ?_);
  (case cN => k_asm); (case cp => assumption);
  (case cB => k_asm); (case cF => k_asm); (case cX => k_asm); (case cT => k_asm); (case cK => first | exact rfl | assumption);
  (case cD => first | (dsimp only [Around.deeper]; omega) | ktr_room); (case cU => first | (dsimp only [Around.deeper]; omega) | ktr_units);
  intro r9 ne9 h9 k9 F9 N9 hr9; obtain ⟨rfl, rfl⟩ := hr9; (try dsimp only)))
set_option hygiene false in
local macro_rules | `(tactic| walk_at "call ref") => `(tactic| (
  k_here; (with_reducible show wpAny _ _ (call (Value.ref 101) [_, Value.ref 22, _, _]) _ _ _);
  (refine' Ctr.use (c_div_0 _ _ _ _ _ _ _ _ _ _ _ _ _ _ ?cp) ?cB ?cF ?cX ?cN ?cT ?cK ?cD ?cU ?_ (fun _ _ _ _ _ _ h => h.elim));
  (case cN => k_asm); (case cp => assumption);
  (case cB => k_asm); (case cF => k_asm); (case cX => k_asm); (case cT => k_asm); (case cK => first | exact rfl | assumption);
  (case cD => first | (dsimp only [Around.deeper]; omega) | ktr_room); (case cU => first | (dsimp only [Around.deeper]; omega) | ktr_units);
  intro X9 e9 g9 h9 k9 hX9 R9 F9 U9; subst hX9; (try dsimp only)))
set_option hygiene false in
local macro_rules | `(tactic| walk_at "call ref") => `(tactic| (
  k_here; (with_reducible show wpAny _ _ (call (Value.ref 101) [Value.ref 22, Value.ref 22, _, _]) _ _ _);
  (refine' Ctr.use (c_div_00 _ _ _ _ _) ?cB ?cF ?cX ?cN ?cT ?cK ?cD ?cU ?_ (fun _ _ _ _ _ _ h => h.elim)); walk_at "M use";
  intro X9 e9 g9 h9 k9 hX9 R9 F9 U9; subst hX9; (try dsimp only)))
--END

section
local macro_rules | `(tactic| walk_at "eval Name") => `(tactic| (
  k_here; with_reducible (first
   | (refine' ld_from_rational_p ?hF9 ?_; (case hF9 => assumption))
   | (refine' ld_from_rational_q ?hF9 ?_; (case hF9 => assumption))
   | (refine' ld_from_rational_prec ?hF9 ?_; (case hF9 => assumption))
   | (refine' ld_from_rational_rnd ?hF9 ?_; (case hF9 => assumption))
   | (refine' gname gl_mpf_div hd_mpf_div ?hF9 ?hX9 ?hT9 rfl kl_from_rational_mpf_div ?_; (case hF9 => assumption); (case hX9 => assumption); (case hT9 => assumption))
   | (refine' gname gl_from_int hd_from_int ?hF9 ?hX9 ?hT9 rfl kl_from_rational_from_int ?_; (case hF9 => assumption); (case hX9 => assumption); (case hT9 => assumption)))))
local macro_rules | `(tactic| walk_at "loadName") => `(tactic| (
  k_here; with_reducible (first
   | (refine' ldn_from_rational_p ?hF9 ?_; (case hF9 => assumption))
   | (refine' ldn_from_rational_q ?hF9 ?_; (case hF9 => assumption))
   | (refine' ldn_from_rational_prec ?hF9 ?_; (case hF9 => assumption))
   | (refine' ldn_from_rational_rnd ?hF9 ?_; (case hF9 => assumption)))))
local macro_rules | `(tactic| walk_at "storeName") => `(tactic| (
  k_here; with_reducible (first
   | (refine' st_from_rational_p ?hF9 ?hN9 ?_; (case hF9 => assumption); (case hN9 => assumption); intro _ _ _ _; (try dsimp only); (try k_sweep))
   | (refine' st_from_rational_q ?hF9 ?hN9 ?_; (case hF9 => assumption); (case hN9 => assumption); intro _ _ _ _; (try dsimp only); (try k_sweep))
   | (refine' st_from_rational_prec ?hF9 ?hN9 ?_; (case hF9 => assumption); (case hN9 => assumption); intro _ _ _ _; (try dsimp only); (try k_sweep))
   | (refine' st_from_rational_rnd ?hF9 ?hN9 ?_; (case hF9 => assumption); (case hN9 => assumption); intro _ _ _ _; (try dsimp only); (try k_sweep)))))
set_option hygiene false in
local macro_rules | `(tactic| walk_at "M base") => `(tactic| (
  (rename Fr _ _ _ _ => F1);
  (replace F1 := base_from_rational F1)))

namespace Mine
set_option maxHeartbeats 40000000 in
theorem c_fr_z (q prec : Int) (rnd : Str) (t1 t2 t5 t6 : Tok) (news : List (Addr × Obj)) (hq0 : 0 < q) :
   Ctr 70 [.int 0 t1, .int q t2, .int prec t5, .str rnd t6] 16 news (fun r ne => r = .ref 22 ∧ ne = news) (fun _ => False) := by
  walk_at "M enter"
  walk_at "M base"
  k_steps
  all_goals first
    | (walk_at "M ret"; exact ⟨rfl, rfl⟩)
    | fail
set_option maxHeartbeats 40000000 in
theorem c_fr_0 (p prec : Int) (rnd : Str) (t1 t2 t5 t6 : Tok) (news : List (Addr × Obj)) (hp0 : p ≠ 0) :
   Ctr 70 [.int p t1, .int 0 t2, .int prec t5, .str rnd t6] 16 news (fun r ne => False) (fun X => X = "ZeroDivisionError") := by
  walk_at "M enter"
  walk_at "M base"
  k_steps
  all_goals first
    | exact hexc _ _ _ _ _ rfl (by assumption) (by assumption) (by assumption)
    | exact hexc _ _ _ _ _ rfl (raised_drop (by assumption) (fun p hp => List.mem_cons_of_mem _ hp)) (by assumption) (by assumption)
    | fail
set_option maxHeartbeats 40000000 in
theorem c_fr_00 (prec : Int) (rnd : Str) (t1 t2 t5 t6 : Tok) (news : List (Addr × Obj)) :
   Ctr 70 [.int 0 t1, .int 0 t2, .int prec t5, .str rnd t6] 16 news (fun r ne => False) (fun X => X = "ZeroDivisionError") := by
  walk_at "M enter"
  walk_at "M base"
  k_steps
  all_goals first
    | exact hexc _ _ _ _ _ rfl (by assumption) (by assumption) (by assumption)
    | fail
end Mine
end
--CON
set_option hygiene false in
local macro_rules | `(tactic| walk_at "call ref") => `(tactic| (
  k_here; (with_reducible show wpAny _ _ (call (Value.ref 70) _) _ _ _);
  (refine' Ctr.use (c_fr _ _ _ _ _ _ _ _ _ ?cp ?cq ?cb1 ?cb2 ?cp1 ?cp2 ?cw) ?cB ?cF ?cX ?cN ?cT ?cK ?cD ?cU (fun _ _ _ _ _ h => h.elim) ?_);
  (case cp => first | assumption | omega); (case cq => first | assumption | omega); (case cb1 => first | assumption | omega); (case cb2 => first | assumption | omega); (case cp1 => first | assumption | omega); (case cp2 => first | assumption | omega); (case cw => assumption); walk_at "M use";
  intro r9 ne9 h9 k9 F9 N9 hr9; obtain ⟨b9, t19, t29, t39, t49, sg9, m9, e9, c9, rfl, rfl, l9, s9, n9⟩ := hr9; (try dsimp only)))
set_option hygiene false in
local macro_rules | `(tactic| walk_at "call ref") => `(tactic| (
  k_here; (with_reducible show wpAny _ _ (call (Value.ref 70) [Value.int 0 _, _, _, _]) _ _ _);
  (refine' Ctr.use (c_fr_z _ _ _ _ _ _ _ _ ?cp) ?cB ?cF ?cX ?cN ?cT ?cK ?cD ?cU (fun _ _ _ _ _ h => h.elim) ?_);
  (case cp => first | assumption | omega); walk_at "M use";
  intro r9 ne9 h9 k9 F9 N9 hr9; obtain ⟨rfl, rfl⟩ := hr9; (try dsimp only)))
set_option hygiene false in
local macro_rules | `(tactic| walk_at "call ref") => `(tactic| (
  k_here; (with_reducible show wpAny _ _ (call (Value.ref 70) [_, Value.int 0 _, _, _]) _ _ _);
  (refine' Ctr.use (c_fr_0 _ _ _ _ _ _ _ _ ?cp) ?cB ?cF ?cX ?cN ?cT ?cK ?cD ?cU ?_ (fun _ _ _ _ _ _ h => h.elim));
  (case cp => first | assumption | omega); walk_at "M use";
  intro X9 e9 g9 h9 k9 hX9 R9 F9 U9; subst hX9; (try dsimp only)))
set_option hygiene false in
local macro_rules | `(tactic| walk_at "call ref") => `(tactic| (
  k_here; (with_reducible show wpAny _ _ (call (Value.ref 70) [Value.int 0 _, Value.int 0 _, _, _]) _ _ _);
  (refine' Ctr.use (c_fr_00 _ _ _ _ _ _ _) ?cB ?cF ?cX ?cN ?cT ?cK ?cD ?cU ?_ (fun _ _ _ _ _ _ h => h.elim)); walk_at "M use";
  intro X9 e9 g9 h9 k9 hX9 R9 F9 U9; subst hX9; (try dsimp only)))
--END

namespace Mine
/-! rounding: what both sides reckon -/
def upW (sg : Int) (rnd : Str) (q r B : Nat) : Bool :=
  if rnd = Str.ofString "n" then (decide (B < 2 * r) || (decide (2 * r = B) && decide (q % 2 = 1)))
  else (decide (0 < r) && (decide (rnd = Str.ofString "u") || (decide (rnd = Str.ofString "c") && decide (sg = 0)) || (decide (rnd = Str.ofString "f") && decide (sg = 1))))
/-- sg and m times 2 to the e, of c bits, is N over D rounded to prec bits -/
def Rd (sg : Int) (N D : Nat) (prec : Int) (rnd : Str) (m e c : Int) : Prop :=
  ∃ (A B : Nat) (deep : Int) (t M : Nat), 0 < B ∧ A * D * 2 ^ deep.toNat = N * B * 2 ^ (-deep).toNat ∧ 2 ^ (prec.toNat - 1) ≤ A / B ∧ A / B < 2 ^ prec.toNat ∧
    A / B + (if upW sg rnd (A / B) (A % B) B = true then 1 else 0) = 2 ^ t * M ∧ M % 2 = 1 ∧ m = (M : Int) ∧ e = deep + t ∧ c = bl m
theorem upW_scale {sg : Int} {rnd : Str} {q r B r' B' : Nat} (h1 : (B < 2 * r) ↔ (B' < 2 * r')) (h2 : (2 * r = B) ↔ (2 * r' = B')) (h3 : (0 < r) ↔ (0 < r')) : upW sg rnd q r B = upW sg rnd q r' B' := by
  unfold upW
  rw [decide_eq_decide.mpr h1, decide_eq_decide.mpr h2, decide_eq_decide.mpr h3]
theorem upW_zero {sg : Int} {rnd : Str} {q B : Nat} (hB : 0 < B) : upW sg rnd q 0 B = false := by
  unfold upW
  split
  · rw [decide_eq_false (by omega), decide_eq_false (by omega)]; rfl
  · rw [decide_eq_false (by omega)]; rfl
theorem pow_shift {X Y : Nat} {a d : Int} {n : Nat} (hd : d = a + n) (h : X * 2 ^ a.toNat = Y * 2 ^ (-a).toNat) : X * 2 ^ d.toNat = Y * 2 ^ n * 2 ^ (-d).toNat := by
  subst hd
  have e1 : (a + n).toNat + (-a).toNat = a.toNat + n + (-(a + n)).toNat := by omega
  refine Nat.eq_of_mul_eq_mul_right (Nat.two_pow_pos (-a).toNat) ?_
  calc X * 2 ^ (a + ↑n).toNat * 2 ^ (-a).toNat = X * 2 ^ ((a + ↑n).toNat + (-a).toNat) := by rw [Nat.pow_add, Nat.mul_assoc]
    _ = (X * 2 ^ a.toNat) * 2 ^ n * 2 ^ (-(a + n)).toNat := by rw [e1, Nat.pow_add, Nat.pow_add]; simp only [Nat.mul_assoc]
    _ = Y * 2 ^ n * 2 ^ (-(a + ↑n)).toNat * 2 ^ (-a).toNat := by
      rw [h]
      rw [Nat.mul_assoc Y, Nat.mul_comm (2 ^ (-a).toNat) (2 ^ n), ← Nat.mul_assoc Y, Nat.mul_assoc (Y * 2 ^ n), Nat.mul_comm (2 ^ (-a).toNat), ← Nat.mul_assoc]
theorem pow_unshift {X Y : Nat} {a d : Int} {n : Nat} (hd : d = a - n) (h : X * 2 ^ a.toNat = Y * 2 ^ (-a).toNat) : X * 2 ^ n * 2 ^ d.toNat = Y * 2 ^ (-d).toNat := by
  subst hd
  have h2 := pow_shift (X := Y) (Y := X) (a := -a) (n := n) rfl (by rw [Int.neg_neg]; exact h.symm)
  have e1 : -a + (n : Int) = -(a - n) := by omega
  rw [e1, Int.neg_neg] at h2
  exact h2.symm
theorem bl_le_of_lt {a k : Nat} (h : a < 2 ^ k) : bl (a : Int) ≤ (k : Int) := bl_nat.mpr h
theorem bl_gt_of_le {a k : Nat} (h : 2 ^ k ≤ a) : (k : Int) < bl (a : Int) := by
  have : ¬ bl (a : Int) ≤ (k : Int) := fun q => by have := bl_nat.mp q; omega
  omega
theorem bl_eq {a k : Nat} (h1 : 2 ^ k ≤ a) (h2 : a < 2 ^ (k + 1)) : bl (a : Int) = (k : Int) + 1 := by
  have := bl_le_of_lt h2
  have := bl_gt_of_le h1
  omega
theorem bl_bounds {a k : Nat} (h : bl (a : Int) = (k : Int) + 1) : 2 ^ k ≤ a ∧ a < 2 ^ (k + 1) := by
  constructor
  · have : ¬ a < 2 ^ k := fun q => by have := bl_le_of_lt q; omega
    omega
  · exact bl_nat.mp (by omega)
theorem oneF_of {M : Nat} {e c : Int} (h : c = bl (M : Int) ∨ M = 1) : oneF ((M : Int), e, c) = ((M : Int), e, bl (M : Int)) := by
  unfold oneF
  by_cases h1 : M = 1
  · subst h1
    rw [if_pos (by show ((1 : Nat) : Int) = 1; decide)]
    have : bl ((1 : Nat) : Int) = 1 := by decide
    rw [this]; rfl
  · rw [if_neg (by show ¬ (M : Int) = 1; omega)]
    rcases h with h | h
    · rw [h]
    · exact absurd h h1
theorem odd_unique {t t' M M' : Nat} (h : 2 ^ t * M = 2 ^ t' * M') (h1 : M % 2 = 1) (h2 : M' % 2 = 1) : t = t' ∧ M = M' := by
  induction t generalizing t' with
  | zero =>
    cases t' with
    | zero => simpa using h
    | succ t' => rw [Nat.pow_succ, Nat.mul_comm (2 ^ t') 2, Nat.mul_assoc] at h; simp at h; omega
  | succ t ih =>
    cases t' with
    | zero => rw [Nat.pow_succ, Nat.mul_comm (2 ^ t) 2, Nat.mul_assoc] at h; simp at h; omega
    | succ t' =>
      rw [Nat.pow_succ, Nat.mul_comm (2 ^ t) 2, Nat.mul_assoc, Nat.pow_succ, Nat.mul_comm (2 ^ t') 2, Nat.mul_assoc] at h
      obtain ⟨e1, e2⟩ := ih (t' := t') (by omega)
      exact ⟨by omega, e2⟩
/-- what stands behind the stripping -/
theorem strip_bl {x : Nat} (hx : 0 < x) {ex c : Int} (hc : c = bl (x : Int) ∨ ∃ k, x = 2 ^ k) {m e c' : Int} (h : oneF (stripF (x : Int) ex c) = (m, e, c')) :
    ∃ t M : Nat, x = 2 ^ t * M ∧ M % 2 = 1 ∧ m = (M : Int) ∧ e = ex + t ∧ c' = bl m := by
  obtain ⟨k, M, e1, ho⟩ := odd_part x hx
  subst e1
  rw [strip_of k M ho, oneF_of (by
    rcases hc with hc | ⟨j, hj⟩
    · left; rw [hc, bl_mul_pow M k (by omega)]; omega
    · right
      exact (odd_unique (M' := 1) (by rw [hj, Nat.mul_one]) ho (by decide)).2)] at h
  cases h
  exact ⟨k, M, rfl, ho, rfl, rfl, rfl⟩
theorem sdv_up {sg : Int} {rnd : Str} {q r B : Nat} (hs : sg = 0 ∨ sg = 1) (hw : WayOk rnd) (hn : rnd ≠ Str.ofString "n") : upW sg rnd q r B = (decide (0 < r) && decide (sdv rnd sg = 0)) := by
  have e1 : (Str.ofString "f") ≠ (Str.ofString "n") := by decide +kernel
  have e2 : (Str.ofString "c") ≠ (Str.ofString "n") := by decide +kernel
  have e3 : (Str.ofString "u") ≠ (Str.ofString "n") := by decide +kernel
  have e4 : (Str.ofString "d") ≠ (Str.ofString "n") := by decide +kernel
  have e5 : (Str.ofString "f") ≠ (Str.ofString "c") := by decide +kernel
  have e6 : (Str.ofString "f") ≠ (Str.ofString "u") := by decide +kernel
  have e7 : (Str.ofString "f") ≠ (Str.ofString "d") := by decide +kernel
  have e8 : (Str.ofString "c") ≠ (Str.ofString "u") := by decide +kernel
  have e9 : (Str.ofString "c") ≠ (Str.ofString "d") := by decide +kernel
  have e10 : (Str.ofString "u") ≠ (Str.ofString "d") := by decide +kernel
  unfold upW sdv
  rw [if_neg hn]
  rcases hw with h | h | h | h | h
  · exact absurd h hn
  · subst h
    rcases hs with h | h <;> subst h <;> simp [e5, e6]
  · subst h
    rcases hs with h | h <;> subst h <;> simp [e5.symm, e8]
  · subst h
    rcases hs with h | h <;> subst h <;> simp [e6.symm, e8.symm, e10]
  · subst h
    rcases hs with h | h <;> subst h <;> simp [e7.symm, e9.symm, e10.symm]
theorem band_mask (a k : Nat) : band (a : Int) (shl 1 (k : Int) - 1) = ((a % 2 ^ k : Nat) : Int) := by
  have e : shl 1 (k : Int) - 1 = ((2 ^ k - 1 : Nat) : Int) := by
    have h := shl_nat 1 k
    rw [show ((1 : Nat) : Int) = 1 from rfl] at h
    rw [h, Nat.one_mul]
    have := Nat.two_pow_pos k
    omega
  rw [e, band_nn, Nat.and_two_pow_sub_one_eq_mod]
/-- rounding away n bits, n above 0 -/
theorem round_of {sg : Int} {rnd : Str} {a k : Nat} {bc prec : Int} (hs : sg = 0 ∨ sg = 1) (hw : WayOk rnd) (hn : bc - prec = (k : Int) + 1) :
    roundF sg (a : Int) bc prec rnd = ((a / 2 ^ (k + 1) + (if upW sg rnd (a / 2 ^ (k + 1)) (a % 2 ^ (k + 1)) (2 ^ (k + 1)) = true then 1 else 0) : Nat) : Int) := by
  have hp := Nat.two_pow_pos k
  have e2 : 2 ^ (k + 1) = 2 * 2 ^ k := by rw [Nat.pow_succ, Nat.mul_comm]
  have e3 : a / 2 ^ (k + 1) = a / 2 ^ k / 2 := by rw [Nat.pow_succ, Nat.div_div_eq_div_mul]
  have e4 : a % 2 ^ (k + 1) = a % 2 ^ k + 2 ^ k * (a / 2 ^ k % 2) := by rw [Nat.pow_succ, Nat.mod_mul]
  have hl := Nat.mod_lt a hp
  unfold roundF
  by_cases h : rnd = Str.ofString "n"
  · subst h
    rw [if_pos rfl]
    have h1 : bc - prec - 1 = (k : Int) := by omega
    rw [h1, shr_nat, band_one, band_two, band_mask, show (1 : Int) = ((1 : Nat) : Int) from rfl, shr_nat, Nat.pow_one, ← e3]
    unfold upW
    rw [if_pos rfl]
    generalize a % 2 ^ k = r at *
    generalize hq : a / 2 ^ k = t at *
    generalize 2 ^ k = P at *
    have hm : 2 ^ (k + 1) = 2 * P := e2
    rw [e4, hm]
    have ht := Nat.mod_two_eq_zero_or_one t
    have e5 : a / (2 * P) = t / 2 := by rw [← e3, hm]
    rw [e5]
    rcases ht with ht | ht
    · rw [ht]
      rw [if_neg (by rintro ⟨q, _⟩; exact q rfl)]
      rw [decide_eq_false (by omega), decide_eq_false (by omega)]
      rfl
    · rw [ht]
      by_cases hr : r = 0
      · subst hr
        have ht2 := Nat.mod_two_eq_zero_or_one (t / 2)
        rcases ht2 with ht2 | ht2
        · rw [ht2, if_neg (by rintro ⟨_, q | q⟩ <;> exact q rfl), decide_eq_false (by omega), decide_eq_false (by omega : ¬ 0 = 1)]
          simp
        · rw [ht2, if_pos ⟨by decide, Or.inl (by decide)⟩, decide_eq_true (by omega : 2 * (0 + P * 1) = 2 * P)]
          simp
      · rw [if_pos ⟨by decide, Or.inr (by omega)⟩, decide_eq_true (by omega : 2 * P < 2 * (r + P * 1))]
        simp
  · rw [if_neg h, sdv_up hs hw h]
    have h1 : bc - prec = ((k + 1 : Nat) : Int) := by omega
    rw [h1]
    by_cases hz : sdv rnd sg = 0
    · rw [if_neg (by simpa using hz), decide_eq_true hz, Bool.and_true]
      unfold shr
      rw [Int.toNat_natCast, show ((2 : Int) ^ (k + 1)) = ((2 ^ (k + 1) : Nat) : Int) from by simp]
      generalize hP : 2 ^ (k + 1) = P
      have hP0 : 0 < P := hP ▸ Nat.two_pow_pos (k + 1)
      rw [Int.fdiv_eq_ediv_of_nonneg _ (by omega)]
      have hdm := Nat.div_add_mod a P
      have hml := Nat.mod_lt a hP0
      by_cases hr : a % P = 0
      · rw [hr, decide_eq_false (by omega), if_neg (by decide)]
        have : (-(a : Int)) / (P : Int) = -((a / P : Nat) : Int) := by
          rw [hr] at hdm
          have e : -(a : Int) = (P : Int) * (-((a / P : Nat) : Int)) := by
            rw [Int.mul_neg]
            have : (a : Int) = ((P * (a / P) : Nat) : Int) := by omega
            rw [this]; simp
          rw [e, Int.mul_ediv_cancel_left _ (by omega)]
        rw [this]; omega
      · rw [decide_eq_true (by omega), if_pos rfl]
        have : (-(a : Int)) / (P : Int) = -((a / P : Nat) : Int) - 1 := by
          have e : -(a : Int) = ((P - a % P : Nat) : Int) + (P : Int) * (-((a / P : Nat) : Int) - 1) := by
            have e1 : (a : Int) = (P : Int) * ((a / P : Nat) : Int) + ((a % P : Nat) : Int) := by
              have : (a : Int) = ((P * (a / P) + a % P : Nat) : Int) := by omega
              rw [this]; simp
            rw [Int.mul_sub, Int.mul_neg]
            omega
          rw [e, Int.add_mul_ediv_left _ _ (by omega : (P : Int) ≠ 0), Int.ediv_eq_zero_of_lt (by omega) (by omega)]
          omega
        rw [this]; omega
    · rw [if_pos (by simpa using hz), decide_eq_false hz, Bool.and_false, shr_nat]
      rfl
/-- a man that is too long, rounded -/
theorem norm_of {sg : Int} {rnd : Str} {a k p : Nat} {ex : Int} {m e c : Int} (hs : sg = 0 ∨ sg = 1) (hw : WayOk rnd) (hb : bl (a : Int) = (p : Int) + 1 + (k + 1 : Nat)) (h : normF sg (a : Int) ex (bl (a : Int)) ((p : Int) + 1) rnd = (m, e, c)) :
    ∃ t M : Nat, 2 ^ p ≤ a / 2 ^ (k + 1) ∧ a / 2 ^ (k + 1) < 2 ^ (p + 1) ∧ a / 2 ^ (k + 1) + (if upW sg rnd (a / 2 ^ (k + 1)) (a % 2 ^ (k + 1)) (2 ^ (k + 1)) = true then 1 else 0) = 2 ^ t * M ∧ M % 2 = 1 ∧ m = (M : Int) ∧ e = ex + (k + 1 : Nat) + t ∧ c = bl m := by
  obtain ⟨b1, b2⟩ := bl_bounds (a := a) (k := p + (k + 1)) (by rw [hb]; omega)
  have hP := Nat.two_pow_pos (k + 1)
  have h1 : 2 ^ p ≤ a / 2 ^ (k + 1) := (Nat.le_div_iff_mul_le hP).mpr (by rw [← Nat.pow_add]; exact b1)
  have h2 : a / 2 ^ (k + 1) < 2 ^ (p + 1) := (Nat.div_lt_iff_lt_mul hP).mpr (by rw [← Nat.pow_add, show p + 1 + (k + 1) = p + (k + 1) + 1 from by omega]; exact b2)
  unfold normF at h
  rw [if_pos (by rw [hb]; omega), round_of (k := k) hs hw (by rw [hb]; omega)] at h
  generalize hx : a / 2 ^ (k + 1) + (if upW sg rnd (a / 2 ^ (k + 1)) (a % 2 ^ (k + 1)) (2 ^ (k + 1)) = true then 1 else 0) = x at h
  have hxl : 2 ^ p ≤ x ∧ x ≤ 2 ^ (p + 1) := by
    rw [← hx]; split <;> omega
  have hp := Nat.two_pow_pos p
  obtain ⟨t, M, q1, q2, q3, q4, q5⟩ := strip_bl (by omega) (c := (p : Int) + 1) (by
    by_cases he : x = 2 ^ (p + 1)
    · exact Or.inr ⟨_, he⟩
    · left; rw [bl_eq (k := p) hxl.1 (by omega)]) h
  refine ⟨t, M, h1, h2, ?_, q2, q3, ?_, q5⟩
  · rw [← q1]
  · rw [q4, hb]; omega
theorem rd_norm {sg man ex prec : Int} {rnd : Str} {m e c : Int} {N D : Nat} (hs : sg = 0 ∨ sg = 1) (hman : 0 < man) (hp : 1 ≤ prec) (hw : WayOk rnd) (hD : 0 < D)
    (hr : ((N * 2 ^ (-ex).toNat : Nat) : Int) = D * man * (2 ^ ex.toNat : Nat)) (h : normF sg man ex (bl man) prec rnd = (m, e, c)) : Rd sg N D prec rnd m e c := by
  obtain ⟨a, rfl⟩ := Int.eq_ofNat_of_zero_le (Int.le_of_lt hman)
  obtain ⟨p, rfl⟩ : ∃ p : Nat, prec = (p : Int) + 1 := ⟨(prec - 1).toNat, by omega⟩
  have hr' : a * D * 2 ^ ex.toNat = N * 2 ^ (-ex).toNat := by
    have : ((a * D * 2 ^ ex.toNat : Nat) : Int) = ((N * 2 ^ (-ex).toNat : Nat) : Int) := by
      rw [hr]; simp [Int.mul_comm]
    exact_mod_cast this
  have ep : ((p : Int) + 1).toNat = p + 1 := by omega
  unfold Rd
  rw [ep]
  by_cases hb : (p : Int) + 1 < bl (a : Int)
  · obtain ⟨k, hk⟩ : ∃ k : Nat, bl (a : Int) = (p : Int) + 1 + (k + 1 : Nat) := ⟨(bl (a : Int) - p - 2).toNat, by omega⟩
    obtain ⟨t, M, q1, q2, q3, q4, q5, q6, q7⟩ := norm_of hs hw hk h
    exact ⟨a, 2 ^ (k + 1), ex + (k + 1 : Nat), t, M, Nat.two_pow_pos _, pow_shift rfl hr', q1, q2, q3, q4, q5, q6, q7⟩
  · unfold normF at h
    rw [if_neg (by omega)] at h
    obtain ⟨t, M, q1, q2, q3, q4, q5⟩ := strip_bl (by omega) (Or.inl rfl) h
    have hb1 : 1 ≤ bl (a : Int) := bl_pos (by omega)
    obtain ⟨j, hj⟩ : ∃ j : Nat, bl (a : Int) = (j : Int) + 1 := ⟨(bl (a : Int) - 1).toNat, by omega⟩
    obtain ⟨b1, b2⟩ := bl_bounds hj
    obtain ⟨i, rfl⟩ : ∃ i : Nat, p = j + i := ⟨p - j, by omega⟩
    refine ⟨a * 2 ^ i, 1, ex - i, t + i, M, by decide, ?_, ?_, ?_, ?_, q2, q3, ?_, q5⟩
    · rw [Nat.mul_one, Nat.mul_assoc a, Nat.mul_comm (2 ^ i) D, ← Nat.mul_assoc]
      exact pow_unshift rfl hr'
    · rw [Nat.div_one, show j + i + 1 - 1 = j + i from rfl, Nat.pow_add]
      exact Nat.mul_le_mul_right _ b1
    · rw [Nat.div_one, show j + i + 1 = (j + 1) + i from by omega, Nat.pow_add]
      exact Nat.mul_lt_mul_of_pos_right b2 (Nat.two_pow_pos i)
    · rw [Nat.mod_one, upW_zero (by decide), if_neg (by decide), Nat.div_one, Nat.add_zero, q1, Nat.pow_add, Nat.mul_assoc, Nat.mul_comm M, ← Nat.mul_assoc]
    · rw [q4]; omega
theorem rd_fr {p q prec : Int} {rnd : Str} {m e c : Int} (hp0 : p ≠ 0) (hq : 0 < q) (hp : 1 ≤ prec) (hw : WayOk rnd) (h : frF p q prec rnd = (m, e, c)) : Rd (sgF p) p.natAbs q.natAbs prec rnd m e c := by
  have hs : sgF p = 0 ∨ sgF p = 1 := by unfold sgF; split <;> simp
  have hap : absF p = (p.natAbs : Int) := by unfold absF; split <;> omega
  have hbp : bl p = bl (p.natAbs : Int) := by rw [← hap]; unfold absF; split <;> simp only [bl_neg]
  have hqn : q = (q.natAbs : Int) := by omega
  unfold frF at h
  rw [hap, hbp] at h
  rw [hqn] at h
  generalize hN : p.natAbs = N at h ⊢
  generalize hDD : q.natAbs = D at h ⊢
  generalize sgF p = sg at h hs ⊢
  have hN0 : 0 < N := by omega
  have hD0 : 0 < D := by omega
  clear hN hDD hqn hap hbp hq hp0
  obtain ⟨k1, M1, rfl, ho1⟩ := odd_part N hN0
  obtain ⟨k2, M2, rfl, ho2⟩ := odd_part D hD0
  rw [strip0_of k1 M1 ho1, strip0_of k2 M2 ho2, bl_mul_pow M1 k1 (by omega), bl_mul_pow M2 k2 (by omega)] at h
  dsimp only at h
  have e1 : bl (M1 : Int) + k1 - k1 = bl (M1 : Int) := by omega
  have e2 : bl (M2 : Int) + k2 - k2 = bl (M2 : Int) := by omega
  rw [e1, e2, Int.zero_add, Int.zero_add] at h
  unfold divF at h
  have key : ∀ ex : Int, ∀ X : Nat, ex = (k1 : Int) - k2 - X → 2 ^ k1 * 2 ^ (-ex).toNat = 2 ^ k2 * 2 ^ X * 2 ^ ex.toNat := fun ex X hx => by
    rw [← Nat.pow_add, ← Nat.pow_add, ← Nat.pow_add]
    congr 1
    omega
  by_cases h2 : (M2 : Int) = 1
  · rw [if_pos h2] at h
    have h2' : M2 = 1 := by omega
    subst h2'
    refine rd_norm hs (by omega) hp hw (by omega) ?_ h
    have k := key ((k1 : Int) - k2) 0 (by omega)
    rw [Nat.pow_zero, Nat.mul_one] at k
    have : ((2 ^ k1 * M1 * 2 ^ (-((k1 : Int) - k2)).toNat : Nat) : Int) = ((2 ^ k2 * 1 * M1 * 2 ^ ((k1 : Int) - k2).toNat : Nat) : Int) := by
      congr 1
      rw [Nat.mul_assoc, Nat.mul_comm M1, ← Nat.mul_assoc, k, Nat.mul_one, Nat.mul_assoc, Nat.mul_comm _ M1, ← Nat.mul_assoc]
    rw [this]; simp
  · rw [if_neg h2] at h
    obtain ⟨X, hX⟩ : ∃ X : Nat, divX (bl (M1 : Int)) (bl (M2 : Int)) prec = (X : Int) := ⟨(divX (bl (M1 : Int)) (bl (M2 : Int)) prec).toNat, by unfold divX; split <;> omega⟩
    have hX2 : prec + bl (M2 : Int) + 5 ≤ bl (M1 : Int) + X := by rw [← hX]; unfold divX; split <;> omega
    rw [hX, shl_nat] at h
    have hM2 : 0 < M2 := by omega
    have ef : ((M1 * 2 ^ X : Nat) : Int).fdiv (M2 : Int) = ((M1 * 2 ^ X / M2 : Nat) : Int) := by rw [Int.fdiv_eq_ediv_of_nonneg _ (by omega)]; exact (Int.natCast_ediv _ _).symm
    have em : ((M1 * 2 ^ X : Nat) : Int).fmod (M2 : Int) = ((M1 * 2 ^ X % M2 : Nat) : Int) := by rw [Int.fmod_eq_emod_of_nonneg _ (by omega)]; exact (Int.natCast_emod _ _).symm
    rw [ef, em] at h
    generalize hQ : M1 * 2 ^ X / M2 = Q at h
    generalize hR : M1 * 2 ^ X % M2 = R at h
    have hdm : M2 * Q + R = M1 * 2 ^ X := by rw [← hQ, ← hR]; exact Nat.div_add_mod _ _
    have hRl : R < M2 := by rw [← hR]; exact Nat.mod_lt _ hM2
    -- Q is long
    obtain ⟨pp, rfl⟩ : ∃ pp : Nat, prec = (pp : Int) + 1 := ⟨(prec - 1).toNat, by omega⟩
    obtain ⟨c1, hc1⟩ : ∃ c1 : Nat, bl (M1 : Int) = (c1 : Int) + 1 := ⟨(bl (M1 : Int) - 1).toNat, by have := bl_pos (m := (M1 : Int)) (by omega); omega⟩
    obtain ⟨c2, hc2⟩ : ∃ c2 : Nat, bl (M2 : Int) = (c2 : Int) + 1 := ⟨(bl (M2 : Int) - 1).toNat, by have := bl_pos (m := (M2 : Int)) (by omega); omega⟩
    have hQl : 2 ^ (pp + 3) ≤ Q := by
      rw [← hQ]
      refine (Nat.le_div_iff_mul_le hM2).mpr ?_
      have b1 := (bl_bounds hc1).1
      have b2 := (bl_bounds hc2).2
      calc 2 ^ (pp + 3) * M2 ≤ 2 ^ (pp + 3) * 2 ^ (c2 + 1) := Nat.mul_le_mul_left _ (by omega)
        _ = 2 ^ (pp + 3 + (c2 + 1)) := by rw [← Nat.pow_add]
        _ ≤ 2 ^ (c1 + X) := Nat.pow_le_pow_right (by decide) (by omega)
        _ = 2 ^ c1 * 2 ^ X := by rw [Nat.pow_add]
        _ ≤ M1 * 2 ^ X := Nat.mul_le_mul_right _ b1
    have hQ0 : 0 < Q := Nat.lt_of_lt_of_le (Nat.two_pow_pos _) hQl
    by_cases hR0 : R = 0
    · subst hR0
      rw [if_neg (by decide)] at h
      refine rd_norm hs (by omega) hp hw (Nat.mul_pos (Nat.two_pow_pos _) hM2) ?_ h
      have k := key ((k1 : Int) - k2 - X) X rfl
      have : ((2 ^ k1 * M1 * 2 ^ (-((k1 : Int) - k2 - X)).toNat : Nat) : Int) = ((2 ^ k2 * M2 * Q * 2 ^ ((k1 : Int) - k2 - X).toNat : Nat) : Int) := by
        congr 1
        calc 2 ^ k1 * M1 * 2 ^ (-((k1 : Int) - k2 - X)).toNat = (2 ^ k1 * 2 ^ (-((k1 : Int) - k2 - X)).toNat) * M1 := by ac_rfl
          _ = (2 ^ k2 * (M1 * 2 ^ X)) * 2 ^ ((k1 : Int) - k2 - X).toNat := by rw [k]; ac_rfl
          _ = 2 ^ k2 * M2 * Q * 2 ^ ((k1 : Int) - k2 - X).toNat := by rw [show M1 * 2 ^ X = M2 * Q from by omega]; ac_rfl
      rw [this]; simp
    · rw [if_pos (by omega)] at h
      have ey : shl (Q : Int) 1 + 1 = ((2 * Q + 1 : Nat) : Int) := by
        have := shl_nat Q 1
        rw [show ((1 : Nat) : Int) = 1 from rfl] at this
        rw [this]; omega
      rw [ey] at h
      have hy : (pp : Int) + 4 < bl ((2 * Q + 1 : Nat) : Int) := by
        have : (((pp + 4 : Nat)) : Int) < bl ((2 * Q + 1 : Nat) : Int) := bl_gt_of_le (by rw [show pp + 4 = pp + 3 + 1 from rfl, Nat.pow_succ]; omega)
        omega
      obtain ⟨k, hk⟩ : ∃ k : Nat, bl ((2 * Q + 1 : Nat) : Int) = (pp : Int) + 1 + ((k + 1) + 1 : Nat) := ⟨(bl ((2 * Q + 1 : Nat) : Int) - pp - 3).toNat, by omega⟩
      obtain ⟨t, M, q1, q2, q3, q4, q5, q6, q7⟩ := norm_of (k := k + 1) hs hw hk h
      -- the true value: 2 * M1 * 2 ^ X over M2 * 2 ^ (k + 2)
      have hP := Nat.two_pow_pos (k + 1)
      have eP : 2 ^ (k + 1 + 1) = 2 * 2 ^ (k + 1) := by rw [Nat.pow_succ, Nat.mul_comm]
      have eP1 : 2 ^ (k + 1) = 2 * 2 ^ k := by rw [Nat.pow_succ, Nat.mul_comm]
      generalize hB : 2 ^ (k + 1) = P at hP eP eP1
      have ed : (2 * Q + 1) / (2 * P) = Q / P := by
        rw [← Nat.div_div_eq_div_mul]; congr 1; omega
      have er : (2 * Q + 1) % (2 * P) = 2 * (Q % P) + 1 := by
        have h1 := Nat.div_add_mod (2 * Q + 1) (2 * P)
        have h2 := Nat.div_add_mod Q P
        rw [ed, Nat.mul_assoc] at h1
        omega
      rw [eP, ed, er] at q3
      rw [eP, ed] at q1 q2
      -- A = M1 * 2 ^ X, B = M2 * P
      have eA : M1 * 2 ^ X / (M2 * P) = Q / P := by rw [← Nat.div_div_eq_div_mul, hQ]
      have eR : M1 * 2 ^ X % (M2 * P) = M2 * (Q % P) + R := by
        have h1 := Nat.div_add_mod (M1 * 2 ^ X) (M2 * P)
        have h2 := Nat.div_add_mod Q P
        rw [eA] at h1
        have h3 : M2 * Q = M2 * P * (Q / P) + M2 * (Q % P) := by
          conv => lhs; rw [← h2]
          rw [Nat.mul_add, ← Nat.mul_assoc]
        omega
      have eu : upW sg rnd (Q / P) (2 * (Q % P) + 1) (2 * P) = upW sg rnd (Q / P) (M2 * (Q % P) + R) (M2 * P) := by
        generalize Q % P = z
        obtain ⟨H, rfl⟩ : ∃ H, P = 2 * H := ⟨_, eP1⟩
        have hz : ∀ u v : Nat, u ≤ v → M2 * u ≤ M2 * v := fun u v h => Nat.mul_le_mul_left _ h
        have e0 : M2 * (2 * H) = 2 * (M2 * H) := by rw [Nat.mul_left_comm]
        refine upW_scale ⟨fun h => ?_, fun h => ?_⟩ ⟨fun h => ?_, fun h => ?_⟩ ⟨fun _ => by omega, fun _ => by omega⟩
        · have := hz H z (by omega); omega
        · have : ¬ z + 1 ≤ H := fun q => by
            have := hz (z + 1) H q
            rw [Nat.mul_add] at this
            omega
          omega
        · omega
        · exfalso
          rcases Nat.lt_or_ge z H with q | q
          · have := hz (z + 1) H q
            rw [Nat.mul_add] at this
            omega
          · have := hz H z q; omega
      unfold Rd
      rw [show ((pp : Int) + 1).toNat = pp + 1 from by omega]
      refine ⟨M1 * 2 ^ X, M2 * P, (k1 : Int) - k2 - X + (k + 1 : Nat), t, M, Nat.mul_pos hM2 hP, ?_, ?_, ?_, ?_, q4, q5, ?_, q7⟩
      · have kk := key ((k1 : Int) - k2 - X) X rfl
        have hh : M1 * 2 ^ X * (2 ^ k2 * M2) * 2 ^ ((k1 : Int) - k2 - X).toNat = 2 ^ k1 * M1 * M2 * 2 ^ (-((k1 : Int) - k2 - X)).toNat := by
          rw [Nat.mul_assoc (2 ^ k1), Nat.mul_assoc (2 ^ k1), Nat.mul_comm (M1 * M2), ← Nat.mul_assoc (2 ^ k1), kk]
          simp only [Nat.mul_assoc, Nat.mul_comm, Nat.mul_left_comm]
        have := pow_shift (n := k + 1) rfl hh
        rw [hB] at this
        rw [this]
        simp only [Nat.mul_assoc]
      · rw [eA]; exact q1
      · rw [eA]; exact q2
      · rw [eA, eR, ← eu]; exact q3
      · rw [q6]; omega
theorem rd_le {sg : Int} {N D N' D' A B A' B' p : Nat} {deep deep' : Int} (hB : 0 < B) (hB' : 0 < B') (h1 : A * D * 2 ^ deep.toNat = N * B * 2 ^ (-deep).toNat) (h1' : A' * D' * 2 ^ deep'.toNat = N' * B' * 2 ^ (-deep').toNat)
    (h2 : A / B < 2 ^ (p + 1)) (h2' : 2 ^ p ≤ A' / B') (hN : 0 < N) (hD : 0 < D) (hD' : 0 < D') (hq : N * D' = N' * D) (hle : deep ≤ deep') : deep = deep' ∧ A * B' = A' * B := by
  obtain ⟨δ, hδ⟩ : ∃ δ : Nat, deep' = deep + δ := ⟨(deep' - deep).toNat, by omega⟩
  have key : A * B' = A' * B * 2 ^ δ := by
    have hpos : 0 < N * D' * 2 ^ (deep.toNat + (-deep').toNat) := Nat.mul_pos (Nat.mul_pos hN hD') (Nat.two_pow_pos _)
    refine Nat.eq_of_mul_eq_mul_right hpos ?_
    have e : deep.toNat + (-deep').toNat + δ = (-deep).toNat + deep'.toNat := by omega
    calc A * B' * (N * D' * 2 ^ (deep.toNat + (-deep').toNat)) = (A * D * 2 ^ deep.toNat) * (N' * B' * 2 ^ (-deep').toNat) := by
          rw [hq, Nat.pow_add]; simp only [Nat.mul_assoc, Nat.mul_comm, Nat.mul_left_comm]
      _ = (N * B * 2 ^ (-deep).toNat) * (A' * D' * 2 ^ deep'.toNat) := by rw [h1, h1']
      _ = A' * B * (N * D') * (2 ^ ((-deep).toNat + deep'.toNat)) := by rw [Nat.pow_add]; simp only [Nat.mul_assoc, Nat.mul_comm, Nat.mul_left_comm]
      _ = A' * B * 2 ^ δ * (N * D' * 2 ^ (deep.toNat + (-deep').toNat)) := by
          rw [← e, Nat.pow_add _ _ δ]; simp only [Nat.mul_assoc, Nat.mul_comm, Nat.mul_left_comm]
  have h3 : 2 ^ p * B' ≤ A' := (Nat.le_div_iff_mul_le hB').mp h2'
  have h4 : A < 2 ^ (p + 1) * B := (Nat.div_lt_iff_lt_mul hB).mp h2
  have hδ0 : δ = 0 := by
    cases δ with
    | zero => rfl
    | succ δ =>
      exfalso
      have h5 : 2 ^ (p + 1) * B * B' ≤ A * B' := by
        rw [key]
        calc 2 ^ (p + 1) * B * B' = 2 ^ p * B' * B * 2 := by rw [Nat.pow_succ]; simp only [Nat.mul_assoc, Nat.mul_comm, Nat.mul_left_comm]
          _ ≤ A' * B * 2 := Nat.mul_le_mul_right _ (Nat.mul_le_mul_right _ h3)
          _ ≤ A' * B * 2 ^ (δ + 1) := Nat.mul_le_mul_left _ (by rw [Nat.pow_succ]; have := Nat.two_pow_pos δ; omega)
      exact absurd (Nat.le_of_mul_le_mul_right h5 hB') (by omega)
  subst hδ0
  exact ⟨by omega, by simpa using key⟩
theorem rd_same {sg : Int} {rnd : Str} {A B A' B' : Nat} (hB : 0 < B) (hB' : 0 < B') (h : A * B' = A' * B) : A / B = A' / B' ∧ upW sg rnd (A / B) (A % B) B = upW sg rnd (A' / B') (A' % B') B' := by
  have e1 : A / B = A' / B' := by
    have h1 : A * B' / (B * B') = A / B := Nat.mul_div_mul_right _ _ hB'
    have h2 : A' * B / (B' * B) = A' / B' := Nat.mul_div_mul_right _ _ hB
    rw [← h1, ← h2, h, Nat.mul_comm B B']
  refine ⟨e1, ?_⟩
  rw [← e1]
  have e2 : A % B * B' = A' % B' * B := by
    have h1 := Nat.div_add_mod A B
    have h2 := Nat.div_add_mod A' B'
    have h3 : A * B' = B * (A / B) * B' + A % B * B' := by rw [← Nat.add_mul, h1]
    have h4 : A' * B = B' * (A' / B') * B + A' % B' * B := by rw [← Nat.add_mul, h2]
    have h5 : B * (A / B) * B' = B' * (A' / B') * B := by rw [e1]; simp only [Nat.mul_assoc, Nat.mul_comm, Nat.mul_left_comm]
    omega
  generalize A % B = r at e2 ⊢
  generalize A' % B' = r' at e2 ⊢
  have hBB : B * B' = B' * B := Nat.mul_comm _ _
  refine upW_scale ⟨fun q => ?_, fun q => ?_⟩ ⟨fun q => ?_, fun q => ?_⟩ ⟨fun q => ?_, fun q => ?_⟩
  · refine Nat.lt_of_mul_lt_mul_right (a := B) ?_
    have := Nat.mul_lt_mul_of_pos_right q hB'
    rw [Nat.mul_assoc] at this ⊢; omega
  · refine Nat.lt_of_mul_lt_mul_right (a := B') ?_
    have := Nat.mul_lt_mul_of_pos_right q hB
    rw [Nat.mul_assoc] at this ⊢; omega
  · refine Nat.eq_of_mul_eq_mul_right hB ?_
    rw [Nat.mul_assoc, ← e2, ← Nat.mul_assoc, q, hBB]
  · refine Nat.eq_of_mul_eq_mul_right hB' ?_
    rw [Nat.mul_assoc, e2, ← Nat.mul_assoc, q, hBB]
  · rcases Nat.eq_zero_or_pos r' with e | e
    · rw [e, Nat.zero_mul] at e2
      have := Nat.mul_pos q hB'; omega
    · exact e
  · rcases Nat.eq_zero_or_pos r with e | e
    · rw [e, Nat.zero_mul] at e2
      have := Nat.mul_pos q hB; omega
    · exact e
theorem rd_one {sg : Int} {N D N' D' : Nat} {prec : Int} {rnd : Str} {m e c m' e' c' : Int} (hp : 1 ≤ prec) (h : Rd sg N D prec rnd m e c) (h' : Rd sg N' D' prec rnd m' e' c') (hN : 0 < N) (hD : 0 < D) (hD' : 0 < D') (hq : N * D' = N' * D) :
    m = m' ∧ e = e' ∧ c = c' := by
  obtain ⟨A, B, deep, t, M, a1, a2, a3, a4, a5, a6, rfl, rfl, rfl⟩ := h
  obtain ⟨A', B', deep', t', M', b1, b2, b3, b4, b5, b6, rfl, rfl, rfl⟩ := h'
  obtain ⟨p, rfl⟩ : ∃ p : Nat, prec = (p : Int) + 1 := ⟨(prec - 1).toNat, by omega⟩
  rw [show ((p : Int) + 1).toNat = p + 1 from by omega] at a3 a4 b3 b4
  have hN' : 0 < N' := by
    rcases Nat.eq_zero_or_pos N' with e | e
    · rw [e, Nat.zero_mul] at hq
      have := Nat.mul_pos hN hD'; omega
    · exact e
  have key : deep = deep' ∧ A * B' = A' * B := by
    rcases Int.le_total deep deep' with hle | hle
    · exact rd_le (sg := sg) a1 b1 a2 b2 a4 b3 hN hD hD' hq hle
    · obtain ⟨e1, e2⟩ := rd_le (sg := sg) b1 a1 b2 a2 b4 a3 hN' hD' hD hq.symm hle
      exact ⟨e1.symm, e2.symm⟩
  obtain ⟨rfl, hAB⟩ := key
  obtain ⟨e1, e2⟩ := rd_same (sg := sg) (rnd := rnd) a1 b1 hAB
  rw [e2, e1, b5] at a5
  obtain ⟨rfl, rfl⟩ := odd_unique a5 b6 a6
  exact ⟨rfl, rfl, rfl⟩
end Mine

namespace Mine
/-- what a call gives back whose value is n over d, rounded -/
def RvRet (n d prec : Int) (rnd : Str) (news : List (Addr × Obj)) (r : Value) (ne : List (Addr × Obj)) : Prop :=
  d ≠ 0 ∧ ((n = 0 ∧ r = .ref 22 ∧ ne = news) ∨ (n ≠ 0 ∧ ∃ a t1 t2 t3 t4 m e c, r = .ref a ∧ ne = (a, { cls := .type "tuple", data := .seq #[.int (sgF n) t1, .int m t2, .int e t3, .int c t4] }) :: news ∧ (∀ p ∈ news, p.1 < a) ∧
    Rd (sgF n) n.natAbs d.natAbs prec rnd m e c))
theorem RvRet.drop {n d prec : Int} {rnd : Str} {news2 news : List (Addr × Obj)} {r : Value} {ne : List (Addr × Obj)} (h : RvRet n d prec rnd news2 r ne) (hs : ∀ p ∈ news, p ∈ news2) :
    ∃ ne', (∀ p ∈ ne', p ∈ ne) ∧ RvRet n d prec rnd news r ne' := by
  obtain ⟨hd, h | ⟨hn, a, t1, t2, t3, t4, m, e, c, h1, h2, h3, h4⟩⟩ := h
  · obtain ⟨h1, h2, h3⟩ := h
    exact ⟨news, fun p hp => h3 ▸ hs p hp, hd, Or.inl ⟨h1, h2, rfl⟩⟩
  · refine ⟨_, fun p hp => ?_, hd, Or.inr ⟨hn, a, t1, t2, t3, t4, m, e, c, h1, rfl, fun p hp => h3 p (hs p hp), h4⟩⟩
    rw [h2]
    exact (List.mem_cons.mp hp).elim (fun q => q ▸ List.mem_cons_self ..) fun q => List.mem_cons_of_mem _ (hs p q)
theorem Ctr.mono {f : Addr} {vs : List Value} {sz sz' : Nat} {news : List (Addr × Obj)} {Ret Ret' : Value → List (Addr × Obj) → Prop} {Exc Exc' : String → Prop} (h : Ctr f vs sz news Ret Exc) (hs : sz ≤ sz') (hR : ∀ r ne, Ret r ne → Ret' r ne) (hE : ∀ X, Exc X → Exc' X) : Ctr f vs sz' news Ret' Exc' :=
  fun w mean mg mb dp un gd cn cs a ccd cl outer A₀ base h₀ L m s Q E B F X N T hk hd hu hret hexc =>
    h w mean mg mb dp un gd cn cs a ccd cl outer A₀ base h₀ L m s Q E B F X N T hk (by omega) (by omega) (fun r ne h' k' F' N' q => hret r ne h' k' F' N' (hR r ne q)) fun X' e g₂ h' k' q => hexc X' e g₂ h' k' (hE X' q)
theorem sgF_or (n : Int) : sgF n = 0 ∨ sgF n = 1 := by unfold sgF; split <;> simp
theorem absF_pos {n : Int} (h : n ≠ 0) : 0 < absF n := by unfold absF; split <;> omega
theorem absF_nat (n : Int) : absF n = (n.natAbs : Int) := by unfold absF; split <;> omega
theorem bl_absF (n : Int) : bl (absF n) = bl n := by unfold absF; split <;> simp only [bl_neg]
/-- from_rational, for all p and all q that are not below 0 -/
theorem c_frR (p q prec : Int) (rnd : Str) (t1 t2 t5 t6 : Tok) (news : List (Addr × Obj)) (hq0 : 0 ≤ q) (hb1 : bl p ≤ 8000) (hb2 : bl q ≤ 8000) (hp : 1 ≤ prec) (hp2 : prec ≤ 1000) (hw : WayOk rnd) :
    Ctr 70 [.int p t1, .int q t2, .int prec t5, .str rnd t6] 16 news (RvRet p q prec rnd news) (fun X => X = "ZeroDivisionError" ∧ q = 0) := by
  by_cases hp0 : p = 0
  · subst hp0
    by_cases hq : q = 0
    · subst hq
      exact (c_fr_00 prec rnd t1 t2 t5 t6 news).mono (Nat.le_refl _) (fun _ _ h => h.elim) fun X h => ⟨h, rfl⟩
    · exact (c_fr_z q prec rnd t1 t2 t5 t6 news (by omega)).mono (Nat.le_refl _) (fun r ne h => ⟨hq, Or.inl ⟨rfl, h.1, h.2⟩⟩) fun X h => h.elim
  · by_cases hq : q = 0
    · subst hq
      exact (c_fr_0 p prec rnd t1 t2 t5 t6 news hp0).mono (Nat.le_refl _) (fun _ _ h => h.elim) fun X h => ⟨h, rfl⟩
    · refine (c_fr p q prec rnd t1 t2 t5 t6 news hp0 (by omega) hb1 hb2 hp hp2 hw).mono (by decide) (fun r ne h => ⟨hq, Or.inr ⟨hp0, ?_⟩⟩) fun X h => h.elim
      obtain ⟨b, u1, u2, u3, u4, sg, m, e, c, h1, h2, h3, h4, h5⟩ := h
      subst h4
      exact ⟨b, u1, u2, u3, u4, m, e, c, h1, h2, h3, rd_fr hp0 (by omega) hp hw h5⟩
/-- from_int -/
theorem c_fiR (man prec : Int) (rnd : Str) (t2 t3 t5 : Tok) (news : List (Addr × Obj)) (hp : 1 ≤ prec) (hb : bl man ≤ 100000) (hw : WayOk rnd) :
    Ctr 62 [.int man t2, .int prec t3, .str rnd t5] 16 news (RvRet man 1 prec rnd news) (fun _ => False) := by
  by_cases hm : man = 0
  · subst hm
    exact (c_fi3z prec rnd t2 t3 t5 news).mono (by decide) (fun r ne h => ⟨by decide, Or.inl ⟨rfl, h.1, h.2⟩⟩) fun X h => h.elim
  · refine (c_fi3 man prec rnd t2 t3 t5 hm news hp hb hw).mono (by decide) (fun r ne h => ⟨by decide, Or.inr ⟨hm, ?_⟩⟩) fun X h => h.elim
    obtain ⟨b, u1, u2, u3, u4, sg, m, e, c, h1, h2, h3, h4, h5⟩ := h
    subst h4
    rw [← bl_absF] at h5
    refine ⟨b, u1, u2, u3, u4, m, e, c, h1, h2, h3, rd_norm (sgF_or man) (absF_pos hm) hp hw (by decide) ?_ h5⟩
    rw [absF_nat]; simp
/-- man times a power of two, as a whole number over a whole number -/
def pow2N (n e : Int) : Int := if 0 ≤ e then n * 2 ^ e.toNat else n
def pow2D (e : Int) : Int := if 0 ≤ e then 1 else 2 ^ (-e).toNat
theorem pow2N_zero {n e : Int} : pow2N n e = 0 ↔ n = 0 := by
  unfold pow2N
  split
  · exact ⟨fun h => (Int.mul_eq_zero.mp h).elim id fun q => absurd q (Int.ne_of_gt (Int.pow_pos (by decide))), fun h => by rw [h, Int.zero_mul]⟩
  · exact Iff.rfl
theorem pow2D_ne {e : Int} : pow2D e ≠ 0 := by
  unfold pow2D
  split
  · decide
  · exact Int.ne_of_gt (Int.pow_pos (by decide))
theorem sgF_mul {n k : Int} (hk : 0 < k) : sgF (n * k) = sgF n := by
  unfold sgF
  by_cases h : n < 0
  · rw [if_pos h, if_pos (Int.mul_neg_of_neg_of_pos h hk)]
  · rw [if_neg h, if_neg (by have := Int.mul_nonneg (Int.not_lt.mp h) (Int.le_of_lt hk); omega)]
/-- from_man_exp -/
theorem c_fmeR (man ex prec : Int) (rnd : Str) (t2 t3 t5 t6 : Tok) (news : List (Addr × Obj)) (hp : 1 ≤ prec) (hb : bl man ≤ 100000) (hw : WayOk rnd) :
    Ctr 54 [.int man t2, .int ex t3, .int prec t5, .str rnd t6] 16 news (RvRet (pow2N man ex) (pow2D ex) prec rnd news) (fun _ => False) := by
  by_cases hm : man = 0
  · subst hm
    exact (c_fmez ex prec rnd t2 t3 t5 t6 news).mono (by decide) (fun r ne h => ⟨pow2D_ne, Or.inl ⟨pow2N_zero.mpr rfl, h.1, h.2⟩⟩) fun X h => h.elim
  · refine (c_fme man ex prec rnd t2 t3 t5 t6 hm news hp hb hw).mono (by decide) (fun r ne h => ⟨pow2D_ne, Or.inr ⟨fun q => hm (pow2N_zero.mp q), ?_⟩⟩) fun X h => h.elim
    obtain ⟨b, u1, u2, u3, u4, sg, m, e, c, h1, h2, h3, h4, h5⟩ := h
    subst h4
    rw [← bl_absF] at h5
    have hs : sgF (pow2N man ex) = sgF man := by
      unfold pow2N
      split
      · exact sgF_mul (Int.pow_pos (by decide))
      · rfl
    rw [hs]
    refine ⟨b, u1, u2, u3, u4, m, e, c, h1, h2, h3, rd_norm (sgF_or man) (absF_pos hm) hp hw (Int.natAbs_pos.mpr pow2D_ne) ?_ h5⟩
    rw [absF_nat]
    unfold pow2N pow2D
    by_cases h0 : 0 ≤ ex
    · rw [if_pos h0, if_pos h0]
      have e1 : (-ex).toNat = 0 := by omega
      rw [e1, Int.natAbs_mul, Int.natAbs_pow]
      simp
    · rw [if_neg h0, if_neg h0]
      have e1 : ex.toNat = 0 := by omega
      rw [e1, Int.natAbs_pow]
      simp [Int.mul_comm]
end Mine
--CON
set_option hygiene false in
local macro_rules | `(tactic| walk_at "call ref") => `(tactic| (
  k_here; (with_reducible show wpAny _ _ (call (Value.ref 70) _) _ _ _);
  (refine' Ctr.use (c_frR _ _ _ _ _ _ _ _ _ ?cq ?cb1 ?cb2 ?cp1 ?cp2 ?cw) ?cB ?cF ?cX ?cN ?cT ?cK ?cD ?cU ?_ ?_);
  (case cq => first | assumption | omega); (case cb1 => first | assumption | omega); (case cb2 => first | assumption | omega); (case cp1 => first | assumption | omega); (case cp2 => first | assumption | omega); (case cw => assumption); walk_at "M use";
  all_goals (first
   | (intro X9 e9 g9 h9 k9 hX9 R9 F9 U9; obtain ⟨rfl, z9⟩ := hX9; (try dsimp only))
   | (intro r9 ne9 h9 k9 F9 N9 hr9; (try dsimp only)))))
set_option hygiene false in
local macro_rules | `(tactic| walk_at "call ref") => `(tactic| (
  k_here; (with_reducible show wpAny _ _ (call (Value.ref 62) [_, _, _]) _ _ _);
  (refine' Ctr.use (c_fiR _ _ _ _ _ _ _ ?cp1 ?cb1 ?cw) ?cB ?cF ?cX ?cN ?cT ?cK ?cD ?cU (fun _ _ _ _ _ h => h.elim) ?_);
  (case cp1 => first | assumption | omega); (case cb1 => first | assumption | omega); (case cw => assumption); walk_at "M use";
  intro r9 ne9 h9 k9 F9 N9 hr9; (try dsimp only)))
set_option hygiene false in
local macro_rules | `(tactic| walk_at "call ref") => `(tactic| (
  k_here; (with_reducible show wpAny _ _ (call (Value.ref 54) [_, _, _, _]) _ _ _);
  (refine' Ctr.use (c_fmeR _ _ _ _ _ _ _ _ _ ?cp1 ?cb1 ?cw) ?cB ?cF ?cX ?cN ?cT ?cK ?cD ?cU (fun _ _ _ _ _ h => h.elim) ?_);
  (case cp1 => first | assumption | omega); (case cb1 => first | assumption | omega); (case cw => assumption); walk_at "M use";
  intro r9 ne9 h9 k9 F9 N9 hr9; (try dsimp only)))
--END

section
namespace Mine
theorem hd_ValueError : (Str.ofString "ValueError" == ("__debug__" : Str)) = false := by decide +kernel
theorem hd_a : (Str.ofString "a" == ("__debug__" : Str)) = false := by decide +kernel
theorem hd_b : (Str.ofString "b" == ("__debug__" : Str)) = false := by decide +kernel
theorem hd_base : (Str.ofString "base" == ("__debug__" : Str)) = false := by decide +kernel
theorem hd_e2 : (Str.ofString "e2" == ("__debug__" : Str)) = false := by decide +kernel
theorem hd_len : (Str.ofString "len" == ("__debug__" : Str)) = false := by decide +kernel
theorem hd_parts : (Str.ofString "parts" == ("__debug__" : Str)) = false := by decide +kernel
theorem hd_pow : (Str.ofString "pow" == ("__debug__" : Str)) = false := by decide +kernel
theorem hd_sep : (Str.ofString "sep" == ("__debug__" : Str)) = false := by decide +kernel
theorem hd_x : (Str.ofString "x" == ("__debug__" : Str)) = false := by decide +kernel
theorem bl_pow (P : Params) : nsIn (Mine.hd.heap_39 P) mainGlobals (Str.ofString "pow") = some none := by kernel_rfl!
theorem bv_pow : bootBuiltins (Str.ofString "pow") = some (.builtin "pow") := by boot_by_name
theorem bn_pow : (Str.ofString "pow") ≠ ("__name__" : Str) := by decide +kernel
theorem bl_len (P : Params) : nsIn (Mine.hd.heap_39 P) mainGlobals (Str.ofString "len") = some none := by kernel_rfl!
theorem bv_len : bootBuiltins (Str.ofString "len") = some (.builtin "len") := by boot_by_name
theorem bn_len : (Str.ofString "len") ≠ ("__name__" : Str) := by decide +kernel
theorem bl_ValueError (P : Params) : nsIn (Mine.hd.heap_39 P) mainGlobals (Str.ofString "ValueError") = some none := by kernel_rfl!
theorem bv_ValueError : bootBuiltins (Str.ofString "ValueError") = some (.type "ValueError") := by boot_by_name
theorem bn_ValueError : (Str.ofString "ValueError") ≠ ("__name__" : Str) := by decide +kernel
abbrev sc_str_to_man_exp : Scope := { kind := .function, names := [(Str.ofString "x", .local), (Str.ofString "base", .local), (Str.ofString "sep", .local), (Str.ofString "e2", .local), (Str.ofString "parts", .local), (Str.ofString "exp", .local), (Str.ofString "a", .local), (Str.ofString "b", .local), (Str.ofString "pow", .globalImplicit), (Str.ofString "len", .globalImplicit), (Str.ofString "int", .globalImplicit), (Str.ofString "ValueError", .globalImplicit)], isGenerator := false, isCoroutine := false, more := [] }
theorem kl_str_to_man_exp_x {cn : Str} {L a : Addr} {cd : Value} : (envOf cn sc_str_to_man_exp L a cd).kindOf (Str.ofString "x") = some .local := by kernel_rfl!
theorem kl_str_to_man_exp_base {cn : Str} {L a : Addr} {cd : Value} : (envOf cn sc_str_to_man_exp L a cd).kindOf (Str.ofString "base") = some .local := by kernel_rfl!
theorem kl_str_to_man_exp_sep {cn : Str} {L a : Addr} {cd : Value} : (envOf cn sc_str_to_man_exp L a cd).kindOf (Str.ofString "sep") = some .local := by kernel_rfl!
theorem kl_str_to_man_exp_e2 {cn : Str} {L a : Addr} {cd : Value} : (envOf cn sc_str_to_man_exp L a cd).kindOf (Str.ofString "e2") = some .local := by kernel_rfl!
theorem kl_str_to_man_exp_parts {cn : Str} {L a : Addr} {cd : Value} : (envOf cn sc_str_to_man_exp L a cd).kindOf (Str.ofString "parts") = some .local := by kernel_rfl!
theorem kl_str_to_man_exp_exp {cn : Str} {L a : Addr} {cd : Value} : (envOf cn sc_str_to_man_exp L a cd).kindOf (Str.ofString "exp") = some .local := by kernel_rfl!
theorem kl_str_to_man_exp_a {cn : Str} {L a : Addr} {cd : Value} : (envOf cn sc_str_to_man_exp L a cd).kindOf (Str.ofString "a") = some .local := by kernel_rfl!
theorem kl_str_to_man_exp_b {cn : Str} {L a : Addr} {cd : Value} : (envOf cn sc_str_to_man_exp L a cd).kindOf (Str.ofString "b") = some .local := by kernel_rfl!
theorem kl_str_to_man_exp_pow {cn : Str} {L a : Addr} {cd : Value} : (envOf cn sc_str_to_man_exp L a cd).kindOf (Str.ofString "pow") = some .globalImplicit := by kernel_rfl!
theorem kl_str_to_man_exp_len {cn : Str} {L a : Addr} {cd : Value} : (envOf cn sc_str_to_man_exp L a cd).kindOf (Str.ofString "len") = some .globalImplicit := by kernel_rfl!
theorem kl_str_to_man_exp_int {cn : Str} {L a : Addr} {cd : Value} : (envOf cn sc_str_to_man_exp L a cd).kindOf (Str.ofString "int") = some .globalImplicit := by kernel_rfl!
theorem kl_str_to_man_exp_ValueError {cn : Str} {L a : Addr} {cd : Value} : (envOf cn sc_str_to_man_exp L a cd).kindOf (Str.ofString "ValueError") = some .globalImplicit := by kernel_rfl!
def nm_str_to_man_exp : List Str := [Str.ofString "x", Str.ofString "base", Str.ofString "parts", Str.ofString "sep", Str.ofString "exp", Str.ofString "a", Str.ofString "b", Str.ofString "e2"]
theorem ix_str_to_man_exp_x : nm_str_to_man_exp.idxOf (Str.ofString "x") = 0 := by decide +kernel
theorem ix_str_to_man_exp_base : nm_str_to_man_exp.idxOf (Str.ofString "base") = 1 := by decide +kernel
theorem ix_str_to_man_exp_parts : nm_str_to_man_exp.idxOf (Str.ofString "parts") = 2 := by decide +kernel
theorem ix_str_to_man_exp_sep : nm_str_to_man_exp.idxOf (Str.ofString "sep") = 3 := by decide +kernel
theorem ix_str_to_man_exp_exp : nm_str_to_man_exp.idxOf (Str.ofString "exp") = 4 := by decide +kernel
theorem ix_str_to_man_exp_a : nm_str_to_man_exp.idxOf (Str.ofString "a") = 5 := by decide +kernel
theorem ix_str_to_man_exp_b : nm_str_to_man_exp.idxOf (Str.ofString "b") = 6 := by decide +kernel
theorem ix_str_to_man_exp_e2 : nm_str_to_man_exp.idxOf (Str.ofString "e2") = 7 := by decide +kernel
theorem nd_str_to_man_exp : ([Str.ofString "x", Str.ofString "base"] : List Str).Nodup := by decide +kernel
section
variable {M : Model} {A : Around} {E : Value → Shared → Prop} {s : Shared} {cn : Str} {L a : Addr} {cd : Value} {h₀ : Heap} {news : List (Addr × Obj)} {v : Value} {pos : Pos} {o0 o1 o2 o3 o4 o5 o6 o7 : Option Value}
theorem base_str_to_man_exp {h : Heap} {v0 v1 : Value} (F : Fr h₀ L h (fun y => List.lookup y (List.zip [Str.ofString "x", Str.ofString "base"] [v0, v1]).reverse)) : Fr h₀ L h (fm nm_str_to_man_exp [some v0, some v1, none, none, none, none, none, none]) := by
  rw [fm_base (ns₂ := [Str.ofString "parts", Str.ofString "sep", Str.ofString "exp", Str.ofString "a", Str.ofString "b", Str.ofString "e2"]) (k := 6) nd_str_to_man_exp rfl] at F
  exact F
theorem ld_str_to_man_exp_x {Q : Value → Shared → Prop} (F : Fr h₀ L s.heap (fm nm_str_to_man_exp [some v, o1, o2, o3, o4, o5, o6, o7])) (h : Q v s) : wpAny M A (eval (.Name (Str.ofString "x") pos) (envOf cn sc_str_to_man_exp L a cd)) Q E s := ld F ((fm_get ix_str_to_man_exp_x).trans rfl) h rfl kl_str_to_man_exp_x hd_x
theorem ldn_str_to_man_exp_x {Q : Value → Shared → Prop} (F : Fr h₀ L s.heap (fm nm_str_to_man_exp [some v, o1, o2, o3, o4, o5, o6, o7])) (h : Q v s) : wpAny M A (loadName (envOf cn sc_str_to_man_exp L a cd) (Str.ofString "x")) Q E s := ldn F ((fm_get ix_str_to_man_exp_x).trans rfl) h rfl kl_str_to_man_exp_x
theorem st_str_to_man_exp_x {Q : Unit → Shared → Prop} (F : Fr h₀ L s.heap (fm nm_str_to_man_exp [o0, o1, o2, o3, o4, o5, o6, o7])) (N : News h₀ L s.heap news) (h : ∀ h' k', Fr h₀ L h' (fm nm_str_to_man_exp [some v, o1, o2, o3, o4, o5, o6, o7]) → News h₀ L h' news → Q () { s with heap := h', toks := k' }) : wpAny M A (storeName (envOf cn sc_str_to_man_exp L a cd) (Str.ofString "x") v) Q E s := r_st F N (fun h' k' F' N' => h h' k' (by rw [fm_set ix_str_to_man_exp_x (by decide) rfl] at F'; exact F') N') rfl kl_str_to_man_exp_x
theorem ld_str_to_man_exp_base {Q : Value → Shared → Prop} (F : Fr h₀ L s.heap (fm nm_str_to_man_exp [o0, some v, o2, o3, o4, o5, o6, o7])) (h : Q v s) : wpAny M A (eval (.Name (Str.ofString "base") pos) (envOf cn sc_str_to_man_exp L a cd)) Q E s := ld F ((fm_get ix_str_to_man_exp_base).trans rfl) h rfl kl_str_to_man_exp_base hd_base
theorem ldn_str_to_man_exp_base {Q : Value → Shared → Prop} (F : Fr h₀ L s.heap (fm nm_str_to_man_exp [o0, some v, o2, o3, o4, o5, o6, o7])) (h : Q v s) : wpAny M A (loadName (envOf cn sc_str_to_man_exp L a cd) (Str.ofString "base")) Q E s := ldn F ((fm_get ix_str_to_man_exp_base).trans rfl) h rfl kl_str_to_man_exp_base
theorem st_str_to_man_exp_base {Q : Unit → Shared → Prop} (F : Fr h₀ L s.heap (fm nm_str_to_man_exp [o0, o1, o2, o3, o4, o5, o6, o7])) (N : News h₀ L s.heap news) (h : ∀ h' k', Fr h₀ L h' (fm nm_str_to_man_exp [o0, some v, o2, o3, o4, o5, o6, o7]) → News h₀ L h' news → Q () { s with heap := h', toks := k' }) : wpAny M A (storeName (envOf cn sc_str_to_man_exp L a cd) (Str.ofString "base") v) Q E s := r_st F N (fun h' k' F' N' => h h' k' (by rw [fm_set ix_str_to_man_exp_base (by decide) rfl] at F'; exact F') N') rfl kl_str_to_man_exp_base
theorem ld_str_to_man_exp_parts {Q : Value → Shared → Prop} (F : Fr h₀ L s.heap (fm nm_str_to_man_exp [o0, o1, some v, o3, o4, o5, o6, o7])) (h : Q v s) : wpAny M A (eval (.Name (Str.ofString "parts") pos) (envOf cn sc_str_to_man_exp L a cd)) Q E s := ld F ((fm_get ix_str_to_man_exp_parts).trans rfl) h rfl kl_str_to_man_exp_parts hd_parts
theorem ldn_str_to_man_exp_parts {Q : Value → Shared → Prop} (F : Fr h₀ L s.heap (fm nm_str_to_man_exp [o0, o1, some v, o3, o4, o5, o6, o7])) (h : Q v s) : wpAny M A (loadName (envOf cn sc_str_to_man_exp L a cd) (Str.ofString "parts")) Q E s := ldn F ((fm_get ix_str_to_man_exp_parts).trans rfl) h rfl kl_str_to_man_exp_parts
theorem st_str_to_man_exp_parts {Q : Unit → Shared → Prop} (F : Fr h₀ L s.heap (fm nm_str_to_man_exp [o0, o1, o2, o3, o4, o5, o6, o7])) (N : News h₀ L s.heap news) (h : ∀ h' k', Fr h₀ L h' (fm nm_str_to_man_exp [o0, o1, some v, o3, o4, o5, o6, o7]) → News h₀ L h' news → Q () { s with heap := h', toks := k' }) : wpAny M A (storeName (envOf cn sc_str_to_man_exp L a cd) (Str.ofString "parts") v) Q E s := r_st F N (fun h' k' F' N' => h h' k' (by rw [fm_set ix_str_to_man_exp_parts (by decide) rfl] at F'; exact F') N') rfl kl_str_to_man_exp_parts
theorem ld_str_to_man_exp_sep {Q : Value → Shared → Prop} (F : Fr h₀ L s.heap (fm nm_str_to_man_exp [o0, o1, o2, some v, o4, o5, o6, o7])) (h : Q v s) : wpAny M A (eval (.Name (Str.ofString "sep") pos) (envOf cn sc_str_to_man_exp L a cd)) Q E s := ld F ((fm_get ix_str_to_man_exp_sep).trans rfl) h rfl kl_str_to_man_exp_sep hd_sep
theorem ldn_str_to_man_exp_sep {Q : Value → Shared → Prop} (F : Fr h₀ L s.heap (fm nm_str_to_man_exp [o0, o1, o2, some v, o4, o5, o6, o7])) (h : Q v s) : wpAny M A (loadName (envOf cn sc_str_to_man_exp L a cd) (Str.ofString "sep")) Q E s := ldn F ((fm_get ix_str_to_man_exp_sep).trans rfl) h rfl kl_str_to_man_exp_sep
theorem st_str_to_man_exp_sep {Q : Unit → Shared → Prop} (F : Fr h₀ L s.heap (fm nm_str_to_man_exp [o0, o1, o2, o3, o4, o5, o6, o7])) (N : News h₀ L s.heap news) (h : ∀ h' k', Fr h₀ L h' (fm nm_str_to_man_exp [o0, o1, o2, some v, o4, o5, o6, o7]) → News h₀ L h' news → Q () { s with heap := h', toks := k' }) : wpAny M A (storeName (envOf cn sc_str_to_man_exp L a cd) (Str.ofString "sep") v) Q E s := r_st F N (fun h' k' F' N' => h h' k' (by rw [fm_set ix_str_to_man_exp_sep (by decide) rfl] at F'; exact F') N') rfl kl_str_to_man_exp_sep
theorem ld_str_to_man_exp_exp {Q : Value → Shared → Prop} (F : Fr h₀ L s.heap (fm nm_str_to_man_exp [o0, o1, o2, o3, some v, o5, o6, o7])) (h : Q v s) : wpAny M A (eval (.Name (Str.ofString "exp") pos) (envOf cn sc_str_to_man_exp L a cd)) Q E s := ld F ((fm_get ix_str_to_man_exp_exp).trans rfl) h rfl kl_str_to_man_exp_exp hd_exp
theorem ldn_str_to_man_exp_exp {Q : Value → Shared → Prop} (F : Fr h₀ L s.heap (fm nm_str_to_man_exp [o0, o1, o2, o3, some v, o5, o6, o7])) (h : Q v s) : wpAny M A (loadName (envOf cn sc_str_to_man_exp L a cd) (Str.ofString "exp")) Q E s := ldn F ((fm_get ix_str_to_man_exp_exp).trans rfl) h rfl kl_str_to_man_exp_exp
theorem st_str_to_man_exp_exp {Q : Unit → Shared → Prop} (F : Fr h₀ L s.heap (fm nm_str_to_man_exp [o0, o1, o2, o3, o4, o5, o6, o7])) (N : News h₀ L s.heap news) (h : ∀ h' k', Fr h₀ L h' (fm nm_str_to_man_exp [o0, o1, o2, o3, some v, o5, o6, o7]) → News h₀ L h' news → Q () { s with heap := h', toks := k' }) : wpAny M A (storeName (envOf cn sc_str_to_man_exp L a cd) (Str.ofString "exp") v) Q E s := r_st F N (fun h' k' F' N' => h h' k' (by rw [fm_set ix_str_to_man_exp_exp (by decide) rfl] at F'; exact F') N') rfl kl_str_to_man_exp_exp
theorem ld_str_to_man_exp_a {Q : Value → Shared → Prop} (F : Fr h₀ L s.heap (fm nm_str_to_man_exp [o0, o1, o2, o3, o4, some v, o6, o7])) (h : Q v s) : wpAny M A (eval (.Name (Str.ofString "a") pos) (envOf cn sc_str_to_man_exp L a cd)) Q E s := ld F ((fm_get ix_str_to_man_exp_a).trans rfl) h rfl kl_str_to_man_exp_a hd_a
theorem ldn_str_to_man_exp_a {Q : Value → Shared → Prop} (F : Fr h₀ L s.heap (fm nm_str_to_man_exp [o0, o1, o2, o3, o4, some v, o6, o7])) (h : Q v s) : wpAny M A (loadName (envOf cn sc_str_to_man_exp L a cd) (Str.ofString "a")) Q E s := ldn F ((fm_get ix_str_to_man_exp_a).trans rfl) h rfl kl_str_to_man_exp_a
theorem st_str_to_man_exp_a {Q : Unit → Shared → Prop} (F : Fr h₀ L s.heap (fm nm_str_to_man_exp [o0, o1, o2, o3, o4, o5, o6, o7])) (N : News h₀ L s.heap news) (h : ∀ h' k', Fr h₀ L h' (fm nm_str_to_man_exp [o0, o1, o2, o3, o4, some v, o6, o7]) → News h₀ L h' news → Q () { s with heap := h', toks := k' }) : wpAny M A (storeName (envOf cn sc_str_to_man_exp L a cd) (Str.ofString "a") v) Q E s := r_st F N (fun h' k' F' N' => h h' k' (by rw [fm_set ix_str_to_man_exp_a (by decide) rfl] at F'; exact F') N') rfl kl_str_to_man_exp_a
theorem ld_str_to_man_exp_b {Q : Value → Shared → Prop} (F : Fr h₀ L s.heap (fm nm_str_to_man_exp [o0, o1, o2, o3, o4, o5, some v, o7])) (h : Q v s) : wpAny M A (eval (.Name (Str.ofString "b") pos) (envOf cn sc_str_to_man_exp L a cd)) Q E s := ld F ((fm_get ix_str_to_man_exp_b).trans rfl) h rfl kl_str_to_man_exp_b hd_b
theorem ldn_str_to_man_exp_b {Q : Value → Shared → Prop} (F : Fr h₀ L s.heap (fm nm_str_to_man_exp [o0, o1, o2, o3, o4, o5, some v, o7])) (h : Q v s) : wpAny M A (loadName (envOf cn sc_str_to_man_exp L a cd) (Str.ofString "b")) Q E s := ldn F ((fm_get ix_str_to_man_exp_b).trans rfl) h rfl kl_str_to_man_exp_b
theorem st_str_to_man_exp_b {Q : Unit → Shared → Prop} (F : Fr h₀ L s.heap (fm nm_str_to_man_exp [o0, o1, o2, o3, o4, o5, o6, o7])) (N : News h₀ L s.heap news) (h : ∀ h' k', Fr h₀ L h' (fm nm_str_to_man_exp [o0, o1, o2, o3, o4, o5, some v, o7]) → News h₀ L h' news → Q () { s with heap := h', toks := k' }) : wpAny M A (storeName (envOf cn sc_str_to_man_exp L a cd) (Str.ofString "b") v) Q E s := r_st F N (fun h' k' F' N' => h h' k' (by rw [fm_set ix_str_to_man_exp_b (by decide) rfl] at F'; exact F') N') rfl kl_str_to_man_exp_b
theorem ld_str_to_man_exp_e2 {Q : Value → Shared → Prop} (F : Fr h₀ L s.heap (fm nm_str_to_man_exp [o0, o1, o2, o3, o4, o5, o6, some v])) (h : Q v s) : wpAny M A (eval (.Name (Str.ofString "e2") pos) (envOf cn sc_str_to_man_exp L a cd)) Q E s := ld F ((fm_get ix_str_to_man_exp_e2).trans rfl) h rfl kl_str_to_man_exp_e2 hd_e2
theorem ldn_str_to_man_exp_e2 {Q : Value → Shared → Prop} (F : Fr h₀ L s.heap (fm nm_str_to_man_exp [o0, o1, o2, o3, o4, o5, o6, some v])) (h : Q v s) : wpAny M A (loadName (envOf cn sc_str_to_man_exp L a cd) (Str.ofString "e2")) Q E s := ldn F ((fm_get ix_str_to_man_exp_e2).trans rfl) h rfl kl_str_to_man_exp_e2
theorem st_str_to_man_exp_e2 {Q : Unit → Shared → Prop} (F : Fr h₀ L s.heap (fm nm_str_to_man_exp [o0, o1, o2, o3, o4, o5, o6, o7])) (N : News h₀ L s.heap news) (h : ∀ h' k', Fr h₀ L h' (fm nm_str_to_man_exp [o0, o1, o2, o3, o4, o5, o6, some v]) → News h₀ L h' news → Q () { s with heap := h', toks := k' }) : wpAny M A (storeName (envOf cn sc_str_to_man_exp L a cd) (Str.ofString "e2") v) Q E s := r_st F N (fun h' k' F' N' => h h' k' (by rw [fm_set ix_str_to_man_exp_e2 (by decide) rfl] at F'; exact F') N') rfl kl_str_to_man_exp_e2
end
end Mine

local macro_rules | `(tactic| walk_at "eval Name") => `(tactic| (
  k_here; with_reducible (first
   | (refine' ld_str_to_man_exp_x ?hF9 ?_; (case hF9 => assumption))
   | (refine' ld_str_to_man_exp_base ?hF9 ?_; (case hF9 => assumption))
   | (refine' ld_str_to_man_exp_parts ?hF9 ?_; (case hF9 => assumption))
   | (refine' ld_str_to_man_exp_sep ?hF9 ?_; (case hF9 => assumption))
   | (refine' ld_str_to_man_exp_exp ?hF9 ?_; (case hF9 => assumption))
   | (refine' ld_str_to_man_exp_a ?hF9 ?_; (case hF9 => assumption))
   | (refine' ld_str_to_man_exp_b ?hF9 ?_; (case hF9 => assumption))
   | (refine' ld_str_to_man_exp_e2 ?hF9 ?_; (case hF9 => assumption))
   | (refine' bname bl_pow bv_pow bn_pow hd_pow ?hF9 ?hX9 ?hT9 rfl kl_str_to_man_exp_pow ?_; (case hF9 => assumption); (case hX9 => assumption); (case hT9 => assumption))
   | (refine' bname bl_len bv_len bn_len hd_len ?hF9 ?hX9 ?hT9 rfl kl_str_to_man_exp_len ?_; (case hF9 => assumption); (case hX9 => assumption); (case hT9 => assumption))
   | (refine' bname bl_int bv_int bn_int hd_int ?hF9 ?hX9 ?hT9 rfl kl_str_to_man_exp_int ?_; (case hF9 => assumption); (case hX9 => assumption); (case hT9 => assumption))
   | (refine' bname bl_ValueError bv_ValueError bn_ValueError hd_ValueError ?hF9 ?hX9 ?hT9 rfl kl_str_to_man_exp_ValueError ?_; (case hF9 => assumption); (case hX9 => assumption); (case hT9 => assumption)))))
local macro_rules | `(tactic| walk_at "loadName") => `(tactic| (
  k_here; with_reducible (first
   | (refine' ldn_str_to_man_exp_x ?hF9 ?_; (case hF9 => assumption))
   | (refine' ldn_str_to_man_exp_base ?hF9 ?_; (case hF9 => assumption))
   | (refine' ldn_str_to_man_exp_parts ?hF9 ?_; (case hF9 => assumption))
   | (refine' ldn_str_to_man_exp_sep ?hF9 ?_; (case hF9 => assumption))
   | (refine' ldn_str_to_man_exp_exp ?hF9 ?_; (case hF9 => assumption))
   | (refine' ldn_str_to_man_exp_a ?hF9 ?_; (case hF9 => assumption))
   | (refine' ldn_str_to_man_exp_b ?hF9 ?_; (case hF9 => assumption))
   | (refine' ldn_str_to_man_exp_e2 ?hF9 ?_; (case hF9 => assumption)))))
local macro_rules | `(tactic| walk_at "storeName") => `(tactic| (
  k_here; with_reducible (first
   | (refine' st_str_to_man_exp_x ?hF9 ?hN9 ?_; (case hF9 => assumption); (case hN9 => assumption); intro _ _ _ _; (try dsimp only); (try k_sweep))
   | (refine' st_str_to_man_exp_base ?hF9 ?hN9 ?_; (case hF9 => assumption); (case hN9 => assumption); intro _ _ _ _; (try dsimp only); (try k_sweep))
   | (refine' st_str_to_man_exp_parts ?hF9 ?hN9 ?_; (case hF9 => assumption); (case hN9 => assumption); intro _ _ _ _; (try dsimp only); (try k_sweep))
   | (refine' st_str_to_man_exp_sep ?hF9 ?hN9 ?_; (case hF9 => assumption); (case hN9 => assumption); intro _ _ _ _; (try dsimp only); (try k_sweep))
   | (refine' st_str_to_man_exp_exp ?hF9 ?hN9 ?_; (case hF9 => assumption); (case hN9 => assumption); intro _ _ _ _; (try dsimp only); (try k_sweep))
   | (refine' st_str_to_man_exp_a ?hF9 ?hN9 ?_; (case hF9 => assumption); (case hN9 => assumption); intro _ _ _ _; (try dsimp only); (try k_sweep))
   | (refine' st_str_to_man_exp_b ?hF9 ?hN9 ?_; (case hF9 => assumption); (case hN9 => assumption); intro _ _ _ _; (try dsimp only); (try k_sweep))
   | (refine' st_str_to_man_exp_e2 ?hF9 ?hN9 ?_; (case hF9 => assumption); (case hN9 => assumption); intro _ _ _ _; (try dsimp only); (try k_sweep)))))
set_option hygiene false in
local macro_rules | `(tactic| walk_at "M base") => `(tactic| (
  (rename Fr _ _ _ _ => F1);
  (replace F1 := base_str_to_man_exp F1)))

local macro_rules | `(tactic| walk_at "call builtin:str.lower") => `(tactic| (k_here; (refine t_lower_same (by assumption) (by assumption) (by decide) ?_); intro _ _ _ _; (try dsimp only)))
local macro_rules | `(tactic| walk_at "call builtin:str.rstrip") => `(tactic| (k_here; (try dsimp only [List.cons_append, List.nil_append]); first
  | (with_reducible show wpAny _ _ (call _ [Value.str _ _, Value.str (Str.ofString "l") _]) _ _ _; (refine t_rstrip_same (by assumption) (by assumption) (by decide) (by decide +kernel) ?_); intro _ _ _ _; (try dsimp only))
  | (with_reducible show wpAny _ _ (call _ [Value.str _ _, Value.str (Str.ofString "0") _]) _ _ _; (refine t_rstrip (c := 48) (by assumption) (by decide) (by decide +kernel) ?_); intro _ _ _ _; (try dsimp only))))
local macro_rules | `(tactic| walk_at "call builtin:str.replace") => `(tactic| (k_here; (refine t_replace0 (c := 95) (by assumption) (by decide +kernel) (by assumption) ?_); (try dsimp only)))
local macro_rules | `(tactic| walk_at "call builtin:str.find") => `(tactic| (k_here; (refine t_find (c := 112) (by assumption) (by decide +kernel) ?_ ?_) <;> intro _ _ _ _ _ <;> (try dsimp only)))
local macro_rules | `(tactic| walk_at "call builtin:str.split") => `(tactic| (k_here; (try dsimp only [List.cons_append, List.nil_append]); first
  | ((with_reducible show wpAny _ _ (call _ [Value.str _ _, Value.str (Str.ofString "e") _]) _ _ _); (refine t_split (c := 101) (by assumption) (by assumption) (by assumption) (by decide) (by decide +kernel) ?_ ?_ ?_) <;> intros <;> (try dsimp only))
  | ((with_reducible show wpAny _ _ (call _ [Value.str _ _, Value.str (Str.ofString "@") _]) _ _ _); (refine t_split (c := 64) (by assumption) (by assumption) (by assumption) (by decide) (by decide +kernel) ?_ ?_ ?_) <;> intros <;> (try dsimp only))
  | ((with_reducible show wpAny _ _ (call _ [Value.str _ _, Value.str (Str.ofString "p") _]) _ _ _); (refine t_split (c := 112) (by assumption) (by assumption) (by assumption) (by decide) (by decide +kernel) ?_ ?_ ?_) <;> intros <;> (try dsimp only))
  | ((with_reducible show wpAny _ _ (call _ [Value.str _ _, Value.str (Str.ofString ".") _]) _ _ _); (refine t_split (c := 46) (by assumption) (by assumption) (by assumption) (by decide) (by decide +kernel) ?_ ?_ ?_) <;> intros <;> (try dsimp only))))
local macro_rules | `(tactic| walk_at "compareOp Eq str str") => `(tactic| (k_here; (refine t_eq_nil (by assumption) (by decide +kernel) ?_); (try dsimp only)))
local macro_rules | `(tactic| walk_at "binaryOp Add str str") => `(tactic| (k_here; (refine t_add (by assumption) (by assumption) (by decide) ?_); intro _ _ _ _; (try dsimp only)))
local macro_rules | `(tactic| walk_at "call builtin:pow") => `(tactic| (k_here; first
  | (refine r_pow2 (v := 8) (by decide) (by decide) (by decide) ?_) | (refine r_pow2 (v := 2) (by decide) (by decide) (by decide) ?_) | (refine r_pow2 (v := 16) (by decide) (by decide) (by decide) ?_); intro _ _; (try dsimp only)))
local macro_rules | `(tactic| walk_at "call builtin:len") => `(tactic| (k_here; (with_reducible show wpAny _ _ (call _ [Value.str _ _]) _ _ _); (refine t_len (by assumption) (by decide) ?_); intro _ _; (try dsimp only)))
local macro_rules | `(tactic| walk_at "compareOp NotEq str str") => `(tactic| (k_here; (refine t_ne1 (d := 112) (by assumption) (by decide +kernel) ?_); (try dsimp only)))
local macro_rules | `(tactic| walk_at "binaryOp Mult int int") => `(tactic| (k_here; (refine t_mul (by omega) (by omega) (by omega) (by omega) ?_); intro _ _; (try dsimp only)))
local macro_rules | `(tactic| walk_at "call builtin:str.split") => `(tactic| (k_here; (try dsimp only [List.cons_append, List.nil_append]); first
  | ((with_reducible show wpAny _ _ (call _ [Value.str _ _, Value.str (Str.ofString ".") _]) _ _ _); (refine t_split2 (c := 46) (by assumption) (by assumption) (by assumption) (by decide) (by decide +kernel) ?_ ?_) <;> intros <;> (try dsimp only))
  | ((refine t_split (by assumption) (by assumption) (by assumption) (by decide) (by assumption) ?_ ?_ ?_) <;> intros <;> (try dsimp only))))
namespace Mine
/-- what the text's reader of a man and an exponent gives -/
def smeT (b : Int) (c : Nat) (k : Int) (m : List Nat) (ex : Int) : Option (Int × Int) :=
  match splitL 46 m with
  | [a, d] => (intB b.toNat ((if a = [] then [48] else a) ++ rstripL 48 d)).map fun n => (n, ex - (if c = 112 then ((rstripL 48 d).length : Int) * k else ((rstripL 48 d).length : Int)))
  | _ => (intB b.toNat m).map fun n => (n, ex)
def smeF (b : Int) (c : Nat) (k : Int) (l : List Nat) : Option (Int × Int) :=
  match splitL c l with
  | [m] => smeT b c k m 0
  | [m, e] => (intB 10 e).bind fun n => smeT b c k m n
  | _ => none
def sepOf (b : Int) (l : List Nat) : Nat := if (b = 2 ∨ b = 16) ∧ 112 ∈ l then 112 else if b ≤ 10 then 101 else 64
def e2Of (b : Int) : Int := if b = 2 then 1 else if b = 16 then 4 else 3
def BaseIs (b : Int) : Prop := b = 2 ∨ b = 8 ∨ b = 10 ∨ b = 16
theorem smeF_1 {b : Int} {c : Nat} {k : Int} {l m : List Nat} (h : splitL c l = [m]) : smeF b c k l = smeT b c k m 0 := by unfold smeF; rw [h]
theorem smeF_2 {b : Int} {c : Nat} {k n : Int} {l m e : List Nat} (h : splitL c l = [m, e]) (hi : intB 10 e = some n) : smeF b c k l = smeT b c k m n := by
  unfold smeF; rw [h]; show (intB 10 e).bind _ = _; rw [hi]; rfl
theorem smeF_2n {b : Int} {c : Nat} {k : Int} {l m e : List Nat} (h : splitL c l = [m, e]) (hi : intB 10 e = none) : smeF b c k l = none := by
  unfold smeF; rw [h]; show (intB 10 e).bind _ = _; rw [hi]; rfl
theorem smeF_3 {b : Int} {c : Nat} {k : Int} {l : List Nat} (h : 3 ≤ (splitL c l).length) : smeF b c k l = none := by
  unfold smeF
  split
  · rename_i e; rw [e] at h; simp at h
  · rename_i e; rw [e] at h; simp at h
  · rfl
theorem smeT_2 {b : Int} {c : Nat} {k ex : Int} {m a d : List Nat} (h : splitL 46 m = [a, d]) : smeT b c k m ex = (intB b.toNat ((if a = [] then [48] else a) ++ rstripL 48 d)).map fun n => (n, ex - (if c = 112 then ((rstripL 48 d).length : Int) * k else ((rstripL 48 d).length : Int))) := by
  unfold smeT; rw [h]
theorem smeT_o {b : Int} {c : Nat} {k ex : Int} {m : List Nat} (h : ∀ a d, splitL 46 m ≠ [a, d]) : smeT b c k m ex = (intB b.toNat m).map fun n => (n, ex) := by
  unfold smeT
  split
  · rename_i a d e; exact absurd e (h a d)
  · rfl
theorem lit_is_e : (Str.ofString "e") = ⟨#[101]⟩ := by decide +kernel
theorem lit_is_at : (Str.ofString "@") = ⟨#[64]⟩ := by decide +kernel
theorem lit_is_p : (Str.ofString "p") = ⟨#[112]⟩ := by decide +kernel
theorem e2_2 : e2Of 2 = 2 - 1 := by decide
theorem e2_8 : e2Of 8 = 4 - 1 := by decide
theorem e2_10 : e2Of 10 = 4 - 1 := by decide
theorem e2_16 : e2Of 16 = 5 - 1 := by decide
theorem bl_2 : Is (2 : Int) (bl 2) := ⟨by decide⟩
theorem bl_8 : Is (4 : Int) (bl 8) := ⟨by decide⟩
theorem bl_10 : Is (4 : Int) (bl 10) := ⟨by decide⟩
theorem bl_16 : Is (5 : Int) (bl 16) := ⟨by decide⟩
set_option maxHeartbeats 40000000 in
theorem c_sme (x : Str) (l : List Nat) (b : Int) (tx tb : Tok) (news : List (Addr × Obj)) (hx : Tl 300 x l) (hlo : l.map lo1 = l) (hrs : rstripL 108 l = l) (hun : 95 ∉ l) (hb : BaseIs b) :
   CtrC 118 [.str x tx, .int b tb] 6 news
     (fun r ne => ∃ a t1 t2 n e, r = .ref a ∧ ne = (a, { cls := .type "tuple", data := .seq #[.int n t1, .int e t2] }) :: news ∧ (∀ p ∈ news, p.1 < a) ∧ smeF b (sepOf b l) (e2Of b) l = some (n, e))
     (fun X => X = "ValueError" ∧ smeF b (sepOf b l) (e2Of b) l = none) := by
  have h0 := lit_0
  walk_at "C enter"
  walk_at "M base"
  refine C_cut 3 (fun s' => ∃ h1 k1 v tv y ty t3 o1 o2 o3 o4, s' = { s with heap := h1, toks := k1 } ∧
    Fr g' L' h1 (fm nm_str_to_man_exp [some (.str v tv), some (.int b tb), o1, some (.str y ty), o2, o3, o4, some (.int (e2Of b) t3)]) ∧ News g' L' h1 news ∧ Tl 300 v l ∧ y = ⟨#[sepOf b l]⟩) ?_ ?_
  · dsimp only [List.take]
    rcases hb with rfl | rfl | rfl | rfl
    all_goals (have e2 := bl_2; have e8 := bl_8; have e10 := bl_10; have e16 := bl_16)
    all_goals walk_at "C steps"
    all_goals first | rw [e2_2] | rw [e2_8] | rw [e2_10] | rw [e2_16]
    all_goals first
      | (refine Hid.mk ⟨rfl, _, _, _, _, _, _, _, _, _, _, _, rfl, by assumption, cb_drop (by assumption) (fun p hp => by simp [hp]), by assumption, ?_⟩
         first
           | exact lit_is_e.trans (congrArg (fun c => (⟨#[c]⟩ : Str)) (by unfold sepOf; first | (rw [if_neg (by rintro ⟨h, _⟩; omega), if_pos (by omega)]) | (rw [if_neg (by rintro ⟨_, h⟩; contradiction), if_pos (by omega)])))
           | exact lit_is_at.trans (congrArg (fun c => (⟨#[c]⟩ : Str)) (by unfold sepOf; rw [if_neg (by rintro ⟨_, h⟩; contradiction), if_neg (by omega)]))
           | exact lit_is_p.trans (congrArg (fun c => (⟨#[c]⟩ : Str)) (by unfold sepOf; rw [if_pos ⟨by omega, by assumption⟩])))
      | fail
  · dsimp only [List.drop]
    clear N' F1
    rintro _ ⟨h1, k1, v, tv, y, ty, t3, o1, o2, o3, o4, rfl, F2, N2, hv, hy⟩
    have hb1 : 2 ≤ b ∧ b ≤ 16 := by rcases hb with rfl | rfl | rfl | rfl <;> decide
    have hk1 : 0 ≤ e2Of b ∧ e2Of b ≤ 4 := by rcases hb with rfl | rfl | rfl | rfl <;> decide
    obtain ⟨hb2, hb3⟩ := hb1
    obtain ⟨hk2, hk3⟩ := hk1
    refine C_cut 2 (fun s' => ∃ h1 k1 v tv y ty t3 o1 ex te o3 o4 m, s' = { s with heap := h1, toks := k1 } ∧
      Fr g' L' h1 (fm nm_str_to_man_exp [some (.str v tv), some (.int b tb), o1, some (.str y ty), some (.int ex te), o3, o4, some (.int (e2Of b) t3)]) ∧ News g' L' h1 news ∧ Tl 300 v m ∧ y = ⟨#[sepOf b l]⟩ ∧
      smeF b (sepOf b l) (e2Of b) l = smeT b (sepOf b l) (e2Of b) m ex) ?_ ?_
    · dsimp only [List.take]
      walk_at "C steps"
      all_goals first
        | exact Hid.mk ⟨rfl, _, _, _, _, _, _, _, _, _, _, _, _, _, rfl, by assumption, cb_drop (by assumption) (fun p hp => by simp [hp]), by assumption, by assumption, smeF_1 (by assumption)⟩
        | exact Hid.mk ⟨rfl, _, _, _, _, _, _, _, _, _, _, _, _, _, rfl, by assumption, cb_drop (by assumption) (fun p hp => by simp [hp]), by assumption, by assumption, smeF_2 (by assumption) (by assumption)⟩
        | exact hexc _ _ _ _ _ ⟨rfl, smeF_2n (by assumption) (by assumption)⟩ (raised_drop (by assumption) (fun p hp => by simp [hp])) (by assumption) (by assumption)
        | exact hexc _ _ _ _ _ ⟨rfl, smeF_3 (by assumption)⟩ (raised_drop (raisedK_N (by assumption)) (fun p hp => by simp [hp])) (by assumption) (by assumption)
        | fail
    · dsimp only [List.drop]
      rintro _ ⟨h1, k1, v, tv, y, ty, t3, o1, ex, te, o3, o4, m, rfl, F3, N3, hv, hy, hs⟩
      clear F2 N2
      refine C_cut 2 (fun s' => ∃ h1 k1 v tv y ty t3 o1 ex' te o3 o4 m', s' = { s with heap := h1, toks := k1 } ∧
        Fr g' L' h1 (fm nm_str_to_man_exp [some (.str v tv), some (.int b tb), o1, some (.str y ty), some (.int ex' te), o3, o4, some (.int (e2Of b) t3)]) ∧ News g' L' h1 news ∧ Tl 600 v m' ∧
        smeF b (sepOf b l) (e2Of b) l = (intB b.toNat m').map fun n => (n, ex')) ?_ ?_
      · dsimp only [List.take]
        walk_at "C steps"
        all_goals first
          | (refine Hid.mk ⟨rfl, _, _, _, _, _, _, _, _, _, _, _, _, _, rfl, by assumption, cb_drop (by assumption) (fun p hp => by simp [hp]), Tl.mono (by assumption) (by decide), ?_⟩
             rw [hs]
             first
               | exact smeT_o (by assumption)
               | (rw [smeT_2 (by assumption), if_pos (by assumption), if_pos (by assumption)])
               | (rw [smeT_2 (by assumption), if_pos (by assumption), if_neg (by assumption)])
               | (rw [smeT_2 (by assumption), if_neg (by assumption), if_pos (by assumption)])
               | (rw [smeT_2 (by assumption), if_neg (by assumption), if_neg (by assumption)])
               | fail)
          | fail
      · dsimp only [List.drop]
        rintro _ ⟨h1, k1, v, tv, y, ty, t3, o1, ex, te, o3, o4, m, rfl, F4, N4, hv, hs⟩
        clear F3 N3
        walk_at "C steps"
        all_goals first
          | (walk_at "M ret"; exact ⟨_, _, _, _, _, rfl, rfl, by assumption, by rw [hs, (by assumption : intB b.toNat m = some _)]; rfl⟩)
          | exact hexc _ _ _ _ _ ⟨rfl, by rw [hs, (by assumption : intB b.toNat m = none)]; rfl⟩ (by assumption) (by assumption) (by assumption)
          | fail
end Mine
end
--CON
set_option hygiene false in
local macro_rules | `(tactic| walk_at "C") => `(tactic| (
  (with_reducible show wpC _ _ (call (Value.ref 118) _) _ _ _);
  (refine' CtrC.use (c_sme _ _ _ _ _ _ ?cp ?cq ?cr ?cs ?cb) ?cB ?cF ?cX ?cN ?cT ?cK ?cD ?cU ?_ ?_);
  (case cp => assumption); (case cq => assumption); (case cr => assumption); (case cs => assumption); (case cb => assumption);
  (case cB => k_asm); (case cF => k_asm); (case cX => k_asm); (case cN => k_asm); (case cT => k_asm); (case cK => first | exact rfl | assumption);
  (case cD => first | (dsimp only [Around.deeper]; omega) | ktr_room); (case cU => first | (dsimp only [Around.deeper]; omega) | ktr_units);
  all_goals (first
   | (intro X9 e9 g9 h9 k9 hX9 R9 F9 U9; obtain ⟨rfl, i9⟩ := hX9; (try dsimp only))
   | (intro r9 ne9 h9 k9 F9 N9 hr9; obtain ⟨b9, t19, t29, n9, e9, rfl, rfl, l9, i9⟩ := hr9; (try dsimp only)))))
--END

section
namespace Mine
theorem hd_NotImplementedError : (Str.ofString "NotImplementedError" == ("__debug__" : Str)) = false := by decide +kernel
theorem hd_abs : (Str.ofString "abs" == ("__debug__" : Str)) = false := by decide +kernel
theorem hd_from_rational : (Str.ofString "from_rational" == ("__debug__" : Str)) = false := by decide +kernel
theorem hd_ften : (Str.ofString "ften" == ("__debug__" : Str)) = false := by decide +kernel
theorem hd_mpf_mul : (Str.ofString "mpf_mul" == ("__debug__" : Str)) = false := by decide +kernel
theorem hd_mpf_pow_int : (Str.ofString "mpf_pow_int" == ("__debug__" : Str)) = false := by decide +kernel
theorem hd_special_str : (Str.ofString "special_str" == ("__debug__" : Str)) = false := by decide +kernel
theorem hd_str_to_man_exp : (Str.ofString "str_to_man_exp" == ("__debug__" : Str)) = false := by decide +kernel
theorem gl_special_str (P : Params) : nsIn (Mine.hd.heap_39 P) mainGlobals (Str.ofString "special_str") = some (some (.ref 119)) := by kernel_rfl!
theorem gl_from_rational (P : Params) : nsIn (Mine.hd.heap_39 P) mainGlobals (Str.ofString "from_rational") = some (some (.ref 70)) := by kernel_rfl!
theorem gl_str_to_man_exp (P : Params) : nsIn (Mine.hd.heap_39 P) mainGlobals (Str.ofString "str_to_man_exp") = some (some (.ref 118)) := by kernel_rfl!
theorem bl_abs (P : Params) : nsIn (Mine.hd.heap_39 P) mainGlobals (Str.ofString "abs") = some none := by kernel_rfl!
theorem bv_abs : bootBuiltins (Str.ofString "abs") = some (.builtin "abs") := by boot_by_name
theorem bn_abs : (Str.ofString "abs") ≠ ("__name__" : Str) := by decide +kernel
theorem gl_mpf_mul (P : Params) : nsIn (Mine.hd.heap_39 P) mainGlobals (Str.ofString "mpf_mul") = some (some (.ref 93)) := by kernel_rfl!
theorem gl_mpf_pow_int (P : Params) : nsIn (Mine.hd.heap_39 P) mainGlobals (Str.ofString "mpf_pow_int") = some (some (.ref 110)) := by kernel_rfl!
theorem gl_ften (P : Params) : nsIn (Mine.hd.heap_39 P) mainGlobals (Str.ofString "ften") = some (some (.ref 24)) := by kernel_rfl!
theorem bl_NotImplementedError (P : Params) : nsIn (Mine.hd.heap_39 P) mainGlobals (Str.ofString "NotImplementedError") = some none := by kernel_rfl!
theorem bv_NotImplementedError : bootBuiltins (Str.ofString "NotImplementedError") = some (.type "NotImplementedError") := by boot_by_name
theorem bn_NotImplementedError : (Str.ofString "NotImplementedError") ≠ ("__name__" : Str) := by decide +kernel
abbrev sc_from_str : Scope := { kind := .function, names := [(Str.ofString "x", .local), (Str.ofString "prec", .local), (Str.ofString "rnd", .local), (Str.ofString "base", .local), (Str.ofString "p", .local), (Str.ofString "q", .local), (Str.ofString "man", .local), (Str.ofString "exp", .local), (Str.ofString "s", .local), (Str.ofString "e2", .local), (Str.ofString "special_str", .globalImplicit), (Str.ofString "from_rational", .globalImplicit), (Str.ofString "int", .globalImplicit), (Str.ofString "str_to_man_exp", .globalImplicit), (Str.ofString "abs", .globalImplicit), (Str.ofString "from_int", .globalImplicit), (Str.ofString "mpf_mul", .globalImplicit), (Str.ofString "mpf_pow_int", .globalImplicit), (Str.ofString "ften", .globalImplicit), (Str.ofString "pow", .globalImplicit), (Str.ofString "from_man_exp", .globalImplicit), (Str.ofString "NotImplementedError", .globalImplicit)], isGenerator := false, isCoroutine := false, more := [] }
theorem kl_from_str_x {cn : Str} {L a : Addr} {cd : Value} : (envOf cn sc_from_str L a cd).kindOf (Str.ofString "x") = some .local := by kernel_rfl!
theorem kl_from_str_prec {cn : Str} {L a : Addr} {cd : Value} : (envOf cn sc_from_str L a cd).kindOf (Str.ofString "prec") = some .local := by kernel_rfl!
theorem kl_from_str_rnd {cn : Str} {L a : Addr} {cd : Value} : (envOf cn sc_from_str L a cd).kindOf (Str.ofString "rnd") = some .local := by kernel_rfl!
theorem kl_from_str_base {cn : Str} {L a : Addr} {cd : Value} : (envOf cn sc_from_str L a cd).kindOf (Str.ofString "base") = some .local := by kernel_rfl!
theorem kl_from_str_p {cn : Str} {L a : Addr} {cd : Value} : (envOf cn sc_from_str L a cd).kindOf (Str.ofString "p") = some .local := by kernel_rfl!
theorem kl_from_str_q {cn : Str} {L a : Addr} {cd : Value} : (envOf cn sc_from_str L a cd).kindOf (Str.ofString "q") = some .local := by kernel_rfl!
theorem kl_from_str_man {cn : Str} {L a : Addr} {cd : Value} : (envOf cn sc_from_str L a cd).kindOf (Str.ofString "man") = some .local := by kernel_rfl!
theorem kl_from_str_exp {cn : Str} {L a : Addr} {cd : Value} : (envOf cn sc_from_str L a cd).kindOf (Str.ofString "exp") = some .local := by kernel_rfl!
theorem kl_from_str_s {cn : Str} {L a : Addr} {cd : Value} : (envOf cn sc_from_str L a cd).kindOf (Str.ofString "s") = some .local := by kernel_rfl!
theorem kl_from_str_e2 {cn : Str} {L a : Addr} {cd : Value} : (envOf cn sc_from_str L a cd).kindOf (Str.ofString "e2") = some .local := by kernel_rfl!
theorem kl_from_str_special_str {cn : Str} {L a : Addr} {cd : Value} : (envOf cn sc_from_str L a cd).kindOf (Str.ofString "special_str") = some .globalImplicit := by kernel_rfl!
theorem kl_from_str_from_rational {cn : Str} {L a : Addr} {cd : Value} : (envOf cn sc_from_str L a cd).kindOf (Str.ofString "from_rational") = some .globalImplicit := by kernel_rfl!
theorem kl_from_str_int {cn : Str} {L a : Addr} {cd : Value} : (envOf cn sc_from_str L a cd).kindOf (Str.ofString "int") = some .globalImplicit := by kernel_rfl!
theorem kl_from_str_str_to_man_exp {cn : Str} {L a : Addr} {cd : Value} : (envOf cn sc_from_str L a cd).kindOf (Str.ofString "str_to_man_exp") = some .globalImplicit := by kernel_rfl!
theorem kl_from_str_abs {cn : Str} {L a : Addr} {cd : Value} : (envOf cn sc_from_str L a cd).kindOf (Str.ofString "abs") = some .globalImplicit := by kernel_rfl!
theorem kl_from_str_from_int {cn : Str} {L a : Addr} {cd : Value} : (envOf cn sc_from_str L a cd).kindOf (Str.ofString "from_int") = some .globalImplicit := by kernel_rfl!
theorem kl_from_str_mpf_mul {cn : Str} {L a : Addr} {cd : Value} : (envOf cn sc_from_str L a cd).kindOf (Str.ofString "mpf_mul") = some .globalImplicit := by kernel_rfl!
theorem kl_from_str_mpf_pow_int {cn : Str} {L a : Addr} {cd : Value} : (envOf cn sc_from_str L a cd).kindOf (Str.ofString "mpf_pow_int") = some .globalImplicit := by kernel_rfl!
theorem kl_from_str_ften {cn : Str} {L a : Addr} {cd : Value} : (envOf cn sc_from_str L a cd).kindOf (Str.ofString "ften") = some .globalImplicit := by kernel_rfl!
theorem kl_from_str_pow {cn : Str} {L a : Addr} {cd : Value} : (envOf cn sc_from_str L a cd).kindOf (Str.ofString "pow") = some .globalImplicit := by kernel_rfl!
theorem kl_from_str_from_man_exp {cn : Str} {L a : Addr} {cd : Value} : (envOf cn sc_from_str L a cd).kindOf (Str.ofString "from_man_exp") = some .globalImplicit := by kernel_rfl!
theorem kl_from_str_NotImplementedError {cn : Str} {L a : Addr} {cd : Value} : (envOf cn sc_from_str L a cd).kindOf (Str.ofString "NotImplementedError") = some .globalImplicit := by kernel_rfl!
def nm_from_str : List Str := [Str.ofString "x", Str.ofString "prec", Str.ofString "rnd", Str.ofString "base", Str.ofString "man", Str.ofString "exp", Str.ofString "p", Str.ofString "q", Str.ofString "s", Str.ofString "e2"]
theorem ix_from_str_x : nm_from_str.idxOf (Str.ofString "x") = 0 := by decide +kernel
theorem ix_from_str_prec : nm_from_str.idxOf (Str.ofString "prec") = 1 := by decide +kernel
theorem ix_from_str_rnd : nm_from_str.idxOf (Str.ofString "rnd") = 2 := by decide +kernel
theorem ix_from_str_base : nm_from_str.idxOf (Str.ofString "base") = 3 := by decide +kernel
theorem ix_from_str_man : nm_from_str.idxOf (Str.ofString "man") = 4 := by decide +kernel
theorem ix_from_str_exp : nm_from_str.idxOf (Str.ofString "exp") = 5 := by decide +kernel
theorem ix_from_str_p : nm_from_str.idxOf (Str.ofString "p") = 6 := by decide +kernel
theorem ix_from_str_q : nm_from_str.idxOf (Str.ofString "q") = 7 := by decide +kernel
theorem ix_from_str_s : nm_from_str.idxOf (Str.ofString "s") = 8 := by decide +kernel
theorem ix_from_str_e2 : nm_from_str.idxOf (Str.ofString "e2") = 9 := by decide +kernel
theorem nd_from_str : ([Str.ofString "x", Str.ofString "prec", Str.ofString "rnd", Str.ofString "base"] : List Str).Nodup := by decide +kernel
section
variable {M : Model} {A : Around} {E : Value → Shared → Prop} {s : Shared} {cn : Str} {L a : Addr} {cd : Value} {h₀ : Heap} {news : List (Addr × Obj)} {v : Value} {pos : Pos} {o0 o1 o2 o3 o4 o5 o6 o7 o8 o9 : Option Value}
theorem base_from_str {h : Heap} {v0 v1 v2 v3 : Value} (F : Fr h₀ L h (fun y => List.lookup y (List.zip [Str.ofString "x", Str.ofString "prec", Str.ofString "rnd", Str.ofString "base"] [v0, v1, v2, v3]).reverse)) : Fr h₀ L h (fm nm_from_str [some v0, some v1, some v2, some v3, none, none, none, none, none, none]) := by
  rw [fm_base (ns₂ := [Str.ofString "man", Str.ofString "exp", Str.ofString "p", Str.ofString "q", Str.ofString "s", Str.ofString "e2"]) (k := 6) nd_from_str rfl] at F
  exact F
theorem ld_from_str_x {Q : Value → Shared → Prop} (F : Fr h₀ L s.heap (fm nm_from_str [some v, o1, o2, o3, o4, o5, o6, o7, o8, o9])) (h : Q v s) : wpAny M A (eval (.Name (Str.ofString "x") pos) (envOf cn sc_from_str L a cd)) Q E s := ld F ((fm_get ix_from_str_x).trans rfl) h rfl kl_from_str_x hd_x
theorem ldn_from_str_x {Q : Value → Shared → Prop} (F : Fr h₀ L s.heap (fm nm_from_str [some v, o1, o2, o3, o4, o5, o6, o7, o8, o9])) (h : Q v s) : wpAny M A (loadName (envOf cn sc_from_str L a cd) (Str.ofString "x")) Q E s := ldn F ((fm_get ix_from_str_x).trans rfl) h rfl kl_from_str_x
theorem st_from_str_x {Q : Unit → Shared → Prop} (F : Fr h₀ L s.heap (fm nm_from_str [o0, o1, o2, o3, o4, o5, o6, o7, o8, o9])) (N : News h₀ L s.heap news) (h : ∀ h' k', Fr h₀ L h' (fm nm_from_str [some v, o1, o2, o3, o4, o5, o6, o7, o8, o9]) → News h₀ L h' news → Q () { s with heap := h', toks := k' }) : wpAny M A (storeName (envOf cn sc_from_str L a cd) (Str.ofString "x") v) Q E s := r_st F N (fun h' k' F' N' => h h' k' (by rw [fm_set ix_from_str_x (by decide) rfl] at F'; exact F') N') rfl kl_from_str_x
theorem ld_from_str_prec {Q : Value → Shared → Prop} (F : Fr h₀ L s.heap (fm nm_from_str [o0, some v, o2, o3, o4, o5, o6, o7, o8, o9])) (h : Q v s) : wpAny M A (eval (.Name (Str.ofString "prec") pos) (envOf cn sc_from_str L a cd)) Q E s := ld F ((fm_get ix_from_str_prec).trans rfl) h rfl kl_from_str_prec hd_prec
theorem ldn_from_str_prec {Q : Value → Shared → Prop} (F : Fr h₀ L s.heap (fm nm_from_str [o0, some v, o2, o3, o4, o5, o6, o7, o8, o9])) (h : Q v s) : wpAny M A (loadName (envOf cn sc_from_str L a cd) (Str.ofString "prec")) Q E s := ldn F ((fm_get ix_from_str_prec).trans rfl) h rfl kl_from_str_prec
theorem st_from_str_prec {Q : Unit → Shared → Prop} (F : Fr h₀ L s.heap (fm nm_from_str [o0, o1, o2, o3, o4, o5, o6, o7, o8, o9])) (N : News h₀ L s.heap news) (h : ∀ h' k', Fr h₀ L h' (fm nm_from_str [o0, some v, o2, o3, o4, o5, o6, o7, o8, o9]) → News h₀ L h' news → Q () { s with heap := h', toks := k' }) : wpAny M A (storeName (envOf cn sc_from_str L a cd) (Str.ofString "prec") v) Q E s := r_st F N (fun h' k' F' N' => h h' k' (by rw [fm_set ix_from_str_prec (by decide) rfl] at F'; exact F') N') rfl kl_from_str_prec
theorem ld_from_str_rnd {Q : Value → Shared → Prop} (F : Fr h₀ L s.heap (fm nm_from_str [o0, o1, some v, o3, o4, o5, o6, o7, o8, o9])) (h : Q v s) : wpAny M A (eval (.Name (Str.ofString "rnd") pos) (envOf cn sc_from_str L a cd)) Q E s := ld F ((fm_get ix_from_str_rnd).trans rfl) h rfl kl_from_str_rnd hd_rnd
theorem ldn_from_str_rnd {Q : Value → Shared → Prop} (F : Fr h₀ L s.heap (fm nm_from_str [o0, o1, some v, o3, o4, o5, o6, o7, o8, o9])) (h : Q v s) : wpAny M A (loadName (envOf cn sc_from_str L a cd) (Str.ofString "rnd")) Q E s := ldn F ((fm_get ix_from_str_rnd).trans rfl) h rfl kl_from_str_rnd
theorem st_from_str_rnd {Q : Unit → Shared → Prop} (F : Fr h₀ L s.heap (fm nm_from_str [o0, o1, o2, o3, o4, o5, o6, o7, o8, o9])) (N : News h₀ L s.heap news) (h : ∀ h' k', Fr h₀ L h' (fm nm_from_str [o0, o1, some v, o3, o4, o5, o6, o7, o8, o9]) → News h₀ L h' news → Q () { s with heap := h', toks := k' }) : wpAny M A (storeName (envOf cn sc_from_str L a cd) (Str.ofString "rnd") v) Q E s := r_st F N (fun h' k' F' N' => h h' k' (by rw [fm_set ix_from_str_rnd (by decide) rfl] at F'; exact F') N') rfl kl_from_str_rnd
theorem ld_from_str_base {Q : Value → Shared → Prop} (F : Fr h₀ L s.heap (fm nm_from_str [o0, o1, o2, some v, o4, o5, o6, o7, o8, o9])) (h : Q v s) : wpAny M A (eval (.Name (Str.ofString "base") pos) (envOf cn sc_from_str L a cd)) Q E s := ld F ((fm_get ix_from_str_base).trans rfl) h rfl kl_from_str_base hd_base
theorem ldn_from_str_base {Q : Value → Shared → Prop} (F : Fr h₀ L s.heap (fm nm_from_str [o0, o1, o2, some v, o4, o5, o6, o7, o8, o9])) (h : Q v s) : wpAny M A (loadName (envOf cn sc_from_str L a cd) (Str.ofString "base")) Q E s := ldn F ((fm_get ix_from_str_base).trans rfl) h rfl kl_from_str_base
theorem st_from_str_base {Q : Unit → Shared → Prop} (F : Fr h₀ L s.heap (fm nm_from_str [o0, o1, o2, o3, o4, o5, o6, o7, o8, o9])) (N : News h₀ L s.heap news) (h : ∀ h' k', Fr h₀ L h' (fm nm_from_str [o0, o1, o2, some v, o4, o5, o6, o7, o8, o9]) → News h₀ L h' news → Q () { s with heap := h', toks := k' }) : wpAny M A (storeName (envOf cn sc_from_str L a cd) (Str.ofString "base") v) Q E s := r_st F N (fun h' k' F' N' => h h' k' (by rw [fm_set ix_from_str_base (by decide) rfl] at F'; exact F') N') rfl kl_from_str_base
theorem ld_from_str_man {Q : Value → Shared → Prop} (F : Fr h₀ L s.heap (fm nm_from_str [o0, o1, o2, o3, some v, o5, o6, o7, o8, o9])) (h : Q v s) : wpAny M A (eval (.Name (Str.ofString "man") pos) (envOf cn sc_from_str L a cd)) Q E s := ld F ((fm_get ix_from_str_man).trans rfl) h rfl kl_from_str_man hd_man
theorem ldn_from_str_man {Q : Value → Shared → Prop} (F : Fr h₀ L s.heap (fm nm_from_str [o0, o1, o2, o3, some v, o5, o6, o7, o8, o9])) (h : Q v s) : wpAny M A (loadName (envOf cn sc_from_str L a cd) (Str.ofString "man")) Q E s := ldn F ((fm_get ix_from_str_man).trans rfl) h rfl kl_from_str_man
theorem st_from_str_man {Q : Unit → Shared → Prop} (F : Fr h₀ L s.heap (fm nm_from_str [o0, o1, o2, o3, o4, o5, o6, o7, o8, o9])) (N : News h₀ L s.heap news) (h : ∀ h' k', Fr h₀ L h' (fm nm_from_str [o0, o1, o2, o3, some v, o5, o6, o7, o8, o9]) → News h₀ L h' news → Q () { s with heap := h', toks := k' }) : wpAny M A (storeName (envOf cn sc_from_str L a cd) (Str.ofString "man") v) Q E s := r_st F N (fun h' k' F' N' => h h' k' (by rw [fm_set ix_from_str_man (by decide) rfl] at F'; exact F') N') rfl kl_from_str_man
theorem ld_from_str_exp {Q : Value → Shared → Prop} (F : Fr h₀ L s.heap (fm nm_from_str [o0, o1, o2, o3, o4, some v, o6, o7, o8, o9])) (h : Q v s) : wpAny M A (eval (.Name (Str.ofString "exp") pos) (envOf cn sc_from_str L a cd)) Q E s := ld F ((fm_get ix_from_str_exp).trans rfl) h rfl kl_from_str_exp hd_exp
theorem ldn_from_str_exp {Q : Value → Shared → Prop} (F : Fr h₀ L s.heap (fm nm_from_str [o0, o1, o2, o3, o4, some v, o6, o7, o8, o9])) (h : Q v s) : wpAny M A (loadName (envOf cn sc_from_str L a cd) (Str.ofString "exp")) Q E s := ldn F ((fm_get ix_from_str_exp).trans rfl) h rfl kl_from_str_exp
theorem st_from_str_exp {Q : Unit → Shared → Prop} (F : Fr h₀ L s.heap (fm nm_from_str [o0, o1, o2, o3, o4, o5, o6, o7, o8, o9])) (N : News h₀ L s.heap news) (h : ∀ h' k', Fr h₀ L h' (fm nm_from_str [o0, o1, o2, o3, o4, some v, o6, o7, o8, o9]) → News h₀ L h' news → Q () { s with heap := h', toks := k' }) : wpAny M A (storeName (envOf cn sc_from_str L a cd) (Str.ofString "exp") v) Q E s := r_st F N (fun h' k' F' N' => h h' k' (by rw [fm_set ix_from_str_exp (by decide) rfl] at F'; exact F') N') rfl kl_from_str_exp
theorem ld_from_str_p {Q : Value → Shared → Prop} (F : Fr h₀ L s.heap (fm nm_from_str [o0, o1, o2, o3, o4, o5, some v, o7, o8, o9])) (h : Q v s) : wpAny M A (eval (.Name (Str.ofString "p") pos) (envOf cn sc_from_str L a cd)) Q E s := ld F ((fm_get ix_from_str_p).trans rfl) h rfl kl_from_str_p hd_p
theorem ldn_from_str_p {Q : Value → Shared → Prop} (F : Fr h₀ L s.heap (fm nm_from_str [o0, o1, o2, o3, o4, o5, some v, o7, o8, o9])) (h : Q v s) : wpAny M A (loadName (envOf cn sc_from_str L a cd) (Str.ofString "p")) Q E s := ldn F ((fm_get ix_from_str_p).trans rfl) h rfl kl_from_str_p
theorem st_from_str_p {Q : Unit → Shared → Prop} (F : Fr h₀ L s.heap (fm nm_from_str [o0, o1, o2, o3, o4, o5, o6, o7, o8, o9])) (N : News h₀ L s.heap news) (h : ∀ h' k', Fr h₀ L h' (fm nm_from_str [o0, o1, o2, o3, o4, o5, some v, o7, o8, o9]) → News h₀ L h' news → Q () { s with heap := h', toks := k' }) : wpAny M A (storeName (envOf cn sc_from_str L a cd) (Str.ofString "p") v) Q E s := r_st F N (fun h' k' F' N' => h h' k' (by rw [fm_set ix_from_str_p (by decide) rfl] at F'; exact F') N') rfl kl_from_str_p
theorem ld_from_str_q {Q : Value → Shared → Prop} (F : Fr h₀ L s.heap (fm nm_from_str [o0, o1, o2, o3, o4, o5, o6, some v, o8, o9])) (h : Q v s) : wpAny M A (eval (.Name (Str.ofString "q") pos) (envOf cn sc_from_str L a cd)) Q E s := ld F ((fm_get ix_from_str_q).trans rfl) h rfl kl_from_str_q hd_q
theorem ldn_from_str_q {Q : Value → Shared → Prop} (F : Fr h₀ L s.heap (fm nm_from_str [o0, o1, o2, o3, o4, o5, o6, some v, o8, o9])) (h : Q v s) : wpAny M A (loadName (envOf cn sc_from_str L a cd) (Str.ofString "q")) Q E s := ldn F ((fm_get ix_from_str_q).trans rfl) h rfl kl_from_str_q
theorem st_from_str_q {Q : Unit → Shared → Prop} (F : Fr h₀ L s.heap (fm nm_from_str [o0, o1, o2, o3, o4, o5, o6, o7, o8, o9])) (N : News h₀ L s.heap news) (h : ∀ h' k', Fr h₀ L h' (fm nm_from_str [o0, o1, o2, o3, o4, o5, o6, some v, o8, o9]) → News h₀ L h' news → Q () { s with heap := h', toks := k' }) : wpAny M A (storeName (envOf cn sc_from_str L a cd) (Str.ofString "q") v) Q E s := r_st F N (fun h' k' F' N' => h h' k' (by rw [fm_set ix_from_str_q (by decide) rfl] at F'; exact F') N') rfl kl_from_str_q
theorem ld_from_str_s {Q : Value → Shared → Prop} (F : Fr h₀ L s.heap (fm nm_from_str [o0, o1, o2, o3, o4, o5, o6, o7, some v, o9])) (h : Q v s) : wpAny M A (eval (.Name (Str.ofString "s") pos) (envOf cn sc_from_str L a cd)) Q E s := ld F ((fm_get ix_from_str_s).trans rfl) h rfl kl_from_str_s hd_s
theorem ldn_from_str_s {Q : Value → Shared → Prop} (F : Fr h₀ L s.heap (fm nm_from_str [o0, o1, o2, o3, o4, o5, o6, o7, some v, o9])) (h : Q v s) : wpAny M A (loadName (envOf cn sc_from_str L a cd) (Str.ofString "s")) Q E s := ldn F ((fm_get ix_from_str_s).trans rfl) h rfl kl_from_str_s
theorem st_from_str_s {Q : Unit → Shared → Prop} (F : Fr h₀ L s.heap (fm nm_from_str [o0, o1, o2, o3, o4, o5, o6, o7, o8, o9])) (N : News h₀ L s.heap news) (h : ∀ h' k', Fr h₀ L h' (fm nm_from_str [o0, o1, o2, o3, o4, o5, o6, o7, some v, o9]) → News h₀ L h' news → Q () { s with heap := h', toks := k' }) : wpAny M A (storeName (envOf cn sc_from_str L a cd) (Str.ofString "s") v) Q E s := r_st F N (fun h' k' F' N' => h h' k' (by rw [fm_set ix_from_str_s (by decide) rfl] at F'; exact F') N') rfl kl_from_str_s
theorem ld_from_str_e2 {Q : Value → Shared → Prop} (F : Fr h₀ L s.heap (fm nm_from_str [o0, o1, o2, o3, o4, o5, o6, o7, o8, some v])) (h : Q v s) : wpAny M A (eval (.Name (Str.ofString "e2") pos) (envOf cn sc_from_str L a cd)) Q E s := ld F ((fm_get ix_from_str_e2).trans rfl) h rfl kl_from_str_e2 hd_e2
theorem ldn_from_str_e2 {Q : Value → Shared → Prop} (F : Fr h₀ L s.heap (fm nm_from_str [o0, o1, o2, o3, o4, o5, o6, o7, o8, some v])) (h : Q v s) : wpAny M A (loadName (envOf cn sc_from_str L a cd) (Str.ofString "e2")) Q E s := ldn F ((fm_get ix_from_str_e2).trans rfl) h rfl kl_from_str_e2
theorem st_from_str_e2 {Q : Unit → Shared → Prop} (F : Fr h₀ L s.heap (fm nm_from_str [o0, o1, o2, o3, o4, o5, o6, o7, o8, o9])) (N : News h₀ L s.heap news) (h : ∀ h' k', Fr h₀ L h' (fm nm_from_str [o0, o1, o2, o3, o4, o5, o6, o7, o8, some v]) → News h₀ L h' news → Q () { s with heap := h', toks := k' }) : wpAny M A (storeName (envOf cn sc_from_str L a cd) (Str.ofString "e2") v) Q E s := r_st F N (fun h' k' F' N' => h h' k' (by rw [fm_set ix_from_str_e2 (by decide) rfl] at F'; exact F') N') rfl kl_from_str_e2
end
end Mine

local macro_rules | `(tactic| walk_at "eval Name") => `(tactic| (
  k_here; with_reducible (first
   | (refine' ld_from_str_x ?hF9 ?_; (case hF9 => assumption))
   | (refine' ld_from_str_prec ?hF9 ?_; (case hF9 => assumption))
   | (refine' ld_from_str_rnd ?hF9 ?_; (case hF9 => assumption))
   | (refine' ld_from_str_base ?hF9 ?_; (case hF9 => assumption))
   | (refine' ld_from_str_man ?hF9 ?_; (case hF9 => assumption))
   | (refine' ld_from_str_exp ?hF9 ?_; (case hF9 => assumption))
   | (refine' ld_from_str_p ?hF9 ?_; (case hF9 => assumption))
   | (refine' ld_from_str_q ?hF9 ?_; (case hF9 => assumption))
   | (refine' ld_from_str_s ?hF9 ?_; (case hF9 => assumption))
   | (refine' ld_from_str_e2 ?hF9 ?_; (case hF9 => assumption))
   | (refine' gname gl_special_str hd_special_str ?hF9 ?hX9 ?hT9 rfl kl_from_str_special_str ?_; (case hF9 => assumption); (case hX9 => assumption); (case hT9 => assumption))
   | (refine' gname gl_from_rational hd_from_rational ?hF9 ?hX9 ?hT9 rfl kl_from_str_from_rational ?_; (case hF9 => assumption); (case hX9 => assumption); (case hT9 => assumption))
   | (refine' bname bl_int bv_int bn_int hd_int ?hF9 ?hX9 ?hT9 rfl kl_from_str_int ?_; (case hF9 => assumption); (case hX9 => assumption); (case hT9 => assumption))
   | (refine' gname gl_str_to_man_exp hd_str_to_man_exp ?hF9 ?hX9 ?hT9 rfl kl_from_str_str_to_man_exp ?_; (case hF9 => assumption); (case hX9 => assumption); (case hT9 => assumption))
   | (refine' bname bl_abs bv_abs bn_abs hd_abs ?hF9 ?hX9 ?hT9 rfl kl_from_str_abs ?_; (case hF9 => assumption); (case hX9 => assumption); (case hT9 => assumption))
   | (refine' gname gl_from_int hd_from_int ?hF9 ?hX9 ?hT9 rfl kl_from_str_from_int ?_; (case hF9 => assumption); (case hX9 => assumption); (case hT9 => assumption))
   | (refine' gname gl_mpf_mul hd_mpf_mul ?hF9 ?hX9 ?hT9 rfl kl_from_str_mpf_mul ?_; (case hF9 => assumption); (case hX9 => assumption); (case hT9 => assumption))
   | (refine' gname gl_mpf_pow_int hd_mpf_pow_int ?hF9 ?hX9 ?hT9 rfl kl_from_str_mpf_pow_int ?_; (case hF9 => assumption); (case hX9 => assumption); (case hT9 => assumption))
   | (refine' gname gl_ften hd_ften ?hF9 ?hX9 ?hT9 rfl kl_from_str_ften ?_; (case hF9 => assumption); (case hX9 => assumption); (case hT9 => assumption))
   | (refine' bname bl_pow bv_pow bn_pow hd_pow ?hF9 ?hX9 ?hT9 rfl kl_from_str_pow ?_; (case hF9 => assumption); (case hX9 => assumption); (case hT9 => assumption))
   | (refine' gname gl_from_man_exp hd_from_man_exp ?hF9 ?hX9 ?hT9 rfl kl_from_str_from_man_exp ?_; (case hF9 => assumption); (case hX9 => assumption); (case hT9 => assumption))
   | (refine' bname bl_NotImplementedError bv_NotImplementedError bn_NotImplementedError hd_NotImplementedError ?hF9 ?hX9 ?hT9 rfl kl_from_str_NotImplementedError ?_; (case hF9 => assumption); (case hX9 => assumption); (case hT9 => assumption)))))
local macro_rules | `(tactic| walk_at "loadName") => `(tactic| (
  k_here; with_reducible (first
   | (refine' ldn_from_str_x ?hF9 ?_; (case hF9 => assumption))
   | (refine' ldn_from_str_prec ?hF9 ?_; (case hF9 => assumption))
   | (refine' ldn_from_str_rnd ?hF9 ?_; (case hF9 => assumption))
   | (refine' ldn_from_str_base ?hF9 ?_; (case hF9 => assumption))
   | (refine' ldn_from_str_man ?hF9 ?_; (case hF9 => assumption))
   | (refine' ldn_from_str_exp ?hF9 ?_; (case hF9 => assumption))
   | (refine' ldn_from_str_p ?hF9 ?_; (case hF9 => assumption))
   | (refine' ldn_from_str_q ?hF9 ?_; (case hF9 => assumption))
   | (refine' ldn_from_str_s ?hF9 ?_; (case hF9 => assumption))
   | (refine' ldn_from_str_e2 ?hF9 ?_; (case hF9 => assumption)))))
local macro_rules | `(tactic| walk_at "storeName") => `(tactic| (
  k_here; with_reducible (first
   | (refine' st_from_str_x ?hF9 ?hN9 ?_; (case hF9 => assumption); (case hN9 => assumption); intro _ _ _ _; (try dsimp only); (try k_sweep))
   | (refine' st_from_str_prec ?hF9 ?hN9 ?_; (case hF9 => assumption); (case hN9 => assumption); intro _ _ _ _; (try dsimp only); (try k_sweep))
   | (refine' st_from_str_rnd ?hF9 ?hN9 ?_; (case hF9 => assumption); (case hN9 => assumption); intro _ _ _ _; (try dsimp only); (try k_sweep))
   | (refine' st_from_str_base ?hF9 ?hN9 ?_; (case hF9 => assumption); (case hN9 => assumption); intro _ _ _ _; (try dsimp only); (try k_sweep))
   | (refine' st_from_str_man ?hF9 ?hN9 ?_; (case hF9 => assumption); (case hN9 => assumption); intro _ _ _ _; (try dsimp only); (try k_sweep))
   | (refine' st_from_str_exp ?hF9 ?hN9 ?_; (case hF9 => assumption); (case hN9 => assumption); intro _ _ _ _; (try dsimp only); (try k_sweep))
   | (refine' st_from_str_p ?hF9 ?hN9 ?_; (case hF9 => assumption); (case hN9 => assumption); intro _ _ _ _; (try dsimp only); (try k_sweep))
   | (refine' st_from_str_q ?hF9 ?hN9 ?_; (case hF9 => assumption); (case hN9 => assumption); intro _ _ _ _; (try dsimp only); (try k_sweep))
   | (refine' st_from_str_s ?hF9 ?hN9 ?_; (case hF9 => assumption); (case hN9 => assumption); intro _ _ _ _; (try dsimp only); (try k_sweep))
   | (refine' st_from_str_e2 ?hF9 ?hN9 ?_; (case hF9 => assumption); (case hN9 => assumption); intro _ _ _ _; (try dsimp only); (try k_sweep)))))
set_option hygiene false in
local macro_rules | `(tactic| walk_at "M base") => `(tactic| (
  (rename Fr _ _ _ _ => F1);
  (replace F1 := base_from_str F1)))

local macro_rules | `(tactic| walk_at "call builtin:str.lower") => `(tactic| (k_here; (refine t_lower (by assumption) (by decide) ?_); intro _ _ _ _; (try dsimp only)))
local macro_rules | `(tactic| walk_at "call builtin:str.strip") => `(tactic| (k_here; (refine t_strip_to (by assumption) (by assumption) (by decide) ?_); intro _ _ _ _; (try dsimp only)))
local macro_rules | `(tactic| walk_at "call builtin:str.rstrip") => `(tactic| (k_here; (try dsimp only [List.cons_append, List.nil_append]); (refine t_rstrip (c := 108) (by assumption) (by decide) (by decide +kernel) ?_); intro _ _ _ _; (try dsimp only)))
local macro_rules | `(tactic| walk_at "call builtin:str.find") => `(tactic| (k_here; (refine t_find (c := 112) (by assumption) (by decide +kernel) ?_ ?_) <;> intro _ _ _ _ _ <;> (try dsimp only)))
local macro_rules | `(tactic| walk_at "compareOp In str ref") => `(tactic| (k_here; (refine t_special (by assumption) (by assumption) (by assumption) (by assumption) ?_); intro _; (try dsimp only)))
local macro_rules | `(tactic| walk_at "compareOp In str str") => `(tactic| (k_here; (refine t_in (c := 47) (by assumption) (by decide +kernel) ?_); (try dsimp only)))
local macro_rules | `(tactic| walk_at "call builtin:str.startswith") => `(tactic| (k_here; (try dsimp only [List.cons_append, List.nil_append]); (first
  | (refine t_sw4 (p1 := [48, 98]) (p2 := [45, 48, 98]) (p3 := [48, 66]) (p4 := [45, 48, 66]) (by assumption) (News.isTup (by with_reducible assumption) (by k_mem)) (by decide +kernel) (by decide +kernel) (by decide +kernel) (by decide +kernel) ?_)
  | (refine t_sw4 (p1 := [48, 120]) (p2 := [45, 48, 120]) (p3 := [48, 88]) (p4 := [45, 48, 88]) (by assumption) (News.isTup (by with_reducible assumption) (by k_mem)) (by decide +kernel) (by decide +kernel) (by decide +kernel) (by decide +kernel) ?_)
  | (refine t_sw2 (p1 := [48, 111]) (p2 := [45, 48, 111]) (by assumption) (News.isTup (by with_reducible assumption) (by k_mem)) (by decide +kernel) (by decide +kernel) ?_)); (try dsimp only)))
local macro_rules | `(tactic| walk_at "call builtin:str.split") => `(tactic| (k_here; (try dsimp only [List.cons_append, List.nil_append]); (refine t_split_in (c := 47) (by assumption) (by assumption) (by assumption) (by decide) (by decide +kernel) (by assumption) ?_ ?_) <;> intros <;> (try dsimp only)))
local macro_rules | `(tactic| walk_at "assign Tuple") => `(tactic| (k_here; (refine t_assign_many (n := 2) (by assumption) (by assumption) (News.isList (by with_reducible assumption) (by k_mem)) rfl rfl rfl (by omega) (by decide +kernel) ?_); intro _ _ _ _ _ _ _; (try dsimp only)))
local macro_rules | `(tactic| walk_at "binaryOp Pow int int") => `(tactic| (k_here; (refine r_pow10 (by omega) (by omega) ?_); intro _ _ _ _ _ _; (try dsimp only)))
local macro_rules | `(tactic| walk_at "binaryOp Mult int int") => `(tactic| (k_here; first
  | ((refine r_mulB (by omega) (by omega) ?_); intro _ _ _ _ _; (try dsimp only))
  | ((refine r_mulS (by omega) (by omega) (by omega) (by omega) ?_); intro _ _; (try dsimp only))))
local macro_rules | `(tactic| walk_at "call builtin:pow") => `(tactic| (k_here; first
  | (refine r_pow2 (v := 8) (by decide) (by decide) (by decide) ?_) | (refine r_pow2 (v := 2) (by decide) (by decide) (by decide) ?_) | (refine r_pow2 (v := 16) (by decide) (by decide) (by decide) ?_); intro _ _; (try dsimp only)))
namespace Mine
/-- what a text tells, as a whole number over a whole number; none: refused -/
def fsV (b : Int) (l : List Nat) (n e : Int) : Int × Int :=
  if b = 10 then (if 0 ≤ e then (n * 10 ^ e.toNat, 1) else (n, 10 ^ (-e).toNat))
  else if 112 ∈ l then (pow2N n e, pow2D e) else (pow2N n (e * e2Of b), pow2D (e * e2Of b))
def fsF (b : Int) (l : List Nat) : Option (Int × Int) :=
  if 47 ∈ l then (match splitL 47 l with
    | [p, q] => (intB b.toNat (rstripL 108 p)).bind fun n => (intB b.toNat (rstripL 108 q)).map fun d => (n, d)
    | _ => none)
  else (smeF b (sepOf b l) (e2Of b) l).map fun x => fsV b l x.1 x.2
theorem fsV_p {b n e : Int} {l : List Nat} (hb : b ≠ 10) (h : 112 ∈ l) : fsV b l n e = (pow2N n e, pow2D e) := by unfold fsV; rw [if_neg hb, if_pos h]
theorem fsV_e {b n e k : Int} {l : List Nat} (hb : b ≠ 10) (h : 112 ∉ l) (he : e2Of b = k) : fsV b l n e = (pow2N n (e * k), pow2D (e * k)) := by unfold fsV; rw [if_neg hb, if_neg h, he]
theorem fsV_10p {n e : Int} {l : List Nat} (h : 0 ≤ e) : fsV 10 l n e = (n * 10 ^ e.toNat, 1) := by unfold fsV; rw [if_pos rfl, if_pos h]
theorem fsV_10n {n e : Int} {l : List Nat} (h : e < 0) : fsV 10 l n e = (n, 10 ^ (-e).toNat) := by unfold fsV; rw [if_pos rfl, if_neg (by omega)]
theorem fsR {b n e n' d' prec : Int} {l : List Nat} {rnd : Str} {news : List (Addr × Obj)} {r : Value} {ne : List (Addr × Obj)} (hfs : fsF b l = some (fsV b l n e)) (hq : fsV b l n e = (n', d')) (hr : RvRet n' d' prec rnd news r ne) :
    ∃ n d, fsF b l = some (n, d) ∧ RvRet n d prec rnd news r ne := ⟨n', d', hq ▸ hfs, hr⟩
theorem fsF_2 {b n d : Int} {l p q : List Nat} (hc : 47 ∈ l) (h : splitL 47 l = [p, q]) (h1 : intB b.toNat (rstripL 108 p) = some n) (h2 : intB b.toNat (rstripL 108 q) = some d) : fsF b l = some (n, d) := by
  unfold fsF; rw [if_pos hc, h]; show (intB b.toNat (rstripL 108 p)).bind _ = _; rw [h1]; show (intB b.toNat (rstripL 108 q)).map _ = _; rw [h2]; rfl
theorem fsF_2p {b : Int} {l p q : List Nat} (hc : 47 ∈ l) (h : splitL 47 l = [p, q]) (h1 : intB b.toNat (rstripL 108 p) = none) : fsF b l = none := by
  unfold fsF; rw [if_pos hc, h]; show (intB b.toNat (rstripL 108 p)).bind _ = _; rw [h1]; rfl
theorem fsF_2q {b n : Int} {l p q : List Nat} (hc : 47 ∈ l) (h : splitL 47 l = [p, q]) (h1 : intB b.toNat (rstripL 108 p) = some n) (h2 : intB b.toNat (rstripL 108 q) = none) : fsF b l = none := by
  unfold fsF; rw [if_pos hc, h]; show (intB b.toNat (rstripL 108 p)).bind _ = _; rw [h1]; show (intB b.toNat (rstripL 108 q)).map _ = _; rw [h2]; rfl
theorem fsF_3 {b : Int} {l : List Nat} (hc : 47 ∈ l) (h : 3 ≤ (splitL 47 l).length) : fsF b l = none := by
  unfold fsF; rw [if_pos hc]
  split
  · rename_i e; rw [e] at h; simp at h
  · rfl
theorem fsF_n {b : Int} {l : List Nat} (hc : 47 ∉ l) (h : smeF b (sepOf b l) (e2Of b) l = none) : fsF b l = none := by
  unfold fsF; rw [if_neg hc, h]; rfl
theorem fsF_s {b n e : Int} {l : List Nat} (hc : 47 ∉ l) (h : smeF b (sepOf b l) (e2Of b) l = some (n, e)) : fsF b l = some (fsV b l n e) := by
  unfold fsF; rw [if_neg hc, h]; rfl
theorem baseOf_is (l : List Nat) : BaseIs (baseOf l) := by
  unfold baseOf BaseIs
  split
  · exact Or.inl rfl
  · split
    · exact Or.inr (Or.inr (Or.inr rfl))
    · split
      · exact Or.inr (Or.inl rfl)
      · exact Or.inr (Or.inr (Or.inl rfl))
set_option maxHeartbeats 40000000 in
theorem c_fs (x : Str) (l0 l : List Nat) (prec : Int) (rnd : Str) (tx tp tr : Tok) (news : List (Addr × Obj)) (hx : Tl 250 x l0) (hst : stripL (l0.map lo1) = l) (hsp : l ∉ spKeys) (hlo : l.map lo1 = l) (hrs : rstripL 108 l = l) (hun : 95 ∉ l)
   (hp : 1 ≤ prec) (hp2 : prec ≤ 1000) (hw : WayOk rnd)
   (hfr : ∀ p q n d, splitL 47 l = [p, q] → intB (baseOf l).toNat (rstripL 108 p) = some n → intB (baseOf l).toNat (rstripL 108 q) = some d → 0 ≤ d ∧ bl n ≤ 8000 ∧ bl d ≤ 8000)
   (hsm : ∀ n e, smeF (baseOf l) (sepOf (baseOf l) l) (e2Of (baseOf l)) l = some (n, e) → bl n ≤ 8000 ∧ -400 ≤ e ∧ e ≤ 400) :
   CtrC 127 [.str x tx, .int prec tp, .str rnd tr] 30 news
     (fun r ne => ∃ n d, fsF (baseOf l) l = some (n, d) ∧ RvRet n d prec rnd news r ne)
     (fun X => (X = "ValueError" ∧ fsF (baseOf l) l = none) ∨ (X = "ZeroDivisionError" ∧ ∃ n, fsF (baseOf l) l = some (n, 0))) := by
  walk_at "C enter"
  walk_at "M base"
  refine C_cutR 3 (fun s' => ∃ h1 k1 v tv tb o1 o2 o3 o4 o5 o6, s' = { s with heap := h1, toks := k1 } ∧
    Fr g' L' h1 (fm nm_from_str [some (.str v tv), some (.int prec tp), some (.str rnd tr), some (.int (baseOf l) tb), o1, o2, o3, o4, o5, o6]) ∧ News g' L' h1 news ∧ Tl 250 v l) ?_ ?_
  · dsimp only [List.take]
    walk_at "C steps"
    all_goals first
      | (show Hid _
         first | rw [baseOf_2 (by assumption)] | rw [baseOf_16 (by assumption) (by assumption)] | rw [baseOf_8 (by assumption) (by assumption) (by assumption)] | rw [baseOf_10 (by assumption) (by assumption) (by assumption)]
         exact Hid.mk ⟨_, _, _, _, _, _, _, _, _, _, _, rfl, by assumption, cb_drop (by assumption) (fun p hp => by simp [hp]), by assumption⟩)
      | fail
  · dsimp only [List.drop]
    clear N' F1
    have hbi : BaseIs (baseOf l) := baseOf_is l
    rintro _ ⟨h1, k1, v, tv, tb, o1, o2, o3, o4, o5, o6, rfl, F2, N2, hv⟩
    obtain ⟨b, hb⟩ : ∃ b, b = baseOf l := ⟨_, rfl⟩
    rw [← hb] at F2 hbi hfr hsm hret hexc
    have hb1 : 2 ≤ b ∧ b ≤ 16 := by rcases hbi with h | h | h | h <;> rw [h] <;> decide
    obtain ⟨hb2, hb3⟩ := hb1
    have hv3 : Tl 300 v l := hv.mono (by decide)
    clear hv
    refine C_cutR 2 (fun s' => ∃ h1 k1 v tv tb o1 n t1 e t2 o3 o4 o5, s' = { s with heap := h1, toks := k1 } ∧
      Fr g' L' h1 (fm nm_from_str [some (.str v tv), some (.int prec tp), some (.str rnd tr), some (.int b tb), some (.int n t1), some (.int e t2), o3, o4, o5, o1]) ∧ News g' L' h1 news ∧ Tl 300 v l ∧ 47 ∉ l ∧
      smeF b (sepOf b l) (e2Of b) l = some (n, e)) ?_ ?_
    · dsimp only [List.take]
      walk_at "C steps"
      all_goals first
        | (have hh := hfr _ _ _ _ (by assumption) (by assumption) (by assumption); obtain ⟨hh1, hh2, hh3⟩ := hh; walk_at "C steps")
        | skip
      all_goals first
        | exact Hid.mk ⟨_, _, _, _, _, _, _, _, _, _, _, _, _, rfl, by assumption, cb_drop (by assumption) (fun p hp => by simp [hp]), by assumption, by assumption, by assumption⟩
        | exact hexc _ _ _ _ _ (Or.inl ⟨rfl, fsF_2p (by assumption) (by assumption) (by assumption)⟩) (raised_drop (by assumption) (fun p hp => by simp [hp])) (by assumption) (by assumption)
        | exact hexc _ _ _ _ _ (Or.inl ⟨rfl, fsF_2q (by assumption) (by assumption) (by assumption) (by assumption)⟩) (raised_drop (by assumption) (fun p hp => by simp [hp])) (by assumption) (by assumption)
        | exact hexc _ _ _ _ _ (Or.inl ⟨rfl, fsF_3 (by assumption) (by assumption)⟩) (raised_drop (by assumption) (fun p hp => by simp [hp])) (by assumption) (by assumption)
        | (subst z9; exact hexc _ _ _ _ _ (Or.inr ⟨rfl, _, fsF_2 (by assumption) (by assumption) (by assumption) (by assumption)⟩) (raised_drop (by assumption) (fun p hp => by simp [hp])) (by assumption) (by assumption))
        | (obtain ⟨ne', hd9, hr'⟩ := hr9.drop (news := news) (fun p hp => by simp [hp])
           exact hret _ ne' _ _ (by assumption) (cb_drop (by assumption) hd9) ⟨_, _, fsF_2 (by assumption) (by assumption) (by assumption) (by assumption), hr'⟩)
        | exact hexc _ _ _ _ _ (Or.inl ⟨rfl, fsF_n (by assumption) (by assumption)⟩) (raised_drop (by assumption) (fun p hp => by simp [hp])) (by assumption) (by assumption)
        | fail
    · dsimp only [List.drop]
      rintro _ ⟨h1, k1, v, tv, tb, o1, n, t1, e, t2, o3, o4, o5, rfl, F3, N3, hv, hnc, hse⟩
      clear F2 N2
      have hh := hsm _ _ hse
      obtain ⟨hh1, hh2, hh3⟩ := hh
      have hfs := fsF_s hnc hse
      have e2 := bl_2
      have e8 := bl_8
      have e16 := bl_16
      clear hb
      rcases hbi with rfl | rfl | rfl | rfl
      all_goals (clear hse hsm hfr; walk_at "C steps")
      all_goals first
        | (exfalso; omega)
        | exact hret _ _ _ _ (by assumption) (by assumption) (fsR hfs (fsV_p (by decide) (by assumption)) hr9)
        | exact hret _ _ _ _ (by assumption) (by assumption) (fsR hfs (fsV_e (by decide) (by assumption) (by decide)) hr9)
        | (walk_at "M is"; exact hret _ _ _ _ (by assumption) (by assumption) (fsR hfs (fsV_10p (by assumption)) hr9))
        | (walk_at "M is"; exact hret _ _ _ _ (by assumption) (by assumption) (fsR hfs (fsV_10n (by omega)) hr9))
        | fail
end Mine
end
namespace Mine
/-- what from_str asks of a text: l0 as it is handed over, l as it is read -/
structure FsOk (l0 l : List Nat) : Prop where
  st : stripL (l0.map lo1) = l
  sp : l ∉ spKeys
  lo : l.map lo1 = l
  rs : rstripL 108 l = l
  un : 95 ∉ l
  fr : ∀ p q n d, splitL 47 l = [p, q] → intB (baseOf l).toNat (rstripL 108 p) = some n → intB (baseOf l).toNat (rstripL 108 q) = some d → 0 ≤ d ∧ bl n ≤ 8000 ∧ bl d ≤ 8000
  sm : ∀ n e, smeF (baseOf l) (sepOf (baseOf l) l) (e2Of (baseOf l)) l = some (n, e) → bl n ≤ 8000 ∧ -400 ≤ e ∧ e ≤ 400
theorem c_fs' (x : Str) (l0 l : List Nat) (prec : Int) (rnd : Str) (tx tp tr : Tok) (news : List (Addr × Obj)) (hx : Tl 250 x l0) (hk : FsOk l0 l) (hp : 1 ≤ prec) (hp2 : prec ≤ 1000) (hw : WayOk rnd) :
   CtrC 127 [.str x tx, .int prec tp, .str rnd tr] 30 news
     (fun r ne => ∃ n d, fsF (baseOf l) l = some (n, d) ∧ RvRet n d prec rnd news r ne)
     (fun X => (X = "ValueError" ∧ fsF (baseOf l) l = none) ∨ (X = "ZeroDivisionError" ∧ ∃ n, fsF (baseOf l) l = some (n, 0))) :=
  c_fs x l0 l prec rnd tx tp tr news hx hk.st hk.sp hk.lo hk.rs hk.un hp hp2 hw hk.fr hk.sm
end Mine
--CON
set_option hygiene false in
local macro_rules | `(tactic| walk_at "C") => `(tactic| (
  (with_reducible show wpC _ _ (call (Value.ref 127) _) _ _ _);
  (refine' CtrC.use (c_fs' _ _ _ _ _ _ _ _ _ ?cp ?cq ?cr ?cs ?cw) ?cB ?cF ?cX ?cN ?cT ?cK ?cD ?cU ?_ ?_);
  (case cp => assumption); (case cq => assumption); (case cr => first | assumption | omega); (case cs => first | assumption | omega); (case cw => assumption);
  (case cB => k_asm); (case cF => k_asm); (case cX => k_asm); (case cN => k_asm); (case cT => k_asm); (case cK => first | exact rfl | assumption);
  (case cD => first | (dsimp only [Around.deeper]; omega) | ktr_room); (case cU => first | (dsimp only [Around.deeper]; omega) | ktr_units);
  all_goals (first
   | (intro X9 e9 g9 h9 k9 hX9 R9 F9 U9; rcases hX9 with ⟨rfl, i9⟩ | ⟨rfl, i9⟩ <;> (try dsimp only))
   | (intro r9 ne9 h9 k9 F9 N9 hr9; obtain ⟨n9, d9, i9, v9⟩ := hr9; (try dsimp only)))))
--END

section
namespace Mine
theorem hd_bits : (Str.ofString "bits" == ("__debug__" : Str)) = false := by decide +kernel
theorem hd_from_str : (Str.ofString "from_str" == ("__debug__" : Str)) = false := by decide +kernel
theorem hd_text : (Str.ofString "text" == ("__debug__" : Str)) = false := by decide +kernel
theorem hd_way : (Str.ofString "way" == ("__debug__" : Str)) = false := by decide +kernel
theorem gl_from_str (P : Params) : nsIn (Mine.hd.heap_39 P) mainGlobals (Str.ofString "from_str") = some (some (.ref 127)) := by kernel_rfl!
abbrev sc_zlaw_refused : Scope := { kind := .function, names := [(Str.ofString "text", .local), (Str.ofString "bits", .local), (Str.ofString "way", .local), (Str.ofString "from_str", .globalImplicit), (Str.ofString "ZeroDivisionError", .globalImplicit), (Str.ofString "ValueError", .globalImplicit)], isGenerator := false, isCoroutine := false, more := [] }
theorem kl_zlaw_refused_text {cn : Str} {L a : Addr} {cd : Value} : (envOf cn sc_zlaw_refused L a cd).kindOf (Str.ofString "text") = some .local := by kernel_rfl!
theorem kl_zlaw_refused_bits {cn : Str} {L a : Addr} {cd : Value} : (envOf cn sc_zlaw_refused L a cd).kindOf (Str.ofString "bits") = some .local := by kernel_rfl!
theorem kl_zlaw_refused_way {cn : Str} {L a : Addr} {cd : Value} : (envOf cn sc_zlaw_refused L a cd).kindOf (Str.ofString "way") = some .local := by kernel_rfl!
theorem kl_zlaw_refused_from_str {cn : Str} {L a : Addr} {cd : Value} : (envOf cn sc_zlaw_refused L a cd).kindOf (Str.ofString "from_str") = some .globalImplicit := by kernel_rfl!
theorem kl_zlaw_refused_ZeroDivisionError {cn : Str} {L a : Addr} {cd : Value} : (envOf cn sc_zlaw_refused L a cd).kindOf (Str.ofString "ZeroDivisionError") = some .globalImplicit := by kernel_rfl!
theorem kl_zlaw_refused_ValueError {cn : Str} {L a : Addr} {cd : Value} : (envOf cn sc_zlaw_refused L a cd).kindOf (Str.ofString "ValueError") = some .globalImplicit := by kernel_rfl!
def nm_zlaw_refused : List Str := [Str.ofString "text", Str.ofString "bits", Str.ofString "way"]
theorem ix_zlaw_refused_text : nm_zlaw_refused.idxOf (Str.ofString "text") = 0 := by decide +kernel
theorem ix_zlaw_refused_bits : nm_zlaw_refused.idxOf (Str.ofString "bits") = 1 := by decide +kernel
theorem ix_zlaw_refused_way : nm_zlaw_refused.idxOf (Str.ofString "way") = 2 := by decide +kernel
theorem nd_zlaw_refused : ([Str.ofString "text", Str.ofString "bits", Str.ofString "way"] : List Str).Nodup := by decide +kernel
section
variable {M : Model} {A : Around} {E : Value → Shared → Prop} {s : Shared} {cn : Str} {L a : Addr} {cd : Value} {h₀ : Heap} {news : List (Addr × Obj)} {v : Value} {pos : Pos} {o0 o1 o2 : Option Value}
theorem base_zlaw_refused {h : Heap} {v0 v1 v2 : Value} (F : Fr h₀ L h (fun y => List.lookup y (List.zip [Str.ofString "text", Str.ofString "bits", Str.ofString "way"] [v0, v1, v2]).reverse)) : Fr h₀ L h (fm nm_zlaw_refused [some v0, some v1, some v2]) := by
  rw [fm_base (ns₂ := []) (k := 0) nd_zlaw_refused rfl] at F
  exact F
theorem ld_zlaw_refused_text {Q : Value → Shared → Prop} (F : Fr h₀ L s.heap (fm nm_zlaw_refused [some v, o1, o2])) (h : Q v s) : wpAny M A (eval (.Name (Str.ofString "text") pos) (envOf cn sc_zlaw_refused L a cd)) Q E s := ld F ((fm_get ix_zlaw_refused_text).trans rfl) h rfl kl_zlaw_refused_text hd_text
theorem ldn_zlaw_refused_text {Q : Value → Shared → Prop} (F : Fr h₀ L s.heap (fm nm_zlaw_refused [some v, o1, o2])) (h : Q v s) : wpAny M A (loadName (envOf cn sc_zlaw_refused L a cd) (Str.ofString "text")) Q E s := ldn F ((fm_get ix_zlaw_refused_text).trans rfl) h rfl kl_zlaw_refused_text
theorem st_zlaw_refused_text {Q : Unit → Shared → Prop} (F : Fr h₀ L s.heap (fm nm_zlaw_refused [o0, o1, o2])) (N : News h₀ L s.heap news) (h : ∀ h' k', Fr h₀ L h' (fm nm_zlaw_refused [some v, o1, o2]) → News h₀ L h' news → Q () { s with heap := h', toks := k' }) : wpAny M A (storeName (envOf cn sc_zlaw_refused L a cd) (Str.ofString "text") v) Q E s := r_st F N (fun h' k' F' N' => h h' k' (by rw [fm_set ix_zlaw_refused_text (by decide) rfl] at F'; exact F') N') rfl kl_zlaw_refused_text
theorem ld_zlaw_refused_bits {Q : Value → Shared → Prop} (F : Fr h₀ L s.heap (fm nm_zlaw_refused [o0, some v, o2])) (h : Q v s) : wpAny M A (eval (.Name (Str.ofString "bits") pos) (envOf cn sc_zlaw_refused L a cd)) Q E s := ld F ((fm_get ix_zlaw_refused_bits).trans rfl) h rfl kl_zlaw_refused_bits hd_bits
theorem ldn_zlaw_refused_bits {Q : Value → Shared → Prop} (F : Fr h₀ L s.heap (fm nm_zlaw_refused [o0, some v, o2])) (h : Q v s) : wpAny M A (loadName (envOf cn sc_zlaw_refused L a cd) (Str.ofString "bits")) Q E s := ldn F ((fm_get ix_zlaw_refused_bits).trans rfl) h rfl kl_zlaw_refused_bits
theorem st_zlaw_refused_bits {Q : Unit → Shared → Prop} (F : Fr h₀ L s.heap (fm nm_zlaw_refused [o0, o1, o2])) (N : News h₀ L s.heap news) (h : ∀ h' k', Fr h₀ L h' (fm nm_zlaw_refused [o0, some v, o2]) → News h₀ L h' news → Q () { s with heap := h', toks := k' }) : wpAny M A (storeName (envOf cn sc_zlaw_refused L a cd) (Str.ofString "bits") v) Q E s := r_st F N (fun h' k' F' N' => h h' k' (by rw [fm_set ix_zlaw_refused_bits (by decide) rfl] at F'; exact F') N') rfl kl_zlaw_refused_bits
theorem ld_zlaw_refused_way {Q : Value → Shared → Prop} (F : Fr h₀ L s.heap (fm nm_zlaw_refused [o0, o1, some v])) (h : Q v s) : wpAny M A (eval (.Name (Str.ofString "way") pos) (envOf cn sc_zlaw_refused L a cd)) Q E s := ld F ((fm_get ix_zlaw_refused_way).trans rfl) h rfl kl_zlaw_refused_way hd_way
theorem ldn_zlaw_refused_way {Q : Value → Shared → Prop} (F : Fr h₀ L s.heap (fm nm_zlaw_refused [o0, o1, some v])) (h : Q v s) : wpAny M A (loadName (envOf cn sc_zlaw_refused L a cd) (Str.ofString "way")) Q E s := ldn F ((fm_get ix_zlaw_refused_way).trans rfl) h rfl kl_zlaw_refused_way
theorem st_zlaw_refused_way {Q : Unit → Shared → Prop} (F : Fr h₀ L s.heap (fm nm_zlaw_refused [o0, o1, o2])) (N : News h₀ L s.heap news) (h : ∀ h' k', Fr h₀ L h' (fm nm_zlaw_refused [o0, o1, some v]) → News h₀ L h' news → Q () { s with heap := h', toks := k' }) : wpAny M A (storeName (envOf cn sc_zlaw_refused L a cd) (Str.ofString "way") v) Q E s := r_st F N (fun h' k' F' N' => h h' k' (by rw [fm_set ix_zlaw_refused_way (by decide) rfl] at F'; exact F') N') rfl kl_zlaw_refused_way
end
end Mine

local macro_rules | `(tactic| walk_at "eval Name") => `(tactic| (
  k_here; with_reducible (first
   | (refine' ld_zlaw_refused_text ?hF9 ?_; (case hF9 => assumption))
   | (refine' ld_zlaw_refused_bits ?hF9 ?_; (case hF9 => assumption))
   | (refine' ld_zlaw_refused_way ?hF9 ?_; (case hF9 => assumption))
   | (refine' gname gl_from_str hd_from_str ?hF9 ?hX9 ?hT9 rfl kl_zlaw_refused_from_str ?_; (case hF9 => assumption); (case hX9 => assumption); (case hT9 => assumption))
   | (refine' bname bl_ZeroDivisionError bv_ZeroDivisionError bn_ZeroDivisionError hd_ZeroDivisionError ?hF9 ?hX9 ?hT9 rfl kl_zlaw_refused_ZeroDivisionError ?_; (case hF9 => assumption); (case hX9 => assumption); (case hT9 => assumption))
   | (refine' bname bl_ValueError bv_ValueError bn_ValueError hd_ValueError ?hF9 ?hX9 ?hT9 rfl kl_zlaw_refused_ValueError ?_; (case hF9 => assumption); (case hX9 => assumption); (case hT9 => assumption)))))
local macro_rules | `(tactic| walk_at "loadName") => `(tactic| (
  k_here; with_reducible (first
   | (refine' ldn_zlaw_refused_text ?hF9 ?_; (case hF9 => assumption))
   | (refine' ldn_zlaw_refused_bits ?hF9 ?_; (case hF9 => assumption))
   | (refine' ldn_zlaw_refused_way ?hF9 ?_; (case hF9 => assumption)))))
local macro_rules | `(tactic| walk_at "storeName") => `(tactic| (
  k_here; with_reducible (first
   | (refine' st_zlaw_refused_text ?hF9 ?hN9 ?_; (case hF9 => assumption); (case hN9 => assumption); intro _ _ _ _; (try dsimp only); (try k_sweep))
   | (refine' st_zlaw_refused_bits ?hF9 ?hN9 ?_; (case hF9 => assumption); (case hN9 => assumption); intro _ _ _ _; (try dsimp only); (try k_sweep))
   | (refine' st_zlaw_refused_way ?hF9 ?hN9 ?_; (case hF9 => assumption); (case hN9 => assumption); intro _ _ _ _; (try dsimp only); (try k_sweep)))))
set_option hygiene false in
local macro_rules | `(tactic| walk_at "M base") => `(tactic| (
  (rename Fr _ _ _ _ => F1);
  (replace F1 := base_zlaw_refused F1)))

local macro_rules | `(tactic| walk_at "C") => `(tactic| first
  | ((with_reducible show wpC _ _ (exec (Stmt.Try _ _ _ _ _) _) _ _ _); with_reducible refine C_Try ?_)
  | ((with_reducible show wpC _ _ (exec (Stmt.Expr (Expr.Call (Expr.Name _ _) _ _ _) _) _) _ _ _); refine C_Expr ?_))
namespace Mine
section
variable {prog : Program} {w : World} {A₀ : Around} {E : Value → Shared → Prop} {s' : Shared} {base B h₀ h : Heap} {outer : List Env} {L a e : Addr} {m : Str → Option Value} {name : Str} {scope : Scope} {cd a0 : Value}
  {b₀ : Stmt} {suite : List Stmt} {pos np : Pos} {hs rest : List ExceptHandler} {Q : Flow → Shared → Prop} {news : List (Addr × Obj)} {x : Str} {X T' : String}
theorem t_land (hst : A₀.frames = some outer) (R : RaisedN base (envOf name scope L a cd :: outer) e (.type X) news s'.heap)
    (k : ∀ B a0 h₅, base.StaysIn B → (∀ q ∈ news, B.get? q.1 = some q.2 ∧ base.get? q.1 = none) → Heap.FlyingW B (envOf name scope L a cd :: outer) e (.type X) a0 h₅ → s'.heap.UpToSlots h₅ →
      wpAny (model prog w) (A₀.deeper (envOf name scope L a cd)) (handleBy (.ref e) (envOf name scope L a cd) hs) Q E { s' with heap := h₅ }) :
    wpAny (model prog w) (A₀.deeper (envOf name scope L a cd)) (noteFrame (.ref e) (envOf name scope L a cd))
      (fun _ s₂ => wpAny (model prog w) (A₀.deeper (envOf name scope L a cd)) (setFlight (.ref e) none) (fun _ s₃ =>
        wpAny (model prog w) (A₀.deeper (envOf name scope L a cd)) (handleBy (.ref e) (envOf name scope L a cd) hs) Q E s₃) E s₂) E s' := by
  obtain ⟨B, a0, hB, hl, hfl⟩ := R
  refine wpAny_looks_onW (Around.frames_deeper hst) rfl hfl fun h₄ hheld₄ hsm₄ => ?_
  refine wpAny_landsW hheld₄ fun h₅ hheld hsm₅ => ?_
  exact k B a0 h₅ hB hl hheld (hsm₄.trans hsm₅)
theorem t_no (Fl : Heap.FlyingW B (envOf name scope L a cd :: outer) e (.type X) a0 s'.heap)
    (hexc : isSubtype (.type T') (.type "BaseException") = pure true) (hnt : isSubtype (.type ((Manifest.find? T').elim "type" fun y => y.metatype)) (.type "tuple") = pure false) (hsub : isSubtype (.type X) (.type T') = pure false)
    (hev : ∀ (A : Around) (E' : Value → Shared → Prop), wpAny (model prog w) A (eval (.Name x np) (envOf name scope L a cd)) (fun c s₁ => c = .type T' ∧ s₁ = s') E' s')
    (k : wpAny (model prog w) (A₀.deeper (envOf name scope L a cd)) (handleBy (.ref e) (envOf name scope L a cd) rest) Q E s') :
    wpAny (model prog w) (A₀.deeper (envOf name scope L a cd)) (handleBy (.ref e) (envOf name scope L a cd) (.ExceptHandler (some (.Name x np)) none (b₀ :: suite) pos :: rest)) Q E s' := by
  obtain ⟨ob, hob, hobc⟩ := Fl.there
  refine wpAny_handleBy_builtin (X := X) (T := T') (b := false) hexc hnt hsub (wpAny_mono (hev _ _) (fun c s₁ q => ?_) fun _ _ x => x)
  obtain ⟨rfl, rfl⟩ := q
  exact ⟨rfl, ⟨ob, hob, hobc⟩, k⟩
theorem t_yes (Fl : Heap.FlyingW B (envOf name scope L a cd :: outer) e (.type X) a0 s'.heap)
    (hexc : isSubtype (.type T') (.type "BaseException") = pure true) (hnt : isSubtype (.type ((Manifest.find? T').elim "type" fun y => y.metatype)) (.type "tuple") = pure false) (hsub : isSubtype (.type X) (.type T') = pure true)
    (hev : ∀ (A : Around) (E' : Value → Shared → Prop), wpAny (model prog w) A (eval (.Name x np) (envOf name scope L a cd)) (fun c s₁ => c = .type T' ∧ s₁ = s') E' s')
    (hE : PassesOwnAt (model prog w) ((A₀.deeper (envOf name scope L a cd)).mark (some (.ref e))) (A₀.deeper (envOf name scope L a cd)) (envOf name scope L a cd) E)
    (k : ∀ h₆, Heap.FlyingW B (envOf name scope L a cd :: outer) e (.type X) a0 h₆ → s'.heap.UpToSlots h₆ →
      wpAny (model prog w) ((A₀.deeper (envOf name scope L a cd)).mark (some (.ref e))) (execs (b₀ :: suite) (envOf name scope L a cd)) Q E { s' with heap := h₆ }) :
    wpAny (model prog w) (A₀.deeper (envOf name scope L a cd)) (handleBy (.ref e) (envOf name scope L a cd) (.ExceptHandler (some (.Name x np)) none (b₀ :: suite) pos :: rest)) Q E s' := by
  obtain ⟨ob, hob, hobc⟩ := Fl.there
  refine wpAny_handleBy_builtin (X := X) (T := T') (b := true) hexc hnt hsub (wpAny_mono (hev _ _) (fun c s₁ q => ?_) fun _ _ x => x)
  obtain ⟨rfl, rfl⟩ := q
  refine ⟨rfl, ⟨ob, hob, hobc⟩, ?_⟩
  refine lands_againW Fl fun h₆ hfl₆ hsm₆ => ?_
  exact wpAny_passesOwnAt hE (k h₆ hfl₆ hsm₆)
end
section
variable {prog : Program} {w : World} {A₀ A : Around} {s : Shared} {base h₀ : Heap} {L : Addr} {m : Str → Option Value} {news : List (Addr × Obj)} {K : Frag} {p : Program} {loose : List Str} {mean : ExcName → Option Value} {mg mb : Str → Option Value}
/-- as code_defC2; the end is R itself -/
theorem code_defC4 {env : Env} {outer : List Env} {R : Result → Shared → Prop} {name qual : Str} {params : Arguments} {body : List Stmt} {scope : Scope} {dV kV doc pm cdv ct oc : Value} {an od : Option Addr} {osl : Array (Option Value)} {f : Addr} {args : Args} {binds : List (Str × Value)}
    (B : Below A₀ base outer h₀) (F : Fr h₀ L s.heap m) (X₀ : K.In h₀) (N : News h₀ L s.heap news) (T : Top p loose mean mg mb h₀) (hA : A.frames = some (env :: outer)) (hf : env.frame = some L) (hke : env.scope.kind = .function)
    (ho : K.lookup f = some ⟨oc, od, .func (fnOf name qual params body scope dV kV doc pm an cdv ct), osl⟩) (hcd : codeIn K cdv qual = true) (hroom : A.depth < recursionLimit)
    (hbind : BindsTo s (fnOf name qual params body scope dV kV doc pm an cdv ct) args binds) (hloc : ∀ y ∈ binds, scope.names.lookup y.1 = some .local)
    (h : ∀ g L' h₁ tk, Fr h₀ L g m → Fr g L' h₁ (fun y => binds.reverse.lookup y) → News g L' h₁ news → Below A base (env :: outer) g → K.In g → Top p loose mean mg mb g → (∀ v s', LeaveK h₀ L m g R v s' → R (.ok (.ret v)) s') →
      wpC (model prog w) (A.deeper (envOf qual scope L' f cdv)) (execs body (envOf qual scope L' f cdv))
        (fun fl s' => R (.ok (.ret (match fl with | .ret v => v | _ => .none))) s')
        (fun e s' => wpAny (model prog w) (A.deeper (envOf qual scope L' f cdv)) (leaving (envOf qual scope L' f cdv) e) (fun _ s'' => R (.error e) s'') (fun e' s'' => R (.error e') s'') s')
        { s with heap := h₁, toks := tk })
    (hco : scope.isCoroutine = false) (hgen : scope.isGenerator = false) (hk : scope.kind = .function)
    (hcell : ∀ x ∈ scope.names, x.2 ≠ .cell) : codeC (model prog w) A (.call (.ref f) args) R s := by
  obtain ⟨FG, BG, st, lv⟩ := groundX (R := R) B F N hA hf hke
  refine codeC_call_def (fd := fnOf name qual params body scope dV kV doc pm an cdv ct) (body := body) (binds := binds) hroom ((X₀.keeps F.keep) _ _ ho) rfl (T.nolimit.keeps F.keep) (codeRec_of (X₀.keeps F.keep) hcd) rfl hbind hcell hloc (fun h₁ hns hk₁ => ?_) hco hgen hk
  exact h _ s.heap.objs.size h₁ _ FG ⟨hns, fun b o e => hk₁ b o (of_hideAll _ e), Nat.le_of_eq (hideAll_size _ _)⟩
    (fun p hp => ⟨hk₁ _ _ (N p hp).1, Nat.ne_of_lt (Heap.lt_size (N p hp).1), hideAll_none _ (List.mem_map_of_mem hp)⟩) BG (X₀.keeps st) (T.keeps st) lv
end
/-- what a call from the law's own frame does -/
def CtrL (f : Addr) (vs : List Value) (news : List (Addr × Obj)) (Ret : Value → List (Addr × Obj) → Prop) : Prop :=
  ∀ (w : World) (mean : ExcName → Option Value) (mg mb : Str → Option Value) (cn : Str) (cs : Scope) (a : Addr) (ccd : Value) (h₀ : Heap) (L : Addr) (m : Str → Option Value) (s : Shared) (Q E : Value → Shared → Prop),
    Below callerA h₀ [] h₀ → Fr h₀ L s.heap m → (Mine.hd.heap_39 w.params).In h₀ → News h₀ L s.heap news →
    Top Mine.hd.view_39 (looseW Mine.hd.view_39
      [Str.ofString "round_fast", Str.ofString "fzero", Str.ofString "fone", Str.ofString "ften", Str.ofString "fnan",
        Str.ofString "finf", Str.ofString "fninf", Str.ofString "shifts_down", Str.ofString "from_man_exp",
        Str.ofString "from_int", Str.ofString "from_rational", Str.ofString "mpf_pos", Str.ofString "mpf_mul",
        Str.ofString "mpf_div", Str.ofString "reciprocal_rnd", Str.ofString "mpf_pow_int",
        Str.ofString "str_to_man_exp", Str.ofString "special_str", Str.ofString "from_str"]) mean mg mb h₀ →
    cs.kind = .function →
    (∀ r news' h' tk', Fr h₀ L h' m → News h₀ L h' news' → Ret r news' → Q r { s with heap := h', toks := tk' }) →
    wpC (model PySem.Challenge.rw_bw0028_01.row.prog w) (callerA.deeper (envOf cn cs L a ccd)) (call (.ref f) vs) Q E s
def refT (o : Option (Int × Int)) : Str := match o with | none => Str.ofString "value" | some (_, d) => if d = 0 then Str.ofString "nothing" else Str.ofString "taken"
set_option maxHeartbeats 40000000 in
theorem c_ref (x : Str) (l0 l : List Nat) (prec : Int) (rnd : Str) (tx tp tr : Tok) (news : List (Addr × Obj)) (hx : Tl 250 x l0) (hk : FsOk l0 l) (hp : 1 ≤ prec) (hp2 : prec ≤ 1000) (hw : WayOk rnd) :
   CtrL 186 [.str x tx, .int prec tp, .str rnd tr] news
     (fun r ne => ne = news ∧ ∃ t, r = .str (refT (fsF (baseOf l) l)) t) := by
  unfold CtrL
  k_fill
  intro w mean mg mb cn cs a ccd h₀ L m s Q E B F X N T hkf hret
  refine wpC_call ?_
  k_dflt (refine' code_defC4 ?k1 ?k2 ?k3 ?k4 ?k5 ?kA ?kF ?kK ?k6 ?k7 ?k8 ?k9 ?kB ?_ ?c2 ?c3 ?c4 ?c5)
  (case kA => exact rfl); (case kF => exact rfl); (case kK => assumption); (case k1 => k_asm); (case k2 => k_asm); (case k3 => k_asm); (case k4 => k_asm); (case k5 => k_asm); (case k6 => k_dflt k_is); (case k7 => k_dflt k_is); (case k8 => (show callerA.depth + 1 < recursionLimit; decide))
  (case k9 => k_dflt (first | exact BindsTo.of_eq rfl | exact binds_K (by k_in) rfl (by k_is) rfl rfl rfl))
  (case c5 => k_dflt decide); (case kB => k_dflt (exact locs rfl)); (case c2 => exact rfl); (case c3 => exact rfl); (case c4 => exact rfl)
  intro g' L' h' tk' FG' F' N' B' X' T' lv
  (try dsimp only)
  (try k_fold)
  have hab := F'.above
  walk_at "M base"
  walk_at "C steps"
  all_goals first
    | exact lv _ _ (leaveK_ F9 N9 fun kF kN => hret _ news _ _ kF (cb_drop kN (by
        obtain ⟨hd, q | ⟨_, a, _, _, _, _, _, _, _, _, q, _⟩⟩ := v9
        · intro p hp; rw [q.2.2]; exact hp
        · intro p hp; rw [q]; exact List.mem_cons_of_mem _ hp)) ⟨rfl, _, by rw [i9]; show Value.str _ _ = Value.str (if d9 = 0 then _ else _) _; rw [if_neg v9.1]⟩)
    | (have hst : h₀.objs.size ≤ L' := Nat.le_trans FG'.above (Nat.le_trans (Nat.le_of_lt FG'.ns.lt) hab)
       have Fb : Fr h₀ L' g9 _ := ⟨F9.ns, fun b o q => F9.keep b o (B'.stays b o q), hst⟩
       refine t_land (A₀ := callerA.deeper (envOf cn cs L a ccd)) rfl R9 fun B a0 h₅ hB hl Fl hsm => ?_
       have st5 : h₀.StaysIn h₅ := fun b o q => Fl.1 b o (hB b o q)
       have F5 := Fb.of_stays st5 (U9.trans hsm)
       first
         | (refine t_no Fl PySem.F.isExc_ZeroDivisionError PySem.F.notTuple_ZeroDivisionError (by rw [isSubtype_type]; kernel_rfl) (fun A E' => bname bl_ZeroDivisionError bv_ZeroDivisionError bn_ZeroDivisionError hd_ZeroDivisionError F5 X T rfl kl_zlaw_refused_ZeroDivisionError ⟨rfl, rfl⟩) ?_
            refine t_yes Fl PySem.F.isExc_ValueError PySem.F.notTuple_ValueError (by rw [isSubtype_type]; kernel_rfl) (fun A E' => bname bl_ValueError bv_ValueError bn_ValueError hd_ValueError F5 X T rfl kl_zlaw_refused_ValueError ⟨rfl, rfl⟩) (by passes_own) fun h₆ Fl6 hsm6 => ?_
            have st6 : h₀.StaysIn h₆ := fun b o q => Fl6.1 b o (hB b o q)
            refine wpAny_execs_cons (wpAny_Return_some (wpAny_Constant_str ?_))
            exact hret _ news _ _ (FG'.of_stays st6 ((Heap.UpToSlots.of_keeps F9.keep).trans (U9.trans (hsm.trans hsm6)))) (fun q hq => ⟨Fl6.1 _ _ (hl q hq).1, (N q hq).2.1, (hl q hq).2⟩) ⟨rfl, _, by rw [i9]; rfl⟩)
         | (obtain ⟨n9, i9⟩ := i9
            refine t_yes Fl PySem.F.isExc_ZeroDivisionError PySem.F.notTuple_ZeroDivisionError (by rw [isSubtype_type]; kernel_rfl) (fun A E' => bname bl_ZeroDivisionError bv_ZeroDivisionError bn_ZeroDivisionError hd_ZeroDivisionError F5 X T rfl kl_zlaw_refused_ZeroDivisionError ⟨rfl, rfl⟩) (by passes_own) fun h₆ Fl6 hsm6 => ?_
            have st6 : h₀.StaysIn h₆ := fun b o q => Fl6.1 b o (hB b o q)
            refine wpAny_execs_cons (wpAny_Return_some (wpAny_Constant_str ?_))
            exact hret _ news _ _ (FG'.of_stays st6 ((Heap.UpToSlots.of_keeps F9.keep).trans (U9.trans (hsm.trans hsm6)))) (fun q hq => ⟨Fl6.1 _ _ (hl q hq).1, (N q hq).2.1, (hl q hq).2⟩) ⟨rfl, _, by rw [i9]; rfl⟩))
end Mine
end
namespace Mine
theorem CtrL.use {f : Addr} {vs : List Value} {news : List (Addr × Obj)} {Ret : Value → List (Addr × Obj) → Prop} {w : World} {mean : ExcName → Option Value} {mg mb : Str → Option Value} {cn : Str} {cs : Scope} {a : Addr} {ccd : Value} {h₀ : Heap} {L : Addr} {m : Str → Option Value} {s : Shared} {Q E : Value → Shared → Prop}
    (C : CtrL f vs news Ret) (B : Below callerA h₀ [] h₀) (F : Fr h₀ L s.heap m) (X : (Mine.hd.heap_39 w.params).In h₀) (N : News h₀ L s.heap news)
    (T : Top Mine.hd.view_39 (looseW Mine.hd.view_39
      [Str.ofString "round_fast", Str.ofString "fzero", Str.ofString "fone", Str.ofString "ften", Str.ofString "fnan",
        Str.ofString "finf", Str.ofString "fninf", Str.ofString "shifts_down", Str.ofString "from_man_exp",
        Str.ofString "from_int", Str.ofString "from_rational", Str.ofString "mpf_pos", Str.ofString "mpf_mul",
        Str.ofString "mpf_div", Str.ofString "reciprocal_rnd", Str.ofString "mpf_pow_int",
        Str.ofString "str_to_man_exp", Str.ofString "special_str", Str.ofString "from_str"]) mean mg mb h₀)
    (hk : cs.kind = .function) (hret : ∀ r news' h' tk', Fr h₀ L h' m → News h₀ L h' news' → Ret r news' → Q r { s with heap := h', toks := tk' }) :
    wpC (model PySem.Challenge.rw_bw0028_01.row.prog w) (callerA.deeper (envOf cn cs L a ccd)) (call (.ref f) vs) Q E s :=
  C w mean mg mb cn cs a ccd h₀ L m s Q E B F X N T hk hret
end Mine
--CON
set_option hygiene false in
local macro_rules | `(tactic| walk_at "C") => `(tactic| (
  (with_reducible show wpC _ _ (call (Value.ref 186) _) _ _ _);
  (refine' CtrL.use (c_ref _ _ _ _ _ _ _ _ _ ?cp ?cq ?cr ?cs ?cw) ?cB ?cF ?cX ?cN ?cT ?cK ?_);
  (case cp => assumption); (case cq => assumption); (case cr => first | assumption | omega); (case cs => first | assumption | omega); (case cw => assumption);
  (case cB => k_asm); (case cF => k_asm); (case cX => k_asm); (case cN => k_asm); (case cT => k_asm); (case cK => first | exact rfl | assumption);
  intro r9 ne9 h9 k9 F9 N9 hr9; obtain ⟨rfl, t9, rfl⟩ := hr9; (try dsimp only)))
--END

section
namespace Mine
theorem hd_at : (Str.ofString "at" == ("__debug__" : Str)) = false := by decide +kernel
theorem hd_many : (Str.ofString "many" == ("__debug__" : Str)) = false := by decide +kernel
theorem hd_state : (Str.ofString "state" == ("__debug__" : Str)) = false := by decide +kernel
abbrev sc_zlaw_draw : Scope := { kind := .function, names := [(Str.ofString "state", .local), (Str.ofString "many", .local), (Str.ofString "at", .local), (Str.ofString "len", .globalImplicit)], isGenerator := false, isCoroutine := false, more := [] }
theorem kl_zlaw_draw_state {cn : Str} {L a : Addr} {cd : Value} : (envOf cn sc_zlaw_draw L a cd).kindOf (Str.ofString "state") = some .local := by kernel_rfl!
theorem kl_zlaw_draw_many {cn : Str} {L a : Addr} {cd : Value} : (envOf cn sc_zlaw_draw L a cd).kindOf (Str.ofString "many") = some .local := by kernel_rfl!
theorem kl_zlaw_draw_at {cn : Str} {L a : Addr} {cd : Value} : (envOf cn sc_zlaw_draw L a cd).kindOf (Str.ofString "at") = some .local := by kernel_rfl!
theorem kl_zlaw_draw_len {cn : Str} {L a : Addr} {cd : Value} : (envOf cn sc_zlaw_draw L a cd).kindOf (Str.ofString "len") = some .globalImplicit := by kernel_rfl!
def nm_zlaw_draw : List Str := [Str.ofString "state", Str.ofString "many", Str.ofString "at"]
theorem ix_zlaw_draw_state : nm_zlaw_draw.idxOf (Str.ofString "state") = 0 := by decide +kernel
theorem ix_zlaw_draw_many : nm_zlaw_draw.idxOf (Str.ofString "many") = 1 := by decide +kernel
theorem ix_zlaw_draw_at : nm_zlaw_draw.idxOf (Str.ofString "at") = 2 := by decide +kernel
theorem nd_zlaw_draw : ([Str.ofString "state", Str.ofString "many"] : List Str).Nodup := by decide +kernel
section
variable {M : Model} {A : Around} {E : Value → Shared → Prop} {s : Shared} {cn : Str} {L a : Addr} {cd : Value} {h₀ : Heap} {news : List (Addr × Obj)} {v : Value} {pos : Pos} {o0 o1 o2 : Option Value}
theorem base_zlaw_draw {h : Heap} {v0 v1 : Value} (F : Fr h₀ L h (fun y => List.lookup y (List.zip [Str.ofString "state", Str.ofString "many"] [v0, v1]).reverse)) : Fr h₀ L h (fm nm_zlaw_draw [some v0, some v1, none]) := by
  rw [fm_base (ns₂ := [Str.ofString "at"]) (k := 1) nd_zlaw_draw rfl] at F
  exact F
theorem ld_zlaw_draw_state {Q : Value → Shared → Prop} (F : Fr h₀ L s.heap (fm nm_zlaw_draw [some v, o1, o2])) (h : Q v s) : wpAny M A (eval (.Name (Str.ofString "state") pos) (envOf cn sc_zlaw_draw L a cd)) Q E s := ld F ((fm_get ix_zlaw_draw_state).trans rfl) h rfl kl_zlaw_draw_state hd_state
theorem ldn_zlaw_draw_state {Q : Value → Shared → Prop} (F : Fr h₀ L s.heap (fm nm_zlaw_draw [some v, o1, o2])) (h : Q v s) : wpAny M A (loadName (envOf cn sc_zlaw_draw L a cd) (Str.ofString "state")) Q E s := ldn F ((fm_get ix_zlaw_draw_state).trans rfl) h rfl kl_zlaw_draw_state
theorem st_zlaw_draw_state {Q : Unit → Shared → Prop} (F : Fr h₀ L s.heap (fm nm_zlaw_draw [o0, o1, o2])) (N : News h₀ L s.heap news) (h : ∀ h' k', Fr h₀ L h' (fm nm_zlaw_draw [some v, o1, o2]) → News h₀ L h' news → Q () { s with heap := h', toks := k' }) : wpAny M A (storeName (envOf cn sc_zlaw_draw L a cd) (Str.ofString "state") v) Q E s := r_st F N (fun h' k' F' N' => h h' k' (by rw [fm_set ix_zlaw_draw_state (by decide) rfl] at F'; exact F') N') rfl kl_zlaw_draw_state
theorem ld_zlaw_draw_many {Q : Value → Shared → Prop} (F : Fr h₀ L s.heap (fm nm_zlaw_draw [o0, some v, o2])) (h : Q v s) : wpAny M A (eval (.Name (Str.ofString "many") pos) (envOf cn sc_zlaw_draw L a cd)) Q E s := ld F ((fm_get ix_zlaw_draw_many).trans rfl) h rfl kl_zlaw_draw_many hd_many
theorem ldn_zlaw_draw_many {Q : Value → Shared → Prop} (F : Fr h₀ L s.heap (fm nm_zlaw_draw [o0, some v, o2])) (h : Q v s) : wpAny M A (loadName (envOf cn sc_zlaw_draw L a cd) (Str.ofString "many")) Q E s := ldn F ((fm_get ix_zlaw_draw_many).trans rfl) h rfl kl_zlaw_draw_many
theorem st_zlaw_draw_many {Q : Unit → Shared → Prop} (F : Fr h₀ L s.heap (fm nm_zlaw_draw [o0, o1, o2])) (N : News h₀ L s.heap news) (h : ∀ h' k', Fr h₀ L h' (fm nm_zlaw_draw [o0, some v, o2]) → News h₀ L h' news → Q () { s with heap := h', toks := k' }) : wpAny M A (storeName (envOf cn sc_zlaw_draw L a cd) (Str.ofString "many") v) Q E s := r_st F N (fun h' k' F' N' => h h' k' (by rw [fm_set ix_zlaw_draw_many (by decide) rfl] at F'; exact F') N') rfl kl_zlaw_draw_many
theorem ld_zlaw_draw_at {Q : Value → Shared → Prop} (F : Fr h₀ L s.heap (fm nm_zlaw_draw [o0, o1, some v])) (h : Q v s) : wpAny M A (eval (.Name (Str.ofString "at") pos) (envOf cn sc_zlaw_draw L a cd)) Q E s := ld F ((fm_get ix_zlaw_draw_at).trans rfl) h rfl kl_zlaw_draw_at hd_at
theorem ldn_zlaw_draw_at {Q : Value → Shared → Prop} (F : Fr h₀ L s.heap (fm nm_zlaw_draw [o0, o1, some v])) (h : Q v s) : wpAny M A (loadName (envOf cn sc_zlaw_draw L a cd) (Str.ofString "at")) Q E s := ldn F ((fm_get ix_zlaw_draw_at).trans rfl) h rfl kl_zlaw_draw_at
theorem st_zlaw_draw_at {Q : Unit → Shared → Prop} (F : Fr h₀ L s.heap (fm nm_zlaw_draw [o0, o1, o2])) (N : News h₀ L s.heap news) (h : ∀ h' k', Fr h₀ L h' (fm nm_zlaw_draw [o0, o1, some v]) → News h₀ L h' news → Q () { s with heap := h', toks := k' }) : wpAny M A (storeName (envOf cn sc_zlaw_draw L a cd) (Str.ofString "at") v) Q E s := r_st F N (fun h' k' F' N' => h h' k' (by rw [fm_set ix_zlaw_draw_at (by decide) rfl] at F'; exact F') N') rfl kl_zlaw_draw_at
end
end Mine

local macro_rules | `(tactic| walk_at "eval Name") => `(tactic| (
  k_here; with_reducible (first
   | (refine' ld_zlaw_draw_state ?hF9 ?_; (case hF9 => assumption))
   | (refine' ld_zlaw_draw_many ?hF9 ?_; (case hF9 => assumption))
   | (refine' ld_zlaw_draw_at ?hF9 ?_; (case hF9 => assumption))
   | (refine' bname bl_len bv_len bn_len hd_len ?hF9 ?hX9 ?hT9 rfl kl_zlaw_draw_len ?_; (case hF9 => assumption); (case hX9 => assumption); (case hT9 => assumption)))))
local macro_rules | `(tactic| walk_at "loadName") => `(tactic| (
  k_here; with_reducible (first
   | (refine' ldn_zlaw_draw_state ?hF9 ?_; (case hF9 => assumption))
   | (refine' ldn_zlaw_draw_many ?hF9 ?_; (case hF9 => assumption))
   | (refine' ldn_zlaw_draw_at ?hF9 ?_; (case hF9 => assumption)))))
local macro_rules | `(tactic| walk_at "storeName") => `(tactic| (
  k_here; with_reducible (first
   | (refine' st_zlaw_draw_state ?hF9 ?hN9 ?_; (case hF9 => assumption); (case hN9 => assumption); intro _ _ _ _; (try dsimp only); (try k_sweep))
   | (refine' st_zlaw_draw_many ?hF9 ?hN9 ?_; (case hF9 => assumption); (case hN9 => assumption); intro _ _ _ _; (try dsimp only); (try k_sweep))
   | (refine' st_zlaw_draw_at ?hF9 ?hN9 ?_; (case hF9 => assumption); (case hN9 => assumption); intro _ _ _ _; (try dsimp only); (try k_sweep)))))
set_option hygiene false in
local macro_rules | `(tactic| walk_at "M base") => `(tactic| (
  (rename Fr _ _ _ _ => F1);
  (replace F1 := base_zlaw_draw F1)))

namespace Mine
/-- the state's object -/
abbrev stO (at_ : Int) (ta : Tok) (np : Addr) (seed : Int) (ts : Tok) : Obj := { cls := .type "list", data := .seq #[.int at_ ta, .ref np, .int seed ts] }
abbrev lsO (vs : Array Value) : Obj := { cls := .type "list", data := .seq vs }
abbrev lsN (vs : Array Value) (n : Nat) : Obj := { cls := .type "list", data := .seq vs n }
section
variable {prog : Program} {w : World} {A : Around} {E : Value → Shared → Prop} {s : Shared} {h₀ : Heap} {L sp np : Addr} {m : Str → Option Value} {rest : List (Addr × Obj)} {at_ seed k : Int} {ta ts t u : Tok} {Q : Unit → Shared → Prop} {v : Value}
theorem r_setL {xs ys : Array Value} (F : Fr h₀ L s.heap m) (N : News h₀ L s.heap ((sp, lsO xs) :: rest)) (hne : ∀ p ∈ rest, p.1 ≠ sp) (h0 : 0 ≤ k) (h1 : k < xs.size) (h2 : k < 2 ^ 63) (hy : xs.setIfInBounds k.toNat v = ys)
    (h : ∀ h', Fr h₀ L h' m → News h₀ L h' ((sp, lsO ys) :: rest) → Q () { s with heap := h' }) : wpAny (model prog w) A (setItem (.ref sp) (.int k t) v) Q E s := by
  subst hy
  have z := N (sp, lsO xs) (List.mem_cons_self ..)
  exact ki_setAt (n := 0) z.1 h0 h2 h1 (h _ (F.change (Heap.SameBut.update ..) z.2.1 z.2.2) (ki_turn (pre := []) (n := 0) (n' := 0) _ N (fun p hp => by cases hp) hne rfl (by rw [if_pos (by simp)])))
theorem r_st0 (F : Fr h₀ L s.heap m) (N : News h₀ L s.heap ((sp, stO at_ ta np seed ts) :: rest)) (hne : ∀ p ∈ rest, p.1 ≠ sp)
    (h : ∀ h', Fr h₀ L h' m → News h₀ L h' ((sp, stO k u np seed ts) :: rest) → Q () { s with heap := h' }) : wpAny (model prog w) A (setItem (.ref sp) (.int 0 t) (.int k u)) Q E s :=
  r_setL F N hne (by decide) (by simp) (by decide) (by rfl) h
theorem r_st2 (F : Fr h₀ L s.heap m) (N : News h₀ L s.heap ((sp, stO at_ ta np seed ts) :: rest)) (hne : ∀ p ∈ rest, p.1 ≠ sp)
    (h : ∀ h', Fr h₀ L h' m → News h₀ L h' ((sp, stO at_ ta np k u) :: rest) → Q () { s with heap := h' }) : wpAny (model prog w) A (setItem (.ref sp) (.int 2 t) (.int k u)) Q E s :=
  r_setL F N hne (by decide) (by simp) (by decide) (by rfl) h
end
section
variable {prog : Program} {w : World} {A : Around} {E : Value → Shared → Prop} {s : Shared} {np : Addr} {vs : Array Value} {ns : List Int} {a b k : Int} {t u : Tok} {Q : Value → Shared → Prop}
theorem r_modB (ha : 0 ≤ a) (hb : 0 < b) (h : ∀ v t' k', Is v (a % b) → 0 ≤ v → v < b → Q (.int v t') { s with toks := k' }) : wpAny (model prog w) A (binaryOp .Mod (.int a t) (.int b u)) Q E s :=
  PyProof.Rows.mod_int' (by omega) (h _ _ _ ⟨Int.fmod_eq_emod_of_nonneg a (Int.le_of_lt hb)⟩ (by rw [Int.fmod_eq_emod_of_nonneg a (Int.le_of_lt hb)]; exact Int.emod_nonneg a (by omega)) (by rw [Int.fmod_eq_emod_of_nonneg a (Int.le_of_lt hb)]; exact Int.emod_lt_of_pos a hb))
theorem r_fdivB (ha : 0 ≤ a) (ha2 : a ≤ 1000000) (hb : 0 < b) (hb2 : b ≤ 1000000) (h : ∀ v t' k', Is v (a / b) → 0 ≤ v → v ≤ a → Q (.int v t') { s with toks := k' }) : wpAny (model prog w) A (binaryOp .FloorDiv (.int a t) (.int b u)) Q E s :=
  floordiv_int (by omega) (h _ _ _ ⟨Int.fdiv_eq_ediv_of_nonneg a (Int.le_of_lt hb)⟩ (by rw [Int.fdiv_eq_ediv_of_nonneg a (Int.le_of_lt hb)]; exact Int.ediv_nonneg ha (Int.le_of_lt hb)) (by rw [Int.fdiv_eq_ediv_of_nonneg a (Int.le_of_lt hb)]; exact Int.ediv_le_self b ha)) (Or.inl (PyProof.noPylong_small (by omega)))
theorem r_item {value slice : Expr} (hl : s.heap.IsList np vs) (hi : IntsAre vs.toList ns) (hns : ∀ k ∈ ns, 0 ≤ k ∧ k < 1000003) (h0 : 0 ≤ k) (h1 : k < (vs.size : Int)) (h2 : (vs.size : Int) ≤ 1000) (h : ∀ v t', 0 ≤ v → v < 1000003 → Q (.int v t') s)
    (hs : subscripted slice false (.ref np) (.int k u) = operate [.ref np, .int k u] (getItem (.ref np) (.int k u)) := by with_unfolding_all rfl) :
    wpAny (model prog w) A (subscriptTail value slice (.ref np) (.int k u)) Q E s := by
  have hlen : k.toNat < ns.length := by have := hi.length; rw [Array.length_toList] at this; omega
  obtain ⟨t', ht'⟩ := hi.get k.toNat ns[k.toNat] (by simp [hlen])
  have hb := hns ns[k.toNat] (List.getElem_mem hlen)
  exact tail_any hl.typeIs slot_list_getitem.lookup (wpAny_getItem_list hl h0 (by omega) (by rw [← Array.getElem?_toList]; exact ht') (h _ _ hb.1 hb.2)) hs
end
end Mine
local macro_rules | `(tactic| walk_at "binaryOp Mod int int") => `(tactic| (k_here; (refine r_modB (by omega) (by omega) ?_); intro _ _ _ _ _ _; (try dsimp only)))
local macro_rules | `(tactic| walk_at "binaryOp FloorDiv int int") => `(tactic| (k_here; (refine r_fdivB (by omega) (by omega) (by omega) (by omega) ?_); intro _ _ _ _ _ _; (try dsimp only)))
local macro_rules | `(tactic| walk_at "binaryOp Mult int int") => `(tactic| (k_here; (refine r_mulS (by omega) (by omega) (by omega) (by omega) ?_); intro _ _; (try dsimp only)))
local macro_rules | `(tactic| walk_at "call builtin:len") => `(tactic| (k_here; (refine len_list (News.isList (by with_reducible assumption) (List.mem_cons_of_mem _ (by with_reducible assumption))) (by omega) ?_); (try dsimp only)))
local macro_rules | `(tactic| walk_at "subscriptTail") => `(tactic| (k_here; (with_reducible show wpAny _ _ (subscriptTail _ _ (Value.ref _) (Value.int _ _)) _ _ _); (refine r_item (News.isList (by with_reducible assumption) (List.mem_cons_of_mem _ (by with_reducible assumption))) (by assumption) (by assumption) (by omega) (by omega) (by omega) ?_); intro _ _ _ _; (try dsimp only)))
local macro_rules | `(tactic| walk_at "setItem ref int") => `(tactic| (k_here; first | (refine r_st0 (by assumption) (by assumption) (by assumption) ?_) | (refine r_st2 (by assumption) (by assumption) (by assumption) ?_); intro _ _ _; (try dsimp only)))
namespace Mine
/-- the state's surroundings: its list of numbers, and nothing else at its address -/
structure Sts (sp np : Addr) (vs : Array Value) (rest : List (Addr × Obj)) : Prop where
  ne : ∀ p ∈ rest, p.1 ≠ sp
  mem : ∃ n, (np, lsN vs n) ∈ rest
  are : ∃ ns, IntsAre vs.toList ns ∧ ∀ k ∈ ns, 0 ≤ k ∧ k < 1000003
  sz : (vs.size : Int) ≤ 100
theorem Ctr.view {f : Addr} {vs : List Value} {sz : Nat} {news news2 : List (Addr × Obj)} {Ret Ret2 : Value → List (Addr × Obj) → Prop} (h : Ctr f vs sz news Ret (fun _ => False)) (h1 : ∀ p ∈ news, p ∈ news2) (hR : ∀ r ne, Ret r ne → ∃ ne2, (∀ p ∈ ne2, p ∈ ne) ∧ Ret2 r ne2) :
    Ctr f vs sz news2 Ret2 (fun _ => False) :=
  fun w mean mg mb dp un gd cn cs a ccd cl outer A₀ base h₀ L m s Q E B F X N T hk hd hu hret hexc =>
    h w mean mg mb dp un gd cn cs a ccd cl outer A₀ base h₀ L m s Q E B F X (cb_drop N h1) T hk hd hu (fun r ne h' k' F' N' q => by obtain ⟨ne2, h2, h3⟩ := hR r ne q; exact hret r ne2 h' k' F' (cb_drop N' h2) h3) fun _ _ _ _ _ q => q.elim
set_option maxHeartbeats 40000000 in
theorem c_draw (sp np : Addr) (at_ seed many : Int) (vs : Array Value) (ta ts tm : Tok) (rest : List (Addr × Obj)) (hS : Sts sp np vs rest)
   (hat : 0 ≤ at_) (hs1 : 0 ≤ seed) (hs2 : seed < 7877) (hm1 : 1 ≤ many) (hm2 : many ≤ 1000) :
   Ctr 139 [.ref sp, .int many tm] 4 ((sp, stO at_ ta np seed ts) :: rest)
     (fun r ne => ∃ k tk at' seed' ta' ts', r = .int k tk ∧ 0 ≤ k ∧ k < many ∧ 0 ≤ at' ∧ 0 ≤ seed' ∧ seed' < 7877 ∧ ne = (sp, stO at' ta' np seed' ts') :: rest) (fun _ => False) := by
  obtain ⟨hne, ⟨nn, hmem⟩, ⟨ns, hi, hns⟩, hsz⟩ := hS
  walk_at "M enter"
  walk_at "M base"
  k_steps
  all_goals (walk_at "M ret"; exact ⟨_, _, _, _, _, _, rfl, by assumption, by assumption, by omega, by assumption, by assumption, rfl⟩)
/-- the same with an object ahead of the state -/
theorem c_draw1 (sp np x : Addr) (o : Obj) (at_ seed many : Int) (vs : Array Value) (ta ts tm : Tok) (rest : List (Addr × Obj)) (hS : Sts sp np vs rest) (hx : ∀ p ∈ (sp, stO at_ ta np seed ts) :: rest, p.1 < x)
   (hat : 0 ≤ at_) (hs1 : 0 ≤ seed) (hs2 : seed < 7877) (hm1 : 1 ≤ many) (hm2 : many ≤ 1000) :
   Ctr 139 [.ref sp, .int many tm] 4 ((x, o) :: (sp, stO at_ ta np seed ts) :: rest)
     (fun r ne => ∃ k tk at' seed' ta' ts', r = .int k tk ∧ 0 ≤ k ∧ k < many ∧ 0 ≤ at' ∧ 0 ≤ seed' ∧ seed' < 7877 ∧ ne = (x, o) :: (sp, stO at' ta' np seed' ts') :: rest) (fun _ => False) := by
  have hxs : x ≠ sp := fun e => by have := hx _ (List.mem_cons_self ..); rw [e] at this; exact absurd this (Nat.lt_irrefl _)
  refine (c_draw sp np at_ seed many vs ta ts tm ((x, o) :: rest) ⟨fun p hp => (List.mem_cons.mp hp).elim (fun e => by rw [e]; exact hxs) (hS.ne p), hS.mem.imp fun _ h => List.mem_cons_of_mem _ h, hS.are, hS.sz⟩ hat hs1 hs2 hm1 hm2).view (fun p hp => by
    rcases List.mem_cons.mp hp with e | hp
    · rw [e]; exact List.mem_cons_of_mem _ (List.mem_cons_self ..)
    · rcases List.mem_cons.mp hp with e | hp
      · rw [e]; exact List.mem_cons_self ..
      · exact List.mem_cons_of_mem _ (List.mem_cons_of_mem _ hp)) fun r ne q => ?_
  obtain ⟨k, tk, a', s', ta', ts', h1, h2, h3, h4, h5, h6, h7⟩ := q
  refine ⟨_, fun p hp => ?_, k, tk, a', s', ta', ts', h1, h2, h3, h4, h5, h6, rfl⟩
  rw [h7]
  rcases List.mem_cons.mp hp with e | hp
  · rw [e]; exact List.mem_cons_of_mem _ (List.mem_cons_self ..)
  · rcases List.mem_cons.mp hp with e | hp
    · rw [e]; exact List.mem_cons_self ..
    · exact List.mem_cons_of_mem _ (List.mem_cons_of_mem _ hp)
end Mine
end
--CON
set_option hygiene false in
local macro_rules | `(tactic| walk_at "call ref") => `(tactic| (
  k_here; (with_reducible show wpAny _ _ (call (Value.ref 139) _) _ _ _); first
   | ((refine' Ctr.use (c_draw _ _ _ _ _ _ _ _ _ _ ?cs ?ca ?c1 ?c2 ?c3 ?c4) ?cB ?cF ?cX ?cN ?cT ?cK ?cD ?cU (fun _ _ _ _ _ h => h.elim) ?_);
      (case cN => with_reducible assumption); (case cs => assumption); (case ca => first | assumption | omega); (case c1 => assumption); (case c2 => assumption); (case c3 => first | assumption | omega); (case c4 => first | assumption | omega);
      (case cB => k_asm); (case cF => k_asm); (case cX => k_asm); (case cT => k_asm); (case cK => first | exact rfl | assumption);
      (case cD => first | (dsimp only [Around.deeper]; omega) | ktr_room); (case cU => first | (dsimp only [Around.deeper]; omega) | ktr_units);
      intro r9 ne9 h9 k9 F9 N9 hr9; obtain ⟨k9, tk9, a9, s9, ta9, ts9, rfl, u9, v9, w9, x9, y9, rfl⟩ := hr9; (try dsimp only))
   | ((refine' Ctr.use (c_draw1 _ _ _ _ _ _ _ _ _ _ _ _ ?cs ?cx ?ca ?c1 ?c2 ?c3 ?c4) ?cB ?cF ?cX ?cN ?cT ?cK ?cD ?cU (fun _ _ _ _ _ h => h.elim) ?_);
      (case cN => with_reducible assumption); (case cs => assumption); (case cx => assumption); (case ca => first | assumption | omega); (case c1 => assumption); (case c2 => assumption); (case c3 => first | assumption | omega); (case c4 => first | assumption | omega);
      (case cB => k_asm); (case cF => k_asm); (case cX => k_asm); (case cT => k_asm); (case cK => first | exact rfl | assumption);
      (case cD => first | (dsimp only [Around.deeper]; omega) | ktr_room); (case cU => first | (dsimp only [Around.deeper]; omega) | ktr_units);
      intro r9 ne9 h9 k9 F9 N9 hr9; obtain ⟨k9, tk9, a9, s9, ta9, ts9, rfl, u9, v9, w9, x9, y9, rfl⟩ := hr9; (try dsimp only))))
--END

namespace Mine
section
variable {prog : Program} {w : World} {A : Around} {E : Value → Shared → Prop} {s : Shared} {env : Env} {h₀ : Heap} {x : Str} {body : List Stmt} {Q : Flow → Shared → Prop} {m₀ : Str → Option Value} {news : List (Addr × Obj)}
/-- a loop by what holds of the frame between the turns -/
theorem loopV {I : Addr} {fp wr : List Addr} {n : Nat} {P : Nat → Value → Prop} {St : Nat → Heap → Prop} {s₂ : Shared} (J : Nat → (Str → Option Value) → Prop) (W : Walks prog w A I fp wr n P St) (hL : env.locals ∉ fp) (hw : ∀ b ∈ wr, h₀.get? b = none) (hn : ∀ p ∈ news, p.1 ∉ wr)
    (h0 : St 0 s₂.heap) (F : Fr h₀ env.locals s₂.heap m₀) (N : News h₀ env.locals s₂.heap news) (hj : J 0 m₀)
    (turn : ∀ i v m₁ h tk own, i < n → P i v → J i m₁ → Fr h₀ env.locals h (fun y => if y = x then some v else m₁ y) → News h₀ env.locals h (own ++ news) →
      wpAny (model prog w) A (execs body env) (InvPost h₀ env.locals (J (i + 1)) (own ++ news) { s₂ with heap := h, toks := tk } Q) E { s₂ with heap := h, toks := tk })
    (done : ∀ m₁ h tk, J n m₁ → Fr h₀ env.locals h m₁ → News h₀ env.locals h news → Q .next { s₂ with heap := h, toks := tk }) : LoopAtV prog w A h₀ env x body Q E (.ref I) s₂ := by
  let J' : Nat → (Str → Option Value) → List (Addr × Obj) → Prop := fun i m₁ news₁ => news₁ = news ∧ J i m₁
  refine ⟨I, fp, wr, n, P, St, m₀, news, J', rfl, W, hL, hw, hn, h0, F, N, ⟨rfl, hj⟩, ?_, ?_⟩
  · rintro i v m₁ news₁ s₁ own ⟨hh', tk', rfl⟩ hin hP ⟨rfl, hJ⟩ hoff _ _ _ _ F₁ N₁
    refine wpAny_mono (turn i v m₁ hh' tk' own hin hP hJ F₁ N₁) (fun f s₃ p => ?_) fun _ _ e => e
    have fin : InvEnd h₀ env.locals (J (i + 1)) (own ++ news₁) { s₂ with heap := hh', toks := tk' } s₃ → LoopStepU h₀ env.locals wr own (J' (i + 1)) { s₂ with heap := hh', toks := tk' } .next s₃ := by
      rintro ⟨h', tk, m', news', e, F', N', hn, hm⟩
      exact ⟨rfl, h', tk, m', news₁, e, F', fun p hp => N' p (hn p hp), hoff, rfl, hm⟩
    cases f with
    | ret v => exact .ret p
    | brk => exact .brk p
    | next => exact .next (fin p)
    | cont => exact .cont (fin p)
  · rintro h' tk m' news' F' N' _ ⟨rfl, hJ⟩
    exact done m' h' tk hJ F' N'
/-- a loop over the signs of a text -/
theorem it_str {z : Str} {t : Tok} (J : Nat → (Str → Option Value) → Prop) (hh : A.handled = none) (hA : ∀ c ∈ ls z, c < 128) (F : Fr h₀ env.locals s.heap m₀) (N : News h₀ env.locals s.heap news) (hj : J 0 m₀)
    (turn : ∀ i c t m₁ h tk own, (ls z)[i]? = some c → J i m₁ → Fr h₀ env.locals h (fun y => if y = x then some (.str ⟨#[c]⟩ t) else m₁ y) → News h₀ env.locals h (own ++ news) →
      wpAny (model prog w) A (execs body env) (InvPost h₀ env.locals (J (i + 1)) (own ++ news) { s with heap := h, toks := tk } Q) E { s with heap := h, toks := tk })
    (done : ∀ m₁ h tk, J (ls z).length m₁ → Fr h₀ env.locals h m₁ → News h₀ env.locals h news → Q .next { s with heap := h, toks := tk }) :
    wpAny (model prog w) A (pyIter (.str z t)) (fun it s₂ => LoopAtV prog w A h₀ env x body Q E it s₂) E s := by
  have hz : z.cps.all (· < 128) = true := by
    rw [Array.all_eq_true']
    intro c hc
    have := hA c (by simpa [ls] using hc)
    simpa using this
  refine wpAny_pyIter_ascii hz ?_
  have W := Walks.strAscii (prog := prog) (w := w) hh s.heap.objs.size z t
  have hsz : z.cps.size = (ls z).length := by simp [ls]
  rw [hsz] at W
  refine loopV J W (fun hm => absurd F.ns.lt ((List.mem_singleton.mp hm) ▸ Nat.lt_irrefl _)) (fun b hb => by rw [List.mem_singleton.mp hb]; exact next_is_new F)
    (fun p hp hI => absurd (Heap.lt_size (N p hp).1) ((List.mem_singleton.mp hI) ▸ Nat.lt_irrefl _)) ⟨_, Heap.get?_push_size _ rfl, rfl, rfl⟩ (F.push _) (fun p hp => ⟨Heap.get?_push_of_some _ (N p hp).1, (N p hp).2⟩) hj ?_ done
  rintro i v m₁ h tk own hi ⟨c, u, hc, rfl⟩ hJ F₁ N₁
  exact turn i c u m₁ h tk own (by simpa [ls] using hc) hJ F₁ N₁
/-- a loop over a range by ones -/
theorem it_range {r : Addr} {a₀ b₀ : Int} {t₀ u₀ v₀ : Tok} {n : Nat} (J : Nat → (Str → Option Value) → Prop) (hh : A.handled = none) (hr : IsRange s.heap r a₀ b₀ 1 t₀ u₀ v₀) (hsmall : Builtin.Range.small a₀ b₀ 1 = true) (hn : Builtin.Range.rangeSize a₀ b₀ 1 = (n : Int))
    (F : Fr h₀ env.locals s.heap m₀) (N : News h₀ env.locals s.heap news) (hj : J 0 m₀)
    (turn : ∀ i t m₁ h tk own, i < n → J i m₁ → Fr h₀ env.locals h (fun y => if y = x then some (.int (a₀ + (i : Nat) * 1) t) else m₁ y) → News h₀ env.locals h (own ++ news) →
      wpAny (model prog w) A (execs body env) (InvPost h₀ env.locals (J (i + 1)) (own ++ news) { s with heap := h, toks := tk } Q) E { s with heap := h, toks := tk })
    (done : ∀ m₁ h tk, J n m₁ → Fr h₀ env.locals h m₁ → News h₀ env.locals h news → Q .next { s with heap := h, toks := tk }) :
    wpAny (model prog w) A (pyIter (.ref r)) (fun it s₂ => LoopAtV prog w A h₀ env x body Q E it s₂) E s := by
  refine wpAny_pyIter_range hr hsmall ?_
  have W : Walks prog w A s.heap.objs.size [s.heap.objs.size] [s.heap.objs.size] n (fun i v => ∃ t, v = .int (a₀ + i * 1) t)
      (fun i h => IsRangeIter h s.heap.objs.size (a₀ + (i : Nat) * 1) ((n : Int) - (i : Nat)) 1) := Walks.range hh _ a₀ 1 n
  refine loopV J W (fun hm => absurd F.ns.lt ((List.mem_singleton.mp hm) ▸ Nat.lt_irrefl _)) (fun b hb => by rw [List.mem_singleton.mp hb]; exact next_is_new F)
    (fun p hp hI => absurd (Heap.lt_size (N p hp).1) ((List.mem_singleton.mp hI) ▸ Nat.lt_irrefl _)) (by show IsRangeIter _ _ _ _ _; rw [hn]; simpa using Heap.get?_push_size _ rfl) (F.push _) (fun p hp => ⟨Heap.get?_push_of_some _ (N p hp).1, (N p hp).2⟩) hj ?_ done
  rintro i v m₁ h tk own hi ⟨t, rfl⟩ hJ F₁ N₁
  exact turn i t m₁ h tk own hi hJ F₁ N₁
end
end Mine

section
namespace Mine
theorem hd_found : (Str.ofString "found" == ("__debug__" : Str)) = false := by decide +kernel
theorem hd_one : (Str.ofString "one" == ("__debug__" : Str)) = false := by decide +kernel
abbrev sc_zlaw_value : Scope := { kind := .function, names := [(Str.ofString "text", .local), (Str.ofString "base", .local), (Str.ofString "found", .local), (Str.ofString "one", .local)], isGenerator := false, isCoroutine := false, more := [] }
theorem kl_zlaw_value_text {cn : Str} {L a : Addr} {cd : Value} : (envOf cn sc_zlaw_value L a cd).kindOf (Str.ofString "text") = some .local := by kernel_rfl!
theorem kl_zlaw_value_base {cn : Str} {L a : Addr} {cd : Value} : (envOf cn sc_zlaw_value L a cd).kindOf (Str.ofString "base") = some .local := by kernel_rfl!
theorem kl_zlaw_value_found {cn : Str} {L a : Addr} {cd : Value} : (envOf cn sc_zlaw_value L a cd).kindOf (Str.ofString "found") = some .local := by kernel_rfl!
theorem kl_zlaw_value_one {cn : Str} {L a : Addr} {cd : Value} : (envOf cn sc_zlaw_value L a cd).kindOf (Str.ofString "one") = some .local := by kernel_rfl!
def nm_zlaw_value : List Str := [Str.ofString "text", Str.ofString "base", Str.ofString "found", Str.ofString "one"]
theorem ix_zlaw_value_text : nm_zlaw_value.idxOf (Str.ofString "text") = 0 := by decide +kernel
theorem ix_zlaw_value_base : nm_zlaw_value.idxOf (Str.ofString "base") = 1 := by decide +kernel
theorem ix_zlaw_value_found : nm_zlaw_value.idxOf (Str.ofString "found") = 2 := by decide +kernel
theorem ix_zlaw_value_one : nm_zlaw_value.idxOf (Str.ofString "one") = 3 := by decide +kernel
theorem nd_zlaw_value : ([Str.ofString "text", Str.ofString "base"] : List Str).Nodup := by decide +kernel
section
variable {M : Model} {A : Around} {E : Value → Shared → Prop} {s : Shared} {cn : Str} {L a : Addr} {cd : Value} {h₀ : Heap} {news : List (Addr × Obj)} {v : Value} {pos : Pos} {o0 o1 o2 o3 : Option Value}
theorem base_zlaw_value {h : Heap} {v0 v1 : Value} (F : Fr h₀ L h (fun y => List.lookup y (List.zip [Str.ofString "text", Str.ofString "base"] [v0, v1]).reverse)) : Fr h₀ L h (fm nm_zlaw_value [some v0, some v1, none, none]) := by
  rw [fm_base (ns₂ := [Str.ofString "found", Str.ofString "one"]) (k := 2) nd_zlaw_value rfl] at F
  exact F
theorem ld_zlaw_value_text {Q : Value → Shared → Prop} (F : Fr h₀ L s.heap (fm nm_zlaw_value [some v, o1, o2, o3])) (h : Q v s) : wpAny M A (eval (.Name (Str.ofString "text") pos) (envOf cn sc_zlaw_value L a cd)) Q E s := ld F ((fm_get ix_zlaw_value_text).trans rfl) h rfl kl_zlaw_value_text hd_text
theorem ldn_zlaw_value_text {Q : Value → Shared → Prop} (F : Fr h₀ L s.heap (fm nm_zlaw_value [some v, o1, o2, o3])) (h : Q v s) : wpAny M A (loadName (envOf cn sc_zlaw_value L a cd) (Str.ofString "text")) Q E s := ldn F ((fm_get ix_zlaw_value_text).trans rfl) h rfl kl_zlaw_value_text
theorem st_zlaw_value_text {Q : Unit → Shared → Prop} (F : Fr h₀ L s.heap (fm nm_zlaw_value [o0, o1, o2, o3])) (N : News h₀ L s.heap news) (h : ∀ h' k', Fr h₀ L h' (fm nm_zlaw_value [some v, o1, o2, o3]) → News h₀ L h' news → Q () { s with heap := h', toks := k' }) : wpAny M A (storeName (envOf cn sc_zlaw_value L a cd) (Str.ofString "text") v) Q E s := r_st F N (fun h' k' F' N' => h h' k' (by rw [fm_set ix_zlaw_value_text (by decide) rfl] at F'; exact F') N') rfl kl_zlaw_value_text
theorem ld_zlaw_value_base {Q : Value → Shared → Prop} (F : Fr h₀ L s.heap (fm nm_zlaw_value [o0, some v, o2, o3])) (h : Q v s) : wpAny M A (eval (.Name (Str.ofString "base") pos) (envOf cn sc_zlaw_value L a cd)) Q E s := ld F ((fm_get ix_zlaw_value_base).trans rfl) h rfl kl_zlaw_value_base hd_base
theorem ldn_zlaw_value_base {Q : Value → Shared → Prop} (F : Fr h₀ L s.heap (fm nm_zlaw_value [o0, some v, o2, o3])) (h : Q v s) : wpAny M A (loadName (envOf cn sc_zlaw_value L a cd) (Str.ofString "base")) Q E s := ldn F ((fm_get ix_zlaw_value_base).trans rfl) h rfl kl_zlaw_value_base
theorem st_zlaw_value_base {Q : Unit → Shared → Prop} (F : Fr h₀ L s.heap (fm nm_zlaw_value [o0, o1, o2, o3])) (N : News h₀ L s.heap news) (h : ∀ h' k', Fr h₀ L h' (fm nm_zlaw_value [o0, some v, o2, o3]) → News h₀ L h' news → Q () { s with heap := h', toks := k' }) : wpAny M A (storeName (envOf cn sc_zlaw_value L a cd) (Str.ofString "base") v) Q E s := r_st F N (fun h' k' F' N' => h h' k' (by rw [fm_set ix_zlaw_value_base (by decide) rfl] at F'; exact F') N') rfl kl_zlaw_value_base
theorem ld_zlaw_value_found {Q : Value → Shared → Prop} (F : Fr h₀ L s.heap (fm nm_zlaw_value [o0, o1, some v, o3])) (h : Q v s) : wpAny M A (eval (.Name (Str.ofString "found") pos) (envOf cn sc_zlaw_value L a cd)) Q E s := ld F ((fm_get ix_zlaw_value_found).trans rfl) h rfl kl_zlaw_value_found hd_found
theorem ldn_zlaw_value_found {Q : Value → Shared → Prop} (F : Fr h₀ L s.heap (fm nm_zlaw_value [o0, o1, some v, o3])) (h : Q v s) : wpAny M A (loadName (envOf cn sc_zlaw_value L a cd) (Str.ofString "found")) Q E s := ldn F ((fm_get ix_zlaw_value_found).trans rfl) h rfl kl_zlaw_value_found
theorem st_zlaw_value_found {Q : Unit → Shared → Prop} (F : Fr h₀ L s.heap (fm nm_zlaw_value [o0, o1, o2, o3])) (N : News h₀ L s.heap news) (h : ∀ h' k', Fr h₀ L h' (fm nm_zlaw_value [o0, o1, some v, o3]) → News h₀ L h' news → Q () { s with heap := h', toks := k' }) : wpAny M A (storeName (envOf cn sc_zlaw_value L a cd) (Str.ofString "found") v) Q E s := r_st F N (fun h' k' F' N' => h h' k' (by rw [fm_set ix_zlaw_value_found (by decide) rfl] at F'; exact F') N') rfl kl_zlaw_value_found
theorem ld_zlaw_value_one {Q : Value → Shared → Prop} (F : Fr h₀ L s.heap (fm nm_zlaw_value [o0, o1, o2, some v])) (h : Q v s) : wpAny M A (eval (.Name (Str.ofString "one") pos) (envOf cn sc_zlaw_value L a cd)) Q E s := ld F ((fm_get ix_zlaw_value_one).trans rfl) h rfl kl_zlaw_value_one hd_one
theorem ldn_zlaw_value_one {Q : Value → Shared → Prop} (F : Fr h₀ L s.heap (fm nm_zlaw_value [o0, o1, o2, some v])) (h : Q v s) : wpAny M A (loadName (envOf cn sc_zlaw_value L a cd) (Str.ofString "one")) Q E s := ldn F ((fm_get ix_zlaw_value_one).trans rfl) h rfl kl_zlaw_value_one
theorem st_zlaw_value_one {Q : Unit → Shared → Prop} (F : Fr h₀ L s.heap (fm nm_zlaw_value [o0, o1, o2, o3])) (N : News h₀ L s.heap news) (h : ∀ h' k', Fr h₀ L h' (fm nm_zlaw_value [o0, o1, o2, some v]) → News h₀ L h' news → Q () { s with heap := h', toks := k' }) : wpAny M A (storeName (envOf cn sc_zlaw_value L a cd) (Str.ofString "one") v) Q E s := r_st F N (fun h' k' F' N' => h h' k' (by rw [fm_set ix_zlaw_value_one (by decide) rfl] at F'; exact F') N') rfl kl_zlaw_value_one
end
end Mine

local macro_rules | `(tactic| walk_at "eval Name") => `(tactic| (
  k_here; with_reducible (first
   | (refine' ld_zlaw_value_text ?hF9 ?_; (case hF9 => assumption))
   | (refine' ld_zlaw_value_base ?hF9 ?_; (case hF9 => assumption))
   | (refine' ld_zlaw_value_found ?hF9 ?_; (case hF9 => assumption))
   | (refine' ld_zlaw_value_one ?hF9 ?_; (case hF9 => assumption)))))
local macro_rules | `(tactic| walk_at "loadName") => `(tactic| (
  k_here; with_reducible (first
   | (refine' ldn_zlaw_value_text ?hF9 ?_; (case hF9 => assumption))
   | (refine' ldn_zlaw_value_base ?hF9 ?_; (case hF9 => assumption))
   | (refine' ldn_zlaw_value_found ?hF9 ?_; (case hF9 => assumption))
   | (refine' ldn_zlaw_value_one ?hF9 ?_; (case hF9 => assumption)))))
local macro_rules | `(tactic| walk_at "storeName") => `(tactic| (
  k_here; with_reducible (first
   | (refine' st_zlaw_value_text ?hF9 ?hN9 ?_; (case hF9 => assumption); (case hN9 => assumption); intro _ _ _ _; (try dsimp only); (try k_sweep))
   | (refine' st_zlaw_value_base ?hF9 ?hN9 ?_; (case hF9 => assumption); (case hN9 => assumption); intro _ _ _ _; (try dsimp only); (try k_sweep))
   | (refine' st_zlaw_value_found ?hF9 ?hN9 ?_; (case hF9 => assumption); (case hN9 => assumption); intro _ _ _ _; (try dsimp only); (try k_sweep))
   | (refine' st_zlaw_value_one ?hF9 ?hN9 ?_; (case hF9 => assumption); (case hN9 => assumption); intro _ _ _ _; (try dsimp only); (try k_sweep)))))
set_option hygiene false in
local macro_rules | `(tactic| walk_at "M base") => `(tactic| (
  (rename Fr _ _ _ _ => F1);
  (replace F1 := base_zlaw_value F1)))

namespace Mine
def dg (d : Nat) : Nat := if d < 10 then 48 + d else 87 + d
def hornI (b : Int) (ds : List Nat) : Int := ds.foldl (fun (a : Int) (d : Nat) => a * b + (d : Int)) 0
theorem hornI_snoc (b : Int) (ds : List Nat) (d : Nat) : hornI b (ds ++ [d]) = hornI b ds * b + (d : Int) := by unfold hornI; rw [List.foldl_append]; rfl
section
variable {prog : Program} {w : World} {A : Around} {E : Value → Shared → Prop} {s : Shared} {a b : Int} {t u : Tok} {Q : Value → Shared → Prop}
theorem r_mulR (h0 : 0 ≤ b) (h1 : b ≤ 1000000) (h : ∀ t' k', Q (.int (a * b) t') { s with toks := k' }) : wpAny (model prog w) A (binaryOp .Mult (.int a t) (.int b u)) Q E s := by
  obtain ⟨x, rfl⟩ := Int.eq_ofNat_of_zero_le h0
  have h5 : bl (x : Int) ≤ ((64 : Nat) : Int) := bl_nat.mpr (Nat.lt_of_le_of_lt (by omega : x ≤ 1000000) (by decide))
  unfold bl at h5
  exact PyProof.Rows.mul_int (h _ _) (IntMulOk.of_right (by omega))
theorem occ_hex : ∀ d, d < 16 → Builtin.Str.occurrences (Str.ofString "0123456789abcdef") ⟨#[dg d]⟩ 0 (Str.ofString "0123456789abcdef").length 1 = [d] := by decide +kernel
theorem signs_dg {n : Nat} {x : Str} {ds : List Nat} (hx : Tl n x (ds.map dg)) (hds : ∀ d ∈ ds, d < 16) : ∀ a ∈ signs x, ∃ d, d < 16 ∧ a = ⟨#[dg d]⟩ := fun a ha => by
  unfold signs at ha
  obtain ⟨c, hc, rfl⟩ := List.mem_map.mp ha
  have e : x.cps.toList = ds.map dg := hx.is
  rw [e] at hc
  obtain ⟨d, hd, rfl⟩ := List.mem_map.mp hc
  exact ⟨d, hds d hd, rfl⟩
theorem fold_value {n : Nat} {x : Str} {ds : List Nat} (hx : Tl n x (ds.map dg)) (hds : ∀ d ∈ ds, d < 16) : List.foldl (fun T a => T * b + Txt.find (Str.ofString "0123456789abcdef") a) 0 (signs x) = hornI b ds := by
  have e : x.cps.toList = ds.map dg := hx.is
  unfold signs hornI
  rw [e, List.map_map, List.foldl_map]
  clear e hx
  generalize (0 : Int) = z
  induction ds generalizing z with
  | nil => rfl
  | cons d ds ih =>
    rw [List.foldl_cons, List.foldl_cons]
    have h1 : Txt.find (Str.ofString "0123456789abcdef") ⟨#[dg d]⟩ = (d : Int) := by
      unfold Txt.find
      rw [occ_hex d (hds d (List.mem_cons_self ..))]
    show List.foldl _ (z * b + Txt.find (Str.ofString "0123456789abcdef") ⟨#[dg d]⟩) ds = _
    rw [h1]
    exact ih (fun d hd => hds d (List.mem_cons_of_mem _ hd)) _
theorem t_index {c d : Nat} (hd : d < 16) (hc : c = dg d) (h : ∀ t' k', Q (.int (d : Int) t') { s with toks := k' }) :
    wpAny (model prog w) A (call (.builtin "str.index") [.str (Str.ofString "0123456789abcdef") t, .str ⟨#[c]⟩ u]) Q E s := by
  subst hc
  exact call_gives F.slot_str_index (typeIs_str _ _ _) F.entry_str_index (F.args_str_index_2 _ _) (gives_str_index _ _ t u d [] (occ_hex d hd)) (h _ _)
end
end Mine
local macro_rules | `(tactic| walk_at "binaryOp Mult int int") => `(tactic| (k_here; (refine r_mulR (by omega) (by omega) ?_); intro _ _; (try dsimp only)))
namespace Mine
set_option maxHeartbeats 40000000 in
theorem c_value (x : Str) (ds : List Nat) (n : Nat) (b : Int) (tx tb : Tok) (news : List (Addr × Obj)) (hx : Tl n x (ds.map dg)) (hds : ∀ d ∈ ds, d < 16) (hb1 : 2 ≤ b) (hb2 : b ≤ 16) :
   Ctr 158 [.str x tx, .int b tb] 4 news (fun r ne => ∃ t, r = .int (hornI b ds) t ∧ ne = news) (fun _ => False) := by
  walk_at "M enter"
  walk_at "M base"
  k_steps
  all_goals first
    | (exfalso
       obtain ⟨d, hd, rfl⟩ := signs_dg hx hds _ (by assumption)
       have q := (by assumption : (Builtin.Str.occurrences _ _ _ _ _).isEmpty = true)
       rw [occ_hex d hd] at q
       cases q)
    | (walk_at "M ret"; exact ⟨_, congrArg (fun v => Value.int v _) (fold_value hx hds), rfl⟩)
    | fail
end Mine
end
--CON
set_option hygiene false in
local macro_rules | `(tactic| walk_at "call ref") => `(tactic| (
  k_here; (with_reducible show wpAny _ _ (call (Value.ref 158) _) _ _ _);
  (refine' Ctr.use (c_value _ _ _ _ _ _ _ ?ca ?cb ?cc ?cd) ?cB ?cF ?cX ?cN ?cT ?cK ?cD ?cU (fun _ _ _ _ _ h => h.elim) ?_);
  (case ca => assumption); (case cb => assumption); (case cc => first | assumption | omega); (case cd => first | assumption | omega); walk_at "M use";
  intro r9 ne9 h9 k9 F9 N9 hr9; obtain ⟨t9, rfl, rfl⟩ := hr9; (try dsimp only)))
--END

section
namespace Mine
theorem hd_range : (Str.ofString "range" == ("__debug__" : Str)) = false := by decide +kernel
theorem hd_turn : (Str.ofString "turn" == ("__debug__" : Str)) = false := by decide +kernel
theorem bl_range (P : Params) : nsIn (Mine.hd.heap_39 P) mainGlobals (Str.ofString "range") = some none := by kernel_rfl!
theorem bv_range : bootBuiltins (Str.ofString "range") = some (.type "range") := by boot_by_name
theorem bn_range : (Str.ofString "range") ≠ ("__name__" : Str) := by decide +kernel
abbrev sc_zlaw_power : Scope := { kind := .function, names := [(Str.ofString "base", .local), (Str.ofString "many", .local), (Str.ofString "found", .local), (Str.ofString "turn", .local), (Str.ofString "range", .globalImplicit)], isGenerator := false, isCoroutine := false, more := [] }
theorem kl_zlaw_power_base {cn : Str} {L a : Addr} {cd : Value} : (envOf cn sc_zlaw_power L a cd).kindOf (Str.ofString "base") = some .local := by kernel_rfl!
theorem kl_zlaw_power_many {cn : Str} {L a : Addr} {cd : Value} : (envOf cn sc_zlaw_power L a cd).kindOf (Str.ofString "many") = some .local := by kernel_rfl!
theorem kl_zlaw_power_found {cn : Str} {L a : Addr} {cd : Value} : (envOf cn sc_zlaw_power L a cd).kindOf (Str.ofString "found") = some .local := by kernel_rfl!
theorem kl_zlaw_power_turn {cn : Str} {L a : Addr} {cd : Value} : (envOf cn sc_zlaw_power L a cd).kindOf (Str.ofString "turn") = some .local := by kernel_rfl!
theorem kl_zlaw_power_range {cn : Str} {L a : Addr} {cd : Value} : (envOf cn sc_zlaw_power L a cd).kindOf (Str.ofString "range") = some .globalImplicit := by kernel_rfl!
def nm_zlaw_power : List Str := [Str.ofString "base", Str.ofString "many", Str.ofString "found", Str.ofString "turn"]
theorem ix_zlaw_power_base : nm_zlaw_power.idxOf (Str.ofString "base") = 0 := by decide +kernel
theorem ix_zlaw_power_many : nm_zlaw_power.idxOf (Str.ofString "many") = 1 := by decide +kernel
theorem ix_zlaw_power_found : nm_zlaw_power.idxOf (Str.ofString "found") = 2 := by decide +kernel
theorem ix_zlaw_power_turn : nm_zlaw_power.idxOf (Str.ofString "turn") = 3 := by decide +kernel
theorem nd_zlaw_power : ([Str.ofString "base", Str.ofString "many"] : List Str).Nodup := by decide +kernel
section
variable {M : Model} {A : Around} {E : Value → Shared → Prop} {s : Shared} {cn : Str} {L a : Addr} {cd : Value} {h₀ : Heap} {news : List (Addr × Obj)} {v : Value} {pos : Pos} {o0 o1 o2 o3 : Option Value}
theorem base_zlaw_power {h : Heap} {v0 v1 : Value} (F : Fr h₀ L h (fun y => List.lookup y (List.zip [Str.ofString "base", Str.ofString "many"] [v0, v1]).reverse)) : Fr h₀ L h (fm nm_zlaw_power [some v0, some v1, none, none]) := by
  rw [fm_base (ns₂ := [Str.ofString "found", Str.ofString "turn"]) (k := 2) nd_zlaw_power rfl] at F
  exact F
theorem ld_zlaw_power_base {Q : Value → Shared → Prop} (F : Fr h₀ L s.heap (fm nm_zlaw_power [some v, o1, o2, o3])) (h : Q v s) : wpAny M A (eval (.Name (Str.ofString "base") pos) (envOf cn sc_zlaw_power L a cd)) Q E s := ld F ((fm_get ix_zlaw_power_base).trans rfl) h rfl kl_zlaw_power_base hd_base
theorem ldn_zlaw_power_base {Q : Value → Shared → Prop} (F : Fr h₀ L s.heap (fm nm_zlaw_power [some v, o1, o2, o3])) (h : Q v s) : wpAny M A (loadName (envOf cn sc_zlaw_power L a cd) (Str.ofString "base")) Q E s := ldn F ((fm_get ix_zlaw_power_base).trans rfl) h rfl kl_zlaw_power_base
theorem st_zlaw_power_base {Q : Unit → Shared → Prop} (F : Fr h₀ L s.heap (fm nm_zlaw_power [o0, o1, o2, o3])) (N : News h₀ L s.heap news) (h : ∀ h' k', Fr h₀ L h' (fm nm_zlaw_power [some v, o1, o2, o3]) → News h₀ L h' news → Q () { s with heap := h', toks := k' }) : wpAny M A (storeName (envOf cn sc_zlaw_power L a cd) (Str.ofString "base") v) Q E s := r_st F N (fun h' k' F' N' => h h' k' (by rw [fm_set ix_zlaw_power_base (by decide) rfl] at F'; exact F') N') rfl kl_zlaw_power_base
theorem ld_zlaw_power_many {Q : Value → Shared → Prop} (F : Fr h₀ L s.heap (fm nm_zlaw_power [o0, some v, o2, o3])) (h : Q v s) : wpAny M A (eval (.Name (Str.ofString "many") pos) (envOf cn sc_zlaw_power L a cd)) Q E s := ld F ((fm_get ix_zlaw_power_many).trans rfl) h rfl kl_zlaw_power_many hd_many
theorem ldn_zlaw_power_many {Q : Value → Shared → Prop} (F : Fr h₀ L s.heap (fm nm_zlaw_power [o0, some v, o2, o3])) (h : Q v s) : wpAny M A (loadName (envOf cn sc_zlaw_power L a cd) (Str.ofString "many")) Q E s := ldn F ((fm_get ix_zlaw_power_many).trans rfl) h rfl kl_zlaw_power_many
theorem st_zlaw_power_many {Q : Unit → Shared → Prop} (F : Fr h₀ L s.heap (fm nm_zlaw_power [o0, o1, o2, o3])) (N : News h₀ L s.heap news) (h : ∀ h' k', Fr h₀ L h' (fm nm_zlaw_power [o0, some v, o2, o3]) → News h₀ L h' news → Q () { s with heap := h', toks := k' }) : wpAny M A (storeName (envOf cn sc_zlaw_power L a cd) (Str.ofString "many") v) Q E s := r_st F N (fun h' k' F' N' => h h' k' (by rw [fm_set ix_zlaw_power_many (by decide) rfl] at F'; exact F') N') rfl kl_zlaw_power_many
theorem ld_zlaw_power_found {Q : Value → Shared → Prop} (F : Fr h₀ L s.heap (fm nm_zlaw_power [o0, o1, some v, o3])) (h : Q v s) : wpAny M A (eval (.Name (Str.ofString "found") pos) (envOf cn sc_zlaw_power L a cd)) Q E s := ld F ((fm_get ix_zlaw_power_found).trans rfl) h rfl kl_zlaw_power_found hd_found
theorem ldn_zlaw_power_found {Q : Value → Shared → Prop} (F : Fr h₀ L s.heap (fm nm_zlaw_power [o0, o1, some v, o3])) (h : Q v s) : wpAny M A (loadName (envOf cn sc_zlaw_power L a cd) (Str.ofString "found")) Q E s := ldn F ((fm_get ix_zlaw_power_found).trans rfl) h rfl kl_zlaw_power_found
theorem st_zlaw_power_found {Q : Unit → Shared → Prop} (F : Fr h₀ L s.heap (fm nm_zlaw_power [o0, o1, o2, o3])) (N : News h₀ L s.heap news) (h : ∀ h' k', Fr h₀ L h' (fm nm_zlaw_power [o0, o1, some v, o3]) → News h₀ L h' news → Q () { s with heap := h', toks := k' }) : wpAny M A (storeName (envOf cn sc_zlaw_power L a cd) (Str.ofString "found") v) Q E s := r_st F N (fun h' k' F' N' => h h' k' (by rw [fm_set ix_zlaw_power_found (by decide) rfl] at F'; exact F') N') rfl kl_zlaw_power_found
theorem ld_zlaw_power_turn {Q : Value → Shared → Prop} (F : Fr h₀ L s.heap (fm nm_zlaw_power [o0, o1, o2, some v])) (h : Q v s) : wpAny M A (eval (.Name (Str.ofString "turn") pos) (envOf cn sc_zlaw_power L a cd)) Q E s := ld F ((fm_get ix_zlaw_power_turn).trans rfl) h rfl kl_zlaw_power_turn hd_turn
theorem ldn_zlaw_power_turn {Q : Value → Shared → Prop} (F : Fr h₀ L s.heap (fm nm_zlaw_power [o0, o1, o2, some v])) (h : Q v s) : wpAny M A (loadName (envOf cn sc_zlaw_power L a cd) (Str.ofString "turn")) Q E s := ldn F ((fm_get ix_zlaw_power_turn).trans rfl) h rfl kl_zlaw_power_turn
theorem st_zlaw_power_turn {Q : Unit → Shared → Prop} (F : Fr h₀ L s.heap (fm nm_zlaw_power [o0, o1, o2, o3])) (N : News h₀ L s.heap news) (h : ∀ h' k', Fr h₀ L h' (fm nm_zlaw_power [o0, o1, o2, some v]) → News h₀ L h' news → Q () { s with heap := h', toks := k' }) : wpAny M A (storeName (envOf cn sc_zlaw_power L a cd) (Str.ofString "turn") v) Q E s := r_st F N (fun h' k' F' N' => h h' k' (by rw [fm_set ix_zlaw_power_turn (by decide) rfl] at F'; exact F') N') rfl kl_zlaw_power_turn
end
end Mine

local macro_rules | `(tactic| walk_at "eval Name") => `(tactic| (
  k_here; with_reducible (first
   | (refine' ld_zlaw_power_base ?hF9 ?_; (case hF9 => assumption))
   | (refine' ld_zlaw_power_many ?hF9 ?_; (case hF9 => assumption))
   | (refine' ld_zlaw_power_found ?hF9 ?_; (case hF9 => assumption))
   | (refine' ld_zlaw_power_turn ?hF9 ?_; (case hF9 => assumption))
   | (refine' bname bl_range bv_range bn_range hd_range ?hF9 ?hX9 ?hT9 rfl kl_zlaw_power_range ?_; (case hF9 => assumption); (case hX9 => assumption); (case hT9 => assumption)))))
local macro_rules | `(tactic| walk_at "loadName") => `(tactic| (
  k_here; with_reducible (first
   | (refine' ldn_zlaw_power_base ?hF9 ?_; (case hF9 => assumption))
   | (refine' ldn_zlaw_power_many ?hF9 ?_; (case hF9 => assumption))
   | (refine' ldn_zlaw_power_found ?hF9 ?_; (case hF9 => assumption))
   | (refine' ldn_zlaw_power_turn ?hF9 ?_; (case hF9 => assumption)))))
local macro_rules | `(tactic| walk_at "storeName") => `(tactic| (
  k_here; with_reducible (first
   | (refine' st_zlaw_power_base ?hF9 ?hN9 ?_; (case hF9 => assumption); (case hN9 => assumption); intro _ _ _ _; (try dsimp only); (try k_sweep))
   | (refine' st_zlaw_power_many ?hF9 ?hN9 ?_; (case hF9 => assumption); (case hN9 => assumption); intro _ _ _ _; (try dsimp only); (try k_sweep))
   | (refine' st_zlaw_power_found ?hF9 ?hN9 ?_; (case hF9 => assumption); (case hN9 => assumption); intro _ _ _ _; (try dsimp only); (try k_sweep))
   | (refine' st_zlaw_power_turn ?hF9 ?hN9 ?_; (case hF9 => assumption); (case hN9 => assumption); intro _ _ _ _; (try dsimp only); (try k_sweep)))))
set_option hygiene false in
local macro_rules | `(tactic| walk_at "M base") => `(tactic| (
  (rename Fr _ _ _ _ => F1);
  (replace F1 := base_zlaw_power F1)))

namespace Mine
theorem range_n {k : Int} (h : 0 ≤ k) : Builtin.Range.rangeSize 0 k 1 = ((k.toNat : Nat) : Int) := by
  unfold Builtin.Range.rangeSize
  rw [if_pos (by decide)]
  split <;> omega
theorem range_small {k : Int} (h : 0 ≤ k) (h2 : k ≤ 1000) : Builtin.Range.small 0 k 1 = true := by
  have f : ∀ i : Int, -10 ≤ i → i ≤ 2000 → Builtin.Range.rangeFitsLong i = true := fun i h1 h2 => by
    unfold Builtin.Range.rangeFitsLong
    rw [Bool.and_eq_true]
    exact ⟨decide_eq_true (by omega), decide_eq_true (by omega)⟩
  unfold Builtin.Range.small
  rw [range_n h, if_pos (by decide), f 0 (by decide) (by decide), f k (by omega) (by omega), f 1 (by decide) (by decide), f _ (by omega) (by omega), f _ (by omega) (by omega)]
  simp
theorem pow_snoc (b : Int) (i : Nat) : b ^ (i + 1) = b ^ i * b := Int.pow_succ b i
end Mine
set_option hygiene false in
local macro_rules | `(tactic| walk_at "exec For Name Call cons nil") => `(tactic| (k_here; (with_unfolding_all (refine For_invV g' kl_zlaw_power_turn rfl ?_)); (try dsimp only)))
set_option hygiene false in
local macro_rules | `(tactic| walk_at "pyIter ref") => `(tactic| (
  k_here; k_dflt (refine it_range (n := k.toNat) (fun i m => ∃ v t o, Is v (b ^ i) ∧ m = fm nm_zlaw_power [some (.int b tb), some (.int k tk), some (.int v t), o]) rfl (by assumption) (range_small (by omega) (by omega)) (range_n (by omega)) (by assumption) (by assumption) ⟨1, _, _, ⟨(Int.pow_zero b).symm⟩, rfl⟩ ?_ ?_);
  all_goals (first
    | (intro i t m₁ h tk2 own hi hj F1 N1; obtain ⟨v2, t2, o2, hv2, rfl⟩ := hj; (rw [fm_set ix_zlaw_power_turn (by decide) rfl] at F1); (dsimp only [List.set] at F1); k_dflt (change Fr g' L' _ _ at F1); k_dflt (change News g' L' _ _ at N1); (try dsimp only))
    | (intro m₁ h tk2 hj F1 N1; obtain ⟨v2, t2, o2, hv2, rfl⟩ := hj; k_dflt (change Fr g' L' _ _ at F1); k_dflt (change News g' L' _ _ at N1); (try dsimp only)))))
local macro_rules | `(tactic| walk_at "binaryOp Mult int int") => `(tactic| (k_here; (refine r_mulR (by omega) (by omega) ?_); intro _ _; (try dsimp only)))
namespace Mine
set_option maxHeartbeats 40000000 in
theorem c_power (b k : Int) (tb tk : Tok) (news : List (Addr × Obj)) (hb1 : 1 ≤ b) (hb2 : b ≤ 16) (hk1 : 0 ≤ k) (hk2 : k ≤ 100) :
   Ctr 165 [.int b tb, .int k tk] 4 news (fun r ne => ∃ t, r = .int (b ^ k.toNat) t ∧ ne = news) (fun _ => False) := by
  walk_at "M enter"
  walk_at "M base"
  k_steps
  all_goals first
    | (refine InvEnd.intro (by assumption) (by assumption) (fun _ hp => hp) ?_; exact ⟨_, _, _, ⟨by rw [pow_snoc, hv2.out]⟩, rfl⟩)
    | (walk_at "M ret"; exact ⟨_, by rw [hv2.out], rfl⟩)
    | fail
end Mine
end
--CON
set_option hygiene false in
local macro_rules | `(tactic| walk_at "call ref") => `(tactic| (
  k_here; (with_reducible show wpAny _ _ (call (Value.ref 165) _) _ _ _);
  (refine' Ctr.use (c_power _ _ _ _ _ ?ca ?cb ?cc ?cd) ?cB ?cF ?cX ?cN ?cT ?cK ?cD ?cU (fun _ _ _ _ _ h => h.elim) ?_);
  (case ca => first | assumption | omega); (case cb => first | assumption | omega); (case cc => first | assumption | omega); (case cd => first | assumption | omega); walk_at "M use";
  intro r9 ne9 h9 k9 F9 N9 hr9; obtain ⟨t9, rfl, rfl⟩ := hr9; (try dsimp only)))
--END

section
open PyProof.Rows.LCg
namespace Mine
theorem c_drawP (pre : List (Addr × Obj)) (sp np : Addr) (at_ seed many : Int) (vs : Array Value) (ta ts tm : Tok) (rest : List (Addr × Obj)) (hS : Sts sp np vs rest) (hx : ∀ p ∈ pre, p.1 ≠ sp)
   (hat : 0 ≤ at_) (hs1 : 0 ≤ seed) (hs2 : seed < 7877) (hm1 : 1 ≤ many) (hm2 : many ≤ 1000) :
   Ctr 139 [.ref sp, .int many tm] 4 (pre ++ (sp, stO at_ ta np seed ts) :: rest)
     (fun r ne => ∃ k tk at' seed' ta' ts', r = .int k tk ∧ 0 ≤ k ∧ k < many ∧ 0 ≤ at' ∧ 0 ≤ seed' ∧ seed' < 7877 ∧ ne = pre ++ (sp, stO at' ta' np seed' ts') :: rest) (fun _ => False) := by
  refine (c_draw sp np at_ seed many vs ta ts tm (pre ++ rest) ⟨fun p hp => (List.mem_append.mp hp).elim (hx p) (hS.ne p), hS.mem.imp fun _ h => List.mem_append_right _ h, hS.are, hS.sz⟩ hat hs1 hs2 hm1 hm2).view (fun p hp => by
    simp only [List.mem_cons, List.mem_append] at hp ⊢
    rcases hp with h | h | h
    · exact Or.inr (Or.inl h)
    · exact Or.inl h
    · exact Or.inr (Or.inr h)) fun r ne q => ?_
  obtain ⟨k, tk, a', s', ta', ts', h1, h2, h3, h4, h5, h6, h7⟩ := q
  refine ⟨_, fun p hp => ?_, k, tk, a', s', ta', ts', h1, h2, h3, h4, h5, h6, rfl⟩
  rw [h7]
  simp only [List.mem_cons, List.mem_append] at hp ⊢
  rcases hp with h | h | h
  · exact Or.inr (Or.inl h)
  · exact Or.inl h
  · exact Or.inr (Or.inr h)
section
variable {prog : Program} {w : World} {A : Around} {s : Shared} {h₀ : Heap} {L : Addr} {m : Str → Option Value} {env : Env}
/-- a comprehension by what holds between its turns -/
theorem comp_ind {elt : Expr} {x : Str} {scope : Scope} {cl : List (Str × Addr)} {S : List (Addr × Obj) → Prop} {P : Nat → Value → Prop} {Fin : List Value → List (Addr × Obj) → Prop}
    (Inv : Nat → List Value → List (Addr × Obj) → Prop) (n : Nat) (hFin : ∀ ys news, Inv n ys news → Fin ys news)
    (step : ∀ i ys news, i < n → Inv i ys news → ∀ v I oI C oC D m₂ h tk (E' : Value → Shared → Prop), P i v → NsObj oC m₂ → m₂ x = some v → Fr h₀ L h m → News h₀ L h ((I, oI) :: (C, oC) :: (D, lst ys) :: news) → Off3 I C D news → ((@Ne Nat I C) ∧ (@Ne Nat I D) ∧ (@Ne Nat C D)) →
      wpAny (model prog w) A (eval elt (compEnvC scope cl C env)) (CompEnd h₀ L m { s with heap := h, toks := tk } I oI C oC D (lst ys) S (fun y news' => Inv (i + 1) (ys ++ [y]) news')) E' { s with heap := h, toks := tk }) :
    ∀ (k i : Nat) (ys : List Value) (news : List (Addr × Obj)), i + k = n → Inv i ys news → CompRest prog w A h₀ L m env elt x scope cl s S P Fin k i ys news
  | 0, i, ys, news, hi, hI => CompRest.zero (hFin ys news (by have : i = n := by omega
                                                              exact this ▸ hI))
  | k + 1, i, ys, news, hi, hI => CompRest.succ fun v I oI C oC D m₂ h tk E' h1 h2 h3 h4 h5 h6 h7 =>
    wpAny_mono (step i ys news (by omega) hI v I oI C oC D m₂ h tk E' h1 h2 h3 h4 h5 h6 h7) (fun y s₂ ⟨h', tk', news', e, F', N', off, hS, r⟩ =>
      ⟨h', tk', news', e, F', N', off, hS, comp_ind Inv n hFin step k (i + 1) (ys ++ [y]) news' (by omega) r⟩) fun _ _ q => q
end
end Mine
namespace Mine
theorem ls_one (c : Nat) : ls (⟨#[c]⟩ : Str) = [c] := rfl
theorem flat_one (ds : List Nat) : ((ds.map (fun d => (⟨#[dg d]⟩ : Str))).map ls).flatten = ds.map dg := by
  induction ds with
  | nil => rfl
  | cons d r ih => rw [List.map_cons, List.map_cons, List.flatten_cons, ih]; rfl
theorem dg_ok (d : Nat) (h : d < 16) : dg d < 128 ∧ dg d ≠ 0 := by unfold dg; split <;> omega
theorem sum_ones (ds : List Nat) : ∀ n, (ds.map (fun d => (⟨#[dg d]⟩ : Str))).foldl (fun (a : Nat) (y : Str) => a + y.length + (Str.ofString "").length) n = n + ds.length := by
  induction ds with
  | nil => intro n; rfl
  | cons d r ih => intro n; rw [List.map_cons, List.foldl_cons, ih]; show n + 1 + 0 + _ = _; rw [List.length_cons]; omega
theorem join_ok {ds : List Nat} (h : ds.length ≤ 10) : JoinOk (Str.ofString "") (ds.map (fun d => (⟨#[dg d]⟩ : Str))) = true := by
  unfold JoinOk Builtin.Str.tooLong
  rw [List.foldl_toArray, sum_ones, Bool.not_eq_true']
  exact decide_eq_false (by rw [sizeLine_eq]; omega)
theorem tl_join {ds : List Nat} (h : ds.length ≤ 10) (hd : ∀ d ∈ ds, d < 16) : Tl 10 (Txt.join (Str.ofString "") (ds.map (fun d => (⟨#[dg d]⟩ : Str)))) (ds.map dg) :=
  ⟨by show ls (Builtin.Str.glued _ _) = _; rw [StrLaws.glued_eq_join]; exact (ls_join0 _).trans (flat_one ds), fun c hc => by
    obtain ⟨d, hd', rfl⟩ := List.mem_map.mp hc
    exact dg_ok d (hd d hd'), by rw [List.length_map]; exact h⟩
section
variable {prog : Program} {w : World} {A : Around} {E : Value → Shared → Prop} {s : Shared} {Q : Value → Shared → Prop}
theorem item_dg {k : Int} (h1 : 0 ≤ k) (h2 : k < 16) : Txt.item (Str.ofString "0123456789abcdef") k = ⟨#[dg k.toNat]⟩ := by
  have c : ∀ n : Nat, n < 16 → Txt.item (Str.ofString "0123456789abcdef") ((n : Nat) : Int) = ⟨#[dg n]⟩ := by decide
  obtain ⟨n, rfl⟩ := Int.eq_ofNat_of_zero_le h1
  exact c n (by omega)
theorem t_join0 {D : Addr} {l : List (Str × Tok)} {ds : List Nat} {t : Tok} (hl : s.heap.IsList D (strValues l).toArray) (ht : l.map (·.1) = ds.map (fun d => (⟨#[dg d]⟩ : Str))) (h10 : ds.length ≤ 10) (hd : ∀ d ∈ ds, d < 16)
    (hq : ∀ x t' k, Tl 10 x (ds.map dg) → Q (.str x t') { s with toks := k }) : wpAny (model prog w) A (call (.builtin "str.join") [.str (Str.ofString "") t, .ref D]) Q E s :=
  SC.join hl ht (join_ok h10) fun t' k => hq _ t' k (tl_join h10 hd)
end
end Mine
set_option hygiene false in
local macro_rules | `(tactic| walk_at "call ref") => `(tactic| (
  k_here; (with_reducible show wpAny _ _ (call (Value.ref 139) _) _ _ _);
  (refine' Ctr.use (c_drawP [_, _, _, _, _] _ _ _ _ _ _ _ _ _ _ hS hpre q1 q2 q3 hb1 ?c4) ?cB ?cF ?cX ?cN ?cT ?cK ?cD ?cU (fun _ _ _ _ _ h => h.elim) ?_);
  (case cN => k_dflt assumption); (case c4 => omega);
  (case cB => k_asm); (case cF => k_asm); (case cX => k_asm); (case cT => k_asm); (case cK => first | exact rfl | assumption);
  (case cD => first | (dsimp only [Around.deeper]; omega) | ktr_room); (case cU => first | (dsimp only [Around.deeper]; omega) | ktr_units);
  intro r9 ne9 h9 k9 F9 N9 hr9; obtain ⟨k9, tk9, a9, s9, ta9, ts9, rfl, u9, v9, w9, x9, y9, rfl⟩ := hr9; (try simp only [List.cons_append, List.nil_append] at N9); (try dsimp only)))
set_option hygiene false in
local macro_rules | `(tactic| walk_at "call builtin:str.join") => `(tactic| (k_here; k_dflt (refine t_join0 (News.isList (by assumption) (.head _)) hl (by omega) (fun d hd => by have := hdb d hd; omega) ?_); intro x9 t9 k9 hx9; (try dsimp only)))
local macro_rules | `(tactic| walk_at "CompSrc") => `(tactic| (k_here; k_dflt (refine CompSrc.range rfl (by assumption) (by assumption) (by assumption) (range_small (by omega) (by omega)) (range_n (by omega)) (by rw [sizeLine_eq]; omega) (fun g => ?_))))
namespace Mine
set_option maxHeartbeats 40000000 in
theorem c_digits (sp np : Addr) (at_ seed b many : Int) (vs : Array Value) (ta ts tb tm : Tok) (rest : List (Addr × Obj)) (hS : Sts sp np vs rest)
   (hat : 0 ≤ at_) (hs1 : 0 ≤ seed) (hs2 : seed < 7877) (hb1 : 1 ≤ b) (hb2 : b ≤ 16) (hm1 : 0 ≤ many) (hm2 : many ≤ 10) :
   Ctr 151 [.ref sp, .int b tb, .int many tm] 8 ((sp, stO at_ ta np seed ts) :: rest)
     (fun r ne => ∃ x tx, ∃ ds : List Nat, ∃ at' seed' ta' ts', r = .str x tx ∧ ds.length = many.toNat ∧ (∀ d ∈ ds, (d : Int) < b) ∧ Tl 10 x (ds.map dg) ∧ 0 ≤ at' ∧ 0 ≤ seed' ∧ seed' < 7877 ∧ ne = (sp, stO at' ta' np seed' ts') :: rest) (fun _ => False) := by
  unfold Ctr
  k_fill
  intro w mean mg mb dp un gd cn cs a ccd cl outer A₀ base h₀ L m s Q E B F X N T hk hd hu hret hexc
  refine wpAny_call ?_
  k_dflt (refine' code_defC ?k1 ?k2 ?k3 ?k4 ?k5 ?kA ?kF ?kK ?k6 ?k7 ?k8 ?k9 ?kB ?kn ?_ ?c2 ?c3 ?c4)
  (case kA => exact rfl); (case kF => exact rfl); (case kK => assumption); (case k1 => k_asm); (case k2 => k_asm); (case k3 => k_asm); (case k4 => k_asm); (case k5 => k_asm); (case k6 => k_dflt k_is); (case k7 => k_dflt k_is); (case k8 => ktr_room)
  (case k9 => k_dflt (first | exact BindsTo.of_eq rfl | exact binds_K (by k_in) rfl (by k_is) rfl rfl rfl))
  (case kB => k_dflt (exact rfl)); (case kn => k_dflt decide); (case c2 => exact rfl); (case c3 => exact rfl); (case c4 => exact rfl)
  intro g' L' h' tk' cells' FG' F' N' Y' B' X' T' l1
  (try k_lt l1)
  k_cells Y'
  rename_i oB oA dB dA
  (try simp only [List.cons_append, List.nil_append] at N')
  (try dsimp only)
  (try k_lift B')
  (try k_fold)
  k_steps
  refine comp_ind (fun i ys news => ∃ (l : List (Str × Tok)) (ds : List Nat), ∃ at' seed' ta' ts', ys = strValues l ∧ l.map (·.1) = ds.map (fun d => (⟨#[dg d]⟩ : Str)) ∧ ds.length = i ∧ (∀ d ∈ ds, (d : Int) < b) ∧ 0 ≤ at' ∧ 0 ≤ seed' ∧ seed' < 7877 ∧ news = (L' + 1 + 1, oB) :: (L' + 1, oA) :: (sp, stO at' ta' np seed' ts') :: rest) many.toNat ?fin ?step many.toNat 0 [] _ (Nat.zero_add _) ⟨[], [], _, _, _, _, rfl, rfl, rfl, fun _ h => (nomatch h), hat, hs1, hs2, rfl⟩
  case step =>
    intro i ys news hi hI v I oI C oC D m₂ h tk E' hv hC hx F1 N1 off ne
    obtain ⟨l, ds, at', seed', ta', ts', rfl, hl, hds, hdb, q1, q2, q3, rfl⟩ := hI
    simp only [Off3, and_true] at off
    have hpre : ∀ p ∈ [(I, oI), (C, oC), (D, lst (strValues l)), (L' + 1 + 1, oB), (L' + 1, oA)], p.1 ≠ sp := by
      have z1 := l1.1
      intro p hp
      simp only [List.mem_cons, List.not_mem_nil, or_false] at hp
      rcases hp with rfl | rfl | rfl | rfl | rfl
      · exact fun e => off.2.2.1.1 e.symm
      · exact fun e => off.2.2.1.2.1 e.symm
      · exact fun e => off.2.2.1.2.2 e.symm
      · exact Nat.ne_of_gt (Nat.lt_succ_of_lt (Nat.lt_succ_of_lt z1))
      · exact Nat.ne_of_gt (Nat.lt_succ_of_lt z1)
    k_steps
    refine CompEnd.intro (by assumption) N9 _ (fun p hp => hp) ?off ?src ?r
    case off => exact off
    case src => lcg_src
    case r => exact ⟨l ++ [(⟨#[dg k9.toNat]⟩, _)], ds ++ [k9.toNat], _, _, _, _, (by rw [item_dg (by assumption) (by omega)]; simp only [strValues, List.map_append]; rfl), (by rw [List.map_append, List.map_append, hl]; rfl), (by rw [List.length_append, hds]; rfl), (fun d hd => (List.mem_append.mp hd).elim (hdb d) (fun h => by rw [List.mem_singleton.mp h]; omega)), by assumption, by assumption, by assumption, rfl⟩
  case fin =>
    intro ys news hI
    obtain ⟨l, ds, at', seed', ta', ts', rfl, hl, hds, hdb, q1, q2, q3, rfl⟩ := hI
    k_steps
    rename News _ _ _ (_ :: (_, oB) :: _) => N3
    refine hret _ _ _ _ (by with_reducible assumption) (fun p hp => N3 p (List.mem_cons_of_mem _ (List.mem_cons_of_mem _ (List.mem_cons_of_mem _ hp)))) ?_
    exact ⟨_, _, ds, _, _, _, _, rfl, hds, hdb, by assumption, q1, q2, q3, rfl⟩
end Mine
end
--CON
set_option hygiene false in
local macro_rules | `(tactic| walk_at "call ref") => `(tactic| (
  k_here; (with_reducible show wpAny _ _ (call (Value.ref 151) _) _ _ _);
  (refine' Ctr.use (c_digits _ _ _ _ _ _ _ _ _ _ _ _ ?cs ?ca ?c1 ?c2 ?c3 ?c4 ?c5 ?c6) ?cB ?cF ?cX ?cN ?cT ?cK ?cD ?cU (fun _ _ _ _ _ h => h.elim) ?_);
  (case cN => with_reducible assumption); (case cs => assumption); (case ca => first | assumption | omega); (case c1 => assumption); (case c2 => assumption); (case c3 => first | assumption | omega); (case c4 => first | assumption | omega); (case c5 => first | assumption | omega); (case c6 => first | assumption | omega);
  (case cB => k_asm); (case cF => k_asm); (case cX => k_asm); (case cT => k_asm); (case cK => first | exact rfl | assumption);
  (case cD => first | (dsimp only [Around.deeper]; omega) | ktr_room); (case cU => first | (dsimp only [Around.deeper]; omega) | ktr_units);
  intro r9 ne9 h9 k9 F9 N9 hr9; obtain ⟨x9, tx9, ds9, a9, s9, ta9, ts9, rfl, hn9, hb9, hx9, v9, w9, y9, rfl⟩ := hr9; (try dsimp only)))
--END

section
namespace Mine
theorem hd__law_digits : (Str.ofString "_law_digits" == ("__debug__" : Str)) = false := by decide +kernel
theorem hd__law_draw : (Str.ofString "_law_draw" == ("__debug__" : Str)) = false := by decide +kernel
theorem hd__law_power : (Str.ofString "_law_power" == ("__debug__" : Str)) = false := by decide +kernel
theorem hd__law_value : (Str.ofString "_law_value" == ("__debug__" : Str)) = false := by decide +kernel
theorem hd_ahead : (Str.ofString "ahead" == ("__debug__" : Str)) = false := by decide +kernel
theorem hd_behind : (Str.ofString "behind" == ("__debug__" : Str)) = false := by decide +kernel
theorem gl__law_digits (P : Params) : nsIn (Mine.hd.heap_39 P) mainGlobals (Str.ofString "_law_digits") = some (some (.ref 151)) := by kernel_rfl!
theorem gl__law_draw (P : Params) : nsIn (Mine.hd.heap_39 P) mainGlobals (Str.ofString "_law_draw") = some (some (.ref 139)) := by kernel_rfl!
theorem gl__law_value (P : Params) : nsIn (Mine.hd.heap_39 P) mainGlobals (Str.ofString "_law_value") = some (some (.ref 158)) := by kernel_rfl!
theorem gl__law_power (P : Params) : nsIn (Mine.hd.heap_39 P) mainGlobals (Str.ofString "_law_power") = some (some (.ref 165)) := by kernel_rfl!
abbrev sc_zlaw_pointed : Scope := { kind := .function, names := [(Str.ofString "state", .local), (Str.ofString "base", .local), (Str.ofString "ahead", .local), (Str.ofString "behind", .local), (Str.ofString "text", .local), (Str.ofString "_law_digits", .globalImplicit), (Str.ofString "_law_draw", .globalImplicit), (Str.ofString "_law_value", .globalImplicit), (Str.ofString "_law_power", .globalImplicit), (Str.ofString "len", .globalImplicit)], isGenerator := false, isCoroutine := false, more := [] }
theorem kl_zlaw_pointed_state {cn : Str} {L a : Addr} {cd : Value} : (envOf cn sc_zlaw_pointed L a cd).kindOf (Str.ofString "state") = some .local := by kernel_rfl!
theorem kl_zlaw_pointed_base {cn : Str} {L a : Addr} {cd : Value} : (envOf cn sc_zlaw_pointed L a cd).kindOf (Str.ofString "base") = some .local := by kernel_rfl!
theorem kl_zlaw_pointed_ahead {cn : Str} {L a : Addr} {cd : Value} : (envOf cn sc_zlaw_pointed L a cd).kindOf (Str.ofString "ahead") = some .local := by kernel_rfl!
theorem kl_zlaw_pointed_behind {cn : Str} {L a : Addr} {cd : Value} : (envOf cn sc_zlaw_pointed L a cd).kindOf (Str.ofString "behind") = some .local := by kernel_rfl!
theorem kl_zlaw_pointed_text {cn : Str} {L a : Addr} {cd : Value} : (envOf cn sc_zlaw_pointed L a cd).kindOf (Str.ofString "text") = some .local := by kernel_rfl!
theorem kl_zlaw_pointed__law_digits {cn : Str} {L a : Addr} {cd : Value} : (envOf cn sc_zlaw_pointed L a cd).kindOf (Str.ofString "_law_digits") = some .globalImplicit := by kernel_rfl!
theorem kl_zlaw_pointed__law_draw {cn : Str} {L a : Addr} {cd : Value} : (envOf cn sc_zlaw_pointed L a cd).kindOf (Str.ofString "_law_draw") = some .globalImplicit := by kernel_rfl!
theorem kl_zlaw_pointed__law_value {cn : Str} {L a : Addr} {cd : Value} : (envOf cn sc_zlaw_pointed L a cd).kindOf (Str.ofString "_law_value") = some .globalImplicit := by kernel_rfl!
theorem kl_zlaw_pointed__law_power {cn : Str} {L a : Addr} {cd : Value} : (envOf cn sc_zlaw_pointed L a cd).kindOf (Str.ofString "_law_power") = some .globalImplicit := by kernel_rfl!
theorem kl_zlaw_pointed_len {cn : Str} {L a : Addr} {cd : Value} : (envOf cn sc_zlaw_pointed L a cd).kindOf (Str.ofString "len") = some .globalImplicit := by kernel_rfl!
def nm_zlaw_pointed : List Str := [Str.ofString "state", Str.ofString "base", Str.ofString "text", Str.ofString "ahead", Str.ofString "behind"]
theorem ix_zlaw_pointed_state : nm_zlaw_pointed.idxOf (Str.ofString "state") = 0 := by decide +kernel
theorem ix_zlaw_pointed_base : nm_zlaw_pointed.idxOf (Str.ofString "base") = 1 := by decide +kernel
theorem ix_zlaw_pointed_text : nm_zlaw_pointed.idxOf (Str.ofString "text") = 2 := by decide +kernel
theorem ix_zlaw_pointed_ahead : nm_zlaw_pointed.idxOf (Str.ofString "ahead") = 3 := by decide +kernel
theorem ix_zlaw_pointed_behind : nm_zlaw_pointed.idxOf (Str.ofString "behind") = 4 := by decide +kernel
theorem nd_zlaw_pointed : ([Str.ofString "state", Str.ofString "base"] : List Str).Nodup := by decide +kernel
section
variable {M : Model} {A : Around} {E : Value → Shared → Prop} {s : Shared} {cn : Str} {L a : Addr} {cd : Value} {h₀ : Heap} {news : List (Addr × Obj)} {v : Value} {pos : Pos} {o0 o1 o2 o3 o4 : Option Value}
theorem base_zlaw_pointed {h : Heap} {v0 v1 : Value} (F : Fr h₀ L h (fun y => List.lookup y (List.zip [Str.ofString "state", Str.ofString "base"] [v0, v1]).reverse)) : Fr h₀ L h (fm nm_zlaw_pointed [some v0, some v1, none, none, none]) := by
  rw [fm_base (ns₂ := [Str.ofString "text", Str.ofString "ahead", Str.ofString "behind"]) (k := 3) nd_zlaw_pointed rfl] at F
  exact F
theorem ld_zlaw_pointed_state {Q : Value → Shared → Prop} (F : Fr h₀ L s.heap (fm nm_zlaw_pointed [some v, o1, o2, o3, o4])) (h : Q v s) : wpAny M A (eval (.Name (Str.ofString "state") pos) (envOf cn sc_zlaw_pointed L a cd)) Q E s := ld F ((fm_get ix_zlaw_pointed_state).trans rfl) h rfl kl_zlaw_pointed_state hd_state
theorem ldn_zlaw_pointed_state {Q : Value → Shared → Prop} (F : Fr h₀ L s.heap (fm nm_zlaw_pointed [some v, o1, o2, o3, o4])) (h : Q v s) : wpAny M A (loadName (envOf cn sc_zlaw_pointed L a cd) (Str.ofString "state")) Q E s := ldn F ((fm_get ix_zlaw_pointed_state).trans rfl) h rfl kl_zlaw_pointed_state
theorem st_zlaw_pointed_state {Q : Unit → Shared → Prop} (F : Fr h₀ L s.heap (fm nm_zlaw_pointed [o0, o1, o2, o3, o4])) (N : News h₀ L s.heap news) (h : ∀ h' k', Fr h₀ L h' (fm nm_zlaw_pointed [some v, o1, o2, o3, o4]) → News h₀ L h' news → Q () { s with heap := h', toks := k' }) : wpAny M A (storeName (envOf cn sc_zlaw_pointed L a cd) (Str.ofString "state") v) Q E s := r_st F N (fun h' k' F' N' => h h' k' (by rw [fm_set ix_zlaw_pointed_state (by decide) rfl] at F'; exact F') N') rfl kl_zlaw_pointed_state
theorem ld_zlaw_pointed_base {Q : Value → Shared → Prop} (F : Fr h₀ L s.heap (fm nm_zlaw_pointed [o0, some v, o2, o3, o4])) (h : Q v s) : wpAny M A (eval (.Name (Str.ofString "base") pos) (envOf cn sc_zlaw_pointed L a cd)) Q E s := ld F ((fm_get ix_zlaw_pointed_base).trans rfl) h rfl kl_zlaw_pointed_base hd_base
theorem ldn_zlaw_pointed_base {Q : Value → Shared → Prop} (F : Fr h₀ L s.heap (fm nm_zlaw_pointed [o0, some v, o2, o3, o4])) (h : Q v s) : wpAny M A (loadName (envOf cn sc_zlaw_pointed L a cd) (Str.ofString "base")) Q E s := ldn F ((fm_get ix_zlaw_pointed_base).trans rfl) h rfl kl_zlaw_pointed_base
theorem st_zlaw_pointed_base {Q : Unit → Shared → Prop} (F : Fr h₀ L s.heap (fm nm_zlaw_pointed [o0, o1, o2, o3, o4])) (N : News h₀ L s.heap news) (h : ∀ h' k', Fr h₀ L h' (fm nm_zlaw_pointed [o0, some v, o2, o3, o4]) → News h₀ L h' news → Q () { s with heap := h', toks := k' }) : wpAny M A (storeName (envOf cn sc_zlaw_pointed L a cd) (Str.ofString "base") v) Q E s := r_st F N (fun h' k' F' N' => h h' k' (by rw [fm_set ix_zlaw_pointed_base (by decide) rfl] at F'; exact F') N') rfl kl_zlaw_pointed_base
theorem ld_zlaw_pointed_text {Q : Value → Shared → Prop} (F : Fr h₀ L s.heap (fm nm_zlaw_pointed [o0, o1, some v, o3, o4])) (h : Q v s) : wpAny M A (eval (.Name (Str.ofString "text") pos) (envOf cn sc_zlaw_pointed L a cd)) Q E s := ld F ((fm_get ix_zlaw_pointed_text).trans rfl) h rfl kl_zlaw_pointed_text hd_text
theorem ldn_zlaw_pointed_text {Q : Value → Shared → Prop} (F : Fr h₀ L s.heap (fm nm_zlaw_pointed [o0, o1, some v, o3, o4])) (h : Q v s) : wpAny M A (loadName (envOf cn sc_zlaw_pointed L a cd) (Str.ofString "text")) Q E s := ldn F ((fm_get ix_zlaw_pointed_text).trans rfl) h rfl kl_zlaw_pointed_text
theorem st_zlaw_pointed_text {Q : Unit → Shared → Prop} (F : Fr h₀ L s.heap (fm nm_zlaw_pointed [o0, o1, o2, o3, o4])) (N : News h₀ L s.heap news) (h : ∀ h' k', Fr h₀ L h' (fm nm_zlaw_pointed [o0, o1, some v, o3, o4]) → News h₀ L h' news → Q () { s with heap := h', toks := k' }) : wpAny M A (storeName (envOf cn sc_zlaw_pointed L a cd) (Str.ofString "text") v) Q E s := r_st F N (fun h' k' F' N' => h h' k' (by rw [fm_set ix_zlaw_pointed_text (by decide) rfl] at F'; exact F') N') rfl kl_zlaw_pointed_text
theorem ld_zlaw_pointed_ahead {Q : Value → Shared → Prop} (F : Fr h₀ L s.heap (fm nm_zlaw_pointed [o0, o1, o2, some v, o4])) (h : Q v s) : wpAny M A (eval (.Name (Str.ofString "ahead") pos) (envOf cn sc_zlaw_pointed L a cd)) Q E s := ld F ((fm_get ix_zlaw_pointed_ahead).trans rfl) h rfl kl_zlaw_pointed_ahead hd_ahead
theorem ldn_zlaw_pointed_ahead {Q : Value → Shared → Prop} (F : Fr h₀ L s.heap (fm nm_zlaw_pointed [o0, o1, o2, some v, o4])) (h : Q v s) : wpAny M A (loadName (envOf cn sc_zlaw_pointed L a cd) (Str.ofString "ahead")) Q E s := ldn F ((fm_get ix_zlaw_pointed_ahead).trans rfl) h rfl kl_zlaw_pointed_ahead
theorem st_zlaw_pointed_ahead {Q : Unit → Shared → Prop} (F : Fr h₀ L s.heap (fm nm_zlaw_pointed [o0, o1, o2, o3, o4])) (N : News h₀ L s.heap news) (h : ∀ h' k', Fr h₀ L h' (fm nm_zlaw_pointed [o0, o1, o2, some v, o4]) → News h₀ L h' news → Q () { s with heap := h', toks := k' }) : wpAny M A (storeName (envOf cn sc_zlaw_pointed L a cd) (Str.ofString "ahead") v) Q E s := r_st F N (fun h' k' F' N' => h h' k' (by rw [fm_set ix_zlaw_pointed_ahead (by decide) rfl] at F'; exact F') N') rfl kl_zlaw_pointed_ahead
theorem ld_zlaw_pointed_behind {Q : Value → Shared → Prop} (F : Fr h₀ L s.heap (fm nm_zlaw_pointed [o0, o1, o2, o3, some v])) (h : Q v s) : wpAny M A (eval (.Name (Str.ofString "behind") pos) (envOf cn sc_zlaw_pointed L a cd)) Q E s := ld F ((fm_get ix_zlaw_pointed_behind).trans rfl) h rfl kl_zlaw_pointed_behind hd_behind
theorem ldn_zlaw_pointed_behind {Q : Value → Shared → Prop} (F : Fr h₀ L s.heap (fm nm_zlaw_pointed [o0, o1, o2, o3, some v])) (h : Q v s) : wpAny M A (loadName (envOf cn sc_zlaw_pointed L a cd) (Str.ofString "behind")) Q E s := ldn F ((fm_get ix_zlaw_pointed_behind).trans rfl) h rfl kl_zlaw_pointed_behind
theorem st_zlaw_pointed_behind {Q : Unit → Shared → Prop} (F : Fr h₀ L s.heap (fm nm_zlaw_pointed [o0, o1, o2, o3, o4])) (N : News h₀ L s.heap news) (h : ∀ h' k', Fr h₀ L h' (fm nm_zlaw_pointed [o0, o1, o2, o3, some v]) → News h₀ L h' news → Q () { s with heap := h', toks := k' }) : wpAny M A (storeName (envOf cn sc_zlaw_pointed L a cd) (Str.ofString "behind") v) Q E s := r_st F N (fun h' k' F' N' => h h' k' (by rw [fm_set ix_zlaw_pointed_behind (by decide) rfl] at F'; exact F') N') rfl kl_zlaw_pointed_behind
end
end Mine

local macro_rules | `(tactic| walk_at "eval Name") => `(tactic| (
  k_here; with_reducible (first
   | (refine' ld_zlaw_pointed_state ?hF9 ?_; (case hF9 => assumption))
   | (refine' ld_zlaw_pointed_base ?hF9 ?_; (case hF9 => assumption))
   | (refine' ld_zlaw_pointed_text ?hF9 ?_; (case hF9 => assumption))
   | (refine' ld_zlaw_pointed_ahead ?hF9 ?_; (case hF9 => assumption))
   | (refine' ld_zlaw_pointed_behind ?hF9 ?_; (case hF9 => assumption))
   | (refine' gname gl__law_digits hd__law_digits ?hF9 ?hX9 ?hT9 rfl kl_zlaw_pointed__law_digits ?_; (case hF9 => assumption); (case hX9 => assumption); (case hT9 => assumption))
   | (refine' gname gl__law_draw hd__law_draw ?hF9 ?hX9 ?hT9 rfl kl_zlaw_pointed__law_draw ?_; (case hF9 => assumption); (case hX9 => assumption); (case hT9 => assumption))
   | (refine' gname gl__law_value hd__law_value ?hF9 ?hX9 ?hT9 rfl kl_zlaw_pointed__law_value ?_; (case hF9 => assumption); (case hX9 => assumption); (case hT9 => assumption))
   | (refine' gname gl__law_power hd__law_power ?hF9 ?hX9 ?hT9 rfl kl_zlaw_pointed__law_power ?_; (case hF9 => assumption); (case hX9 => assumption); (case hT9 => assumption))
   | (refine' bname bl_len bv_len bn_len hd_len ?hF9 ?hX9 ?hT9 rfl kl_zlaw_pointed_len ?_; (case hF9 => assumption); (case hX9 => assumption); (case hT9 => assumption)))))
local macro_rules | `(tactic| walk_at "loadName") => `(tactic| (
  k_here; with_reducible (first
   | (refine' ldn_zlaw_pointed_state ?hF9 ?_; (case hF9 => assumption))
   | (refine' ldn_zlaw_pointed_base ?hF9 ?_; (case hF9 => assumption))
   | (refine' ldn_zlaw_pointed_text ?hF9 ?_; (case hF9 => assumption))
   | (refine' ldn_zlaw_pointed_ahead ?hF9 ?_; (case hF9 => assumption))
   | (refine' ldn_zlaw_pointed_behind ?hF9 ?_; (case hF9 => assumption)))))
local macro_rules | `(tactic| walk_at "storeName") => `(tactic| (
  k_here; with_reducible (first
   | (refine' st_zlaw_pointed_state ?hF9 ?hN9 ?_; (case hF9 => assumption); (case hN9 => assumption); intro _ _ _ _; (try dsimp only); (try k_sweep))
   | (refine' st_zlaw_pointed_base ?hF9 ?hN9 ?_; (case hF9 => assumption); (case hN9 => assumption); intro _ _ _ _; (try dsimp only); (try k_sweep))
   | (refine' st_zlaw_pointed_text ?hF9 ?hN9 ?_; (case hF9 => assumption); (case hN9 => assumption); intro _ _ _ _; (try dsimp only); (try k_sweep))
   | (refine' st_zlaw_pointed_ahead ?hF9 ?hN9 ?_; (case hF9 => assumption); (case hN9 => assumption); intro _ _ _ _; (try dsimp only); (try k_sweep))
   | (refine' st_zlaw_pointed_behind ?hF9 ?hN9 ?_; (case hF9 => assumption); (case hN9 => assumption); intro _ _ _ _; (try dsimp only); (try k_sweep)))))
set_option hygiene false in
local macro_rules | `(tactic| walk_at "M base") => `(tactic| (
  (rename Fr _ _ _ _ => F1);
  (replace F1 := base_zlaw_pointed F1)))

namespace Mine
theorem ne_of_news {h₀ h : Heap} {L D sp np : Addr} {o : Obj} {a b : Int} {ta tb : Tok} {news : List (Addr × Obj)} (N : News h₀ L h news) (h1 : (D, o) ∈ news) (h2 : (sp, stO a ta np b tb) ∈ news) (h3 : o.cls ≠ .type "list") : D ≠ sp := fun e => by
  have z1 := (N _ h1).1
  have z2 := (N _ h2).1
  dsimp only at z1 z2
  rw [e, z2] at z1
  exact h3 (by rw [← Option.some.inj z1])
theorem ne_pre1 {h₀ h : Heap} {L D sp np : Addr} {o : Obj} {a b : Int} {ta tb : Tok} {rest : List (Addr × Obj)} (N : News h₀ L h ((D, o) :: (sp, stO a ta np b tb) :: rest)) (h3 : o.cls ≠ .type "list") : ∀ p ∈ [(D, o)], p.1 ≠ sp := fun p hp => by
  rw [List.mem_singleton] at hp
  subst hp
  exact ne_of_news N (.head _) (.tail _ (.head _)) h3
theorem lit_d1 : Tl 1 (Str.ofString "1") ([1].map dg) := Tl.lit (Str.ofString "1") [49] rfl rfl
theorem lit_d0 : Tl 1 (Str.ofString "0") ([0].map dg) := Tl.lit (Str.ofString "0") [48] rfl rfl
theorem lit_dot : Tl 1 (Str.ofString ".") [46] := Tl.lit (Str.ofString ".") [46] rfl rfl
section
variable {prog : Program} {w : World} {A : Around} {E : Value → Shared → Prop} {s : Shared} {Q : Value → Shared → Prop} {n k : Nat} {x y : Str} {t u : Tok}
theorem t_addD {ds es : List Nat} (hx : Tl n x (ds.map dg)) (hy : Tl k y (es.map dg)) (hn : n + k ≤ 5000000) (h : ∀ v t' k', Tl (n + k) v ((ds ++ es).map dg) → Q (.str v t') { s with toks := k' }) : wpAny (model prog w) A (binaryOp .Add (.str x t) (.str y u)) Q E s :=
  t_add hx hy hn fun v t' k' q => h v t' k' (by rw [List.map_append]; exact q)
theorem t_lenD {ds : List Nat} (hx : Tl n x (ds.map dg)) (hn : n ≤ 5000000) (h : ∀ t' k', ds.length ≤ n → Q (.int (ds.length : Int) t') { s with toks := k' }) : wpAny (model prog w) A (call (.builtin "len") [.str x t]) Q E s :=
  t_len hx hn fun t' k' => by rw [List.length_map]; exact h t' k' (by have := hx.short; rwa [List.length_map] at this)
theorem t_eqD {ds : List Nat} (hx : Tl n x (ds.map dg)) (hy : y = ⟨#[]⟩) (h : Q (.bool (decide (ds = []))) s) : wpAny (model prog w) A (compareOp .Eq (.str x t) (.str y u)) Q E s :=
  t_eq_nil hx hy (by have e : decide (ds.map dg = []) = decide (ds = []) := by simp
                     rw [e]; exact h)
end
theorem pt_swap {h₀ h : Heap} {L : Addr} {p1 p2 p3 : Addr × Obj} {rest : List (Addr × Obj)} (N : News h₀ L h (p1 :: p2 :: p3 :: rest)) : News h₀ L h (p1 :: p3 :: rest) := fun p hp => N p (by
  rcases List.mem_cons.mp hp with e | hp
  · rw [e]; exact .head _
  · rcases List.mem_cons.mp hp with e | hp
    · rw [e]; exact .tail _ (.tail _ (.head _))
    · exact .tail _ (.tail _ (.tail _ hp)))
abbrev tupO (vs : Array Value) : Obj := { cls := .type "tuple", data := .seq vs }
/-- what _law_pointed answers -/
def PtRet (b : Int) (sp np : Addr) (rest : List (Addr × Obj)) (r : Value) (ne : List (Addr × Obj)) : Prop :=
  ∃ a x tx tv tu at' seed' ta' ts', ∃ ah bh : List Nat, ∃ dot : Bool, r = .ref a ∧ Tl 30 x (ah.map dg ++ (if dot then 46 :: bh.map dg else [])) ∧ (dot = false → bh = []) ∧ (∀ d ∈ ah, (d : Int) < b) ∧ (∀ d ∈ bh, (d : Int) < b) ∧ ah.length ≤ 6 ∧ bh.length ≤ 6 ∧ ah ++ bh ≠ [] ∧ (ah = [] → b = 10 ∧ hornI 10 bh ≠ 0) ∧
       a ≠ sp ∧ 0 ≤ at' ∧ 0 ≤ seed' ∧ seed' < 7877 ∧ ne = (a, tupO #[.str x tx, .int (hornI b (ah ++ bh)) tv, .int (b ^ bh.length) tu]) :: (sp, stO at' ta' np seed' ts') :: rest
section
variable {n : Nat} {b : Int} {sp np a : Addr} {rest : List (Addr × Obj)} {x : Str} {tx tv tu ta ts : Tok} {V at_ seed : Int} {ah bh : List Nat}
theorem pt_dot (hx : Tl n x (ah.map dg ++ [46] ++ bh.map dg)) (hn : n ≤ 30) (hV : V = hornI b (ah ++ bh)) (ha : ∀ d ∈ ah, (d : Int) < b) (hb : ∀ d ∈ bh, (d : Int) < b) (l1 : ah.length ≤ 6) (l2 : bh.length ≤ 6) (hne : ah ++ bh ≠ []) (h0 : ah = [] → b = 10 ∧ hornI 10 bh ≠ 0)
    (hs : a ≠ sp) (q1 : 0 ≤ at_) (q2 : 0 ≤ seed) (q3 : seed < 7877) : PtRet b sp np rest (.ref a) ((a, tupO #[.str x tx, .int V tv, .int (b ^ ((bh.length : Nat) : Int).toNat) tu]) :: (sp, stO at_ ta np seed ts) :: rest) :=
  ⟨a, x, tx, tv, tu, at_, seed, ta, ts, ah, bh, true, rfl, by rw [if_pos rfl]; rw [List.append_assoc] at hx; exact hx.mono hn, (fun h => by cases h), ha, hb, l1, l2, hne, h0, hs, q1, q2, q3, by rw [hV, Int.toNat_natCast]⟩
theorem pt_one (hx : Tl n x (ah.map dg)) (hn : n ≤ 30) (hV : V = hornI b (ah ++ bh)) (hbh : bh = []) (ha : ∀ d ∈ ah, (d : Int) < b) (l1 : ah.length ≤ 6) (hne : ah ++ bh ≠ []) (h0 : ah = [] → b = 10 ∧ hornI 10 bh ≠ 0)
    (hs : a ≠ sp) (q1 : 0 ≤ at_) (q2 : 0 ≤ seed) (q3 : seed < 7877) : PtRet b sp np rest (.ref a) ((a, tupO #[.str x tx, .int V tv, .int (b ^ ((bh.length : Nat) : Int).toNat) tu]) :: (sp, stO at_ ta np seed ts) :: rest) :=
  ⟨a, x, tx, tv, tu, at_, seed, ta, ts, ah, bh, false, rfl, by rw [if_neg (by decide), List.append_nil]; exact hx.mono hn, (fun _ => hbh), ha, (by rw [hbh]; intro d hd; cases hd), l1, (by rw [hbh]; exact Nat.zero_le _), hne, h0, hs, q1, q2, q3, by rw [hV, Int.toNat_natCast]⟩
theorem t_eq_d1 {prog : Program} {w : World} {A : Around} {E : Value → Shared → Prop} {s : Shared} {Q : Value → Shared → Prop} {t u : Tok} (h : Q (.bool false) s) : wpAny (model prog w) A (compareOp .Eq (.str (Str.ofString "1") t) (.str (Str.ofString "") u)) Q E s :=
  t_eqD lit_d1 rfl h
end
theorem lt16 {b : Int} {ds : List Nat} (h : ∀ d ∈ ds, (d : Int) < b) (hb : b ≤ 16) : ∀ d ∈ ds, d < 16 := fun d hd => by have := h d hd; omega
theorem lt16_app {ds es : List Nat} (h1 : ∀ d ∈ ds, d < 16) (h2 : ∀ d ∈ es, d < 16) : ∀ d ∈ ds ++ es, d < 16 := fun d hd => (List.mem_append.mp hd).elim (h1 d) (h2 d)
theorem ltb_app {b : Int} {ds es : List Nat} (h1 : ∀ d ∈ ds, (d : Int) < b) (h2 : ∀ d ∈ es, (d : Int) < b) : ∀ d ∈ ds ++ es, (d : Int) < b := fun d hd => (List.mem_append.mp hd).elim (h1 d) (h2 d)
theorem ltb_one {b : Int} (hb : 2 ≤ b) : ∀ d ∈ [1], ((d : Nat) : Int) < b := fun d hd => by rw [List.mem_singleton.mp hd]; omega
theorem ltb_zero {b : Int} (hb : 2 ≤ b) : ∀ d ∈ [0], ((d : Nat) : Int) < b := fun d hd => by rw [List.mem_singleton.mp hd]; omega
end Mine
local macro_rules | `(tactic| walk_at "binaryOp Add str str") => `(tactic| (k_here; (first | refine t_addD (by assumption) (by assumption) (by decide) ?_ | refine t_addD lit_d1 (by assumption) (by decide) ?_ | refine t_addD lit_d0 (by assumption) (by decide) ?_ | refine t_add (by assumption) lit_dot (by decide) ?_ | refine t_add lit_d1 lit_dot (by decide) ?_ | refine t_add lit_d0 lit_dot (by decide) ?_ | refine t_add (by assumption) (by assumption) (by decide) ?_); intro _ _ _ _; (try dsimp only)))
local macro_rules | `(tactic| walk_at "compareOp Eq str str") => `(tactic| (k_here; (first | refine t_eq_d1 ?_ | refine t_eqD (by assumption) rfl ?_); (try dsimp only)))
local macro_rules | `(tactic| walk_at "call builtin:len") => `(tactic| (k_here; (refine t_lenD (by assumption) (by decide) ?_); intro _ _ _; (try dsimp only)))
set_option hygiene false in
local macro_rules | `(tactic| walk_at "call ref") => `(tactic| (
  k_here; (with_reducible show wpAny _ _ (call (Value.ref 139) _) _ _ _);
  (refine' Ctr.use (c_drawP [_] _ _ _ _ _ _ _ _ _ _ hS ?hx ?ca ?c1 ?c2 ?c3 ?c4) ?cB ?cF ?cX ?cN ?cT ?cK ?cD ?cU (fun _ _ _ _ _ h => h.elim) ?_);
  (case cN => k_dflt assumption); (case hx => exact ne_pre1 (by with_reducible assumption) (fun h => absurd (Value.type.inj h) (by decide))); (case ca => first | assumption | omega); (case c1 => assumption); (case c2 => assumption); (case c3 => first | assumption | omega); (case c4 => first | assumption | omega);
  (case cB => k_asm); (case cF => k_asm); (case cX => k_asm); (case cT => k_asm); (case cK => first | exact rfl | assumption);
  (case cD => first | (dsimp only [Around.deeper]; omega) | ktr_room); (case cU => first | (dsimp only [Around.deeper]; omega) | ktr_units);
  intro r9 ne9 h9 k9 F9 N9 hr9; obtain ⟨k9, tk9, a9, s9, ta9, ts9, rfl, u9, v9, w9, x9, y9, rfl⟩ := hr9; (try simp only [List.cons_append, List.nil_append] at N9); (try dsimp only)))
set_option hygiene false in
local macro_rules | `(tactic| walk_at "call ref") => `(tactic| (
  k_here; (with_reducible show wpAny _ _ (call (Value.ref 158) _) _ _ _);
  (refine' Ctr.use (c_value _ _ _ _ _ _ _ ?ca ?cb ?cc ?cd) ?cB ?cF ?cX ?cN ?cT ?cK ?cD ?cU (fun _ _ _ _ _ h => h.elim) ?_);
  (case ca => assumption); (case cb => first | exact lt16 (by assumption) (by assumption) | exact lt16_app (lt16 (by assumption) (by assumption)) (lt16 (by assumption) (by assumption)) | exact lt16_app (by decide) (lt16 (by assumption) (by assumption))); (case cc => first | assumption | omega); (case cd => first | assumption | omega); walk_at "M use";
  intro r9 ne9 h9 k9 F9 N9 hr9; obtain ⟨t9, rfl, rfl⟩ := hr9; (try dsimp only)))
namespace Mine
set_option maxHeartbeats 40000000 in
theorem c_pointed (sp np : Addr) (at_ seed b : Int) (vs : Array Value) (ta ts tb : Tok) (rest : List (Addr × Obj)) (hS : Sts sp np vs rest)
   (hat : 0 ≤ at_) (hs1 : 0 ≤ seed) (hs2 : seed < 7877) (hb1 : 2 ≤ b) (hb2 : b ≤ 16) :
   Ctr 172 [.ref sp, .int b tb] 14 ((sp, stO at_ ta np seed ts) :: rest)
     (PtRet b sp np rest) (fun _ => False) := by
  walk_at "M enter"
  walk_at "M base"
  k_steps
  all_goals (rename News _ _ _ (_ :: _ :: (sp, _) :: rest) => N3)
  all_goals (have hne3 := ne_of_news N3 (.head _) (.tail _ (.tail _ (.head _))) (fun h => absurd (Value.type.inj h) (by decide)))
  all_goals (refine hret _ _ _ _ (by with_reducible assumption) (pt_swap N3) ?_)
  all_goals (first
    | refine' pt_dot (by assumption) (by decide) ?_ ?_ ?_ ?_ ?_ ?_ ?_ (by assumption) (by assumption) (by assumption) (by assumption)
    | refine' pt_one (by assumption) (by decide) ?_ ?_ ?_ ?_ ?_ ?_ (by assumption) (by assumption) (by assumption) (by assumption)
    | refine' pt_one lit_d1 (by decide) ?_ ?_ ?_ ?_ ?_ ?_ (by assumption) (by assumption) (by assumption) (by assumption)
    | refine' pt_one lit_d0 (by decide) ?_ ?_ ?_ ?_ ?_ ?_ (by assumption) (by assumption) (by assumption) (by assumption)
    | skip)
  all_goals (first | exact rfl | assumption | omega | exact ltb_one (by assumption) | exact ltb_zero (by assumption) | exact List.cons_ne_nil _ _ | (exact fun h => absurd h (by assumption)) | (exact fun h => absurd h (by decide)) | (exact fun _ => ⟨by assumption, by assumption⟩) | decide | fail)
end Mine
end
--CON
set_option hygiene false in
local macro_rules | `(tactic| walk_at "call ref") => `(tactic| (
  k_here; (with_reducible show wpAny _ _ (call (Value.ref 172) _) _ _ _);
  (refine' Ctr.use (c_pointed _ _ _ _ _ _ _ _ _ _ ?cs ?ca ?c1 ?c2 ?c3 ?c4) ?cB ?cF ?cX ?cN ?cT ?cK ?cD ?cU (fun _ _ _ _ _ h => h.elim) ?_);
  (case cN => walk_at "M drop"); (case cs => assumption); (case ca => first | assumption | omega); (case c1 => assumption); (case c2 => assumption); (case c3 => first | assumption | omega); (case c4 => first | assumption | omega);
  (case cB => k_asm); (case cF => k_asm); (case cX => k_asm); (case cT => k_asm); (case cK => first | exact rfl | assumption);
  (case cD => first | (dsimp only [Around.deeper]; omega) | ktr_room); (case cU => first | (dsimp only [Around.deeper]; omega) | ktr_units);
  intro r9 ne9 h9 k9 F9 N9 hr9; obtain ⟨p9, x9, tx9, tv9, tu9, a9, s9, ta9, ts9, ah9, bh9, dot9, rfl, hx9, z1, z2, z3, z4, z5, z6, z7, z8, v9, w9, y9, rfl⟩ := hr9; (try dsimp only)))
--END

namespace Mine
open PySem.NumText
/-! the plain law of texts: digits -/
def BaseP (b : Int) (p : List Nat) : Prop := (b = 10 ∧ p = []) ∨ (b = 2 ∧ p = [48, 98]) ∨ (b = 8 ∧ p = [48, 111]) ∨ (b = 16 ∧ p = [48, 120])
theorem digit_dg {d : Nat} (h : d < 16) : digit? (dg d) = some d := by
  have : ∀ d, d < 16 → digit? (dg d) = some d := by decide
  exact this d h
theorem dg_facts {d : Nat} (h : d < 16) : dg d ≠ 95 ∧ dg d ≠ 45 ∧ dg d ≠ 43 ∧ blank (dg d) = false ∧ dg d ≠ 46 ∧ dg d ≠ 47 ∧ dg d ≠ 108 ∧ dg d ≠ 64 ∧ dg d ≠ 112 ∧ (dg d = 48 ↔ d = 0) ∧ (dg d = 101 ↔ d = 14) := by
  have : ∀ d, d < 16 → dg d ≠ 95 ∧ dg d ≠ 45 ∧ dg d ≠ 43 ∧ blank (dg d) = false ∧ dg d ≠ 46 ∧ dg d ≠ 47 ∧ dg d ≠ 108 ∧ dg d ≠ 64 ∧ dg d ≠ 112 ∧ (dg d = 48 ↔ d = 0) ∧ (dg d = 101 ↔ d = 14) := by decide
  exact this d h
theorem fold_dg {b : Nat} (hb : b ≤ 16) : ∀ (ds : List Nat) (acc : Array Nat) (p : Bool), (∀ d ∈ ds, d < b) → (ds.map dg).foldlM (step b) (acc, p) = some (acc ++ ds.toArray, p || !ds.isEmpty)
  | [], acc, p, _ => by simp
  | d :: r, acc, p, h => by
    have hd := h d (List.mem_cons_self ..)
    have e : step b (acc, p) (dg d) = some (acc.push d, true) := by
      unfold NumText.step
      rw [if_neg (by have := (dg_facts (d := d) (by omega)).1; simpa using this), digit_dg (by omega)]
      dsimp only
      rw [if_pos hd]
    rw [List.map_cons, List.foldlM_cons, e]
    show (r.map dg).foldlM (step b) (acc.push d, true) = _
    rw [fold_dg hb r _ _ fun x hx => h x (List.mem_cons_of_mem _ hx)]
    simp
theorem digits_dg {b : Nat} (hb : b ≤ 16) {ds : List Nat} (h : ∀ d ∈ ds, d < b) (hne : ds ≠ []) : digits? b (ds.map dg) = some ds.toArray := by
  unfold digits?
  rw [fold_dg hb ds _ _ h]
  cases ds with
  | nil => exact absurd rfl hne
  | cons d r => simp
theorem fold_bad {b c : Nat} (h1 : c ≠ 95) (h2 : ∀ d, digit? c = some d → b ≤ d) : ∀ (cs : List Nat) (a : Array Nat × Bool), c ∈ cs → cs.foldlM (step b) a = none
  | [], _, h => absurd h (List.not_mem_nil)
  | x :: r, a, h => by
    rw [List.foldlM_cons]
    cases hs : step b a x with
    | none => rfl
    | some a' =>
      have hx : x ≠ c := fun e => by
        subst e
        unfold NumText.step at hs
        rw [if_neg (by simpa using h1)] at hs
        split at hs
        · rename_i d hd
          have := h2 d hd
          rw [if_neg (by omega)] at hs
          cases hs
        · cases hs
      exact fold_bad h1 h2 r a' ((List.mem_cons.mp h).resolve_left (fun e => hx e.symm))
theorem digits_bad {b c : Nat} {cs : List Nat} (h1 : c ≠ 95) (h2 : ∀ d, digit? c = some d → b ≤ d) (h : c ∈ cs) : digits? b cs = none := by
  unfold digits?
  rw [fold_bad h1 h2 cs _ h]
  rfl
theorem horn_nat (b : Nat) : ∀ (ds : List Nat) (a : Nat), ((ds.foldl (fun acc d => acc * b + d) a : Nat) : Int) = ds.foldl (fun (a : Int) (d : Nat) => a * (b : Int) + (d : Int)) (a : Int)
  | [], _ => rfl
  | d :: r, a => by
    rw [List.foldl_cons, List.foldl_cons, horn_nat b r]
    congr 1
theorem horn_is (b : Nat) (ds : List Nat) : ((ds.toArray.foldl (fun acc d => acc * b + d) 0 : Nat) : Int) = hornI (b : Int) ds := by
  unfold hornI
  rw [← Array.foldl_toList]
  exact horn_nat b ds 0
theorem strip_b {l : List Nat} (h : ∀ c ∈ l, blank c = false) : (l.reverse.dropWhile blank).reverse = l := by
  cases hr : l.reverse with
  | nil => simp at hr; subst hr; rfl
  | cons c r =>
    have hc : c ∈ l := by have : c ∈ l.reverse := by rw [hr]; exact List.mem_cons_self ..
                          simpa using this
    rw [List.dropWhile_cons_of_neg (by rw [h c hc]; decide), ← hr, List.reverse_reverse]
/-- the prefixes of the bases -/
theorem based_ok {b : Int} {pl : List Nat} (hb : BaseP b pl) {ds : List Nat} (hd : ∀ d ∈ ds, (d : Int) < b) (hne : ds ≠ []) : based b.toNat (pl ++ ds.map dg) = (b.toNat, false, ds.map dg) := by
  cases ds with
  | nil => exact absurd rfl hne
  | cons d r =>
    have h1 := hd d (List.mem_cons_self ..)
    rcases hb with ⟨rfl, rfl⟩ | ⟨rfl, rfl⟩ | ⟨rfl, rfl⟩ | ⟨rfl, rfl⟩
    · exact based_ten _
    all_goals
      have h2 := (dg_facts (d := d) (by omega)).1
      show (_, _, _) = _
      rw [List.map_cons]
      generalize dg d = c at h2
      refine Prod.ext rfl (Prod.ext rfl ?_)
      show (match c :: r.map dg with | 95 :: r => r | r => r) = _
      split
      · rename_i q; cases q; exact absurd rfl h2
      · rfl
theorem nb_dg {b : Int} (hb : b ≤ 16) {ds : List Nat} (hd : ∀ d ∈ ds, (d : Int) < b) : ∀ c ∈ ds.map dg, blank c = false := fun c hc => by
  obtain ⟨d, hd', rfl⟩ := List.mem_map.mp hc
  have := hd d hd'
  exact (dg_facts (d := d) (by omega)).2.2.2.1
theorem baseP_le {b : Int} {pl : List Nat} (hb : BaseP b pl) : 2 ≤ b ∧ b ≤ 16 := by
  rcases hb with ⟨rfl, rfl⟩ | ⟨rfl, rfl⟩ | ⟨rfl, rfl⟩ | ⟨rfl, rfl⟩ <;> decide
/-- the first sign behind a minus or none -/
theorem head_ok {b : Int} {pl : List Nat} (hb : BaseP b pl) {ds : List Nat} (hd : ∀ d ∈ ds, (d : Int) < b) (hne : ds ≠ []) : ∃ c r, pl ++ ds.map dg = c :: r ∧ blank c = false ∧ c ≠ 45 ∧ c ≠ 43 := by
  obtain ⟨_, hb2⟩ := baseP_le hb
  cases ds with
  | nil => exact absurd rfl hne
  | cons d r =>
    have h1 := hd d (List.mem_cons_self ..)
    have h2 := dg_facts (d := d) (by omega)
    rcases hb with ⟨rfl, rfl⟩ | ⟨rfl, rfl⟩ | ⟨rfl, rfl⟩ | ⟨rfl, rfl⟩
    · exact ⟨dg d, r.map dg, rfl, h2.2.2.2.1, h2.2.1, h2.2.2.1⟩
    all_goals exact ⟨_, _, rfl, rfl, by decide, by decide⟩
def sgL (mi : Bool) : List Nat := if mi then [45] else []
def sgI (mi : Bool) (n : Int) : Int := if mi then -n else n
theorem intB_ok {b : Int} {pl : List Nat} (hb : BaseP b pl) {ds : List Nat} (hd : ∀ d ∈ ds, (d : Int) < b) (hne : ds ≠ []) (mi : Bool) : intB b.toNat (sgL mi ++ (pl ++ ds.map dg)) = some (sgI mi (hornI b ds)) := by
  obtain ⟨hb1, hb2⟩ := baseP_le hb
  obtain ⟨c, r, e, h1, h2, h3⟩ := head_ok hb hd hne
  have e1 : (sgL mi ++ (pl ++ ds.map dg)).dropWhile blank = sgL mi ++ (pl ++ ds.map dg) := by
    rw [e]
    cases mi
    · show (c :: r).dropWhile blank = c :: r
      rw [List.dropWhile_cons_of_neg (by rw [h1]; decide)]
    · rfl
  have e2 : sign (sgL mi ++ (pl ++ ds.map dg)) = (mi, pl ++ ds.map dg) := by
    cases mi
    · show sign (pl ++ ds.map dg) = _
      rw [e]
      unfold sign
      split
      · rename_i q; cases q; exact absurd rfl h2
      · rename_i q; cases q; exact absurd rfl h3
      · rfl
    · rfl
  have e3 := based_ok hb hd hne
  have e4 : digits? b.toNat (ds.map dg) = some ds.toArray := digits_dg (by omega) (fun d hd' => by have := hd d hd'; omega) hne
  have e5 := horn_is b.toNat ds
  rw [show ((b.toNat : Nat) : Int) = b from by omega] at e5
  unfold intB
  rw [e1, e2]
  dsimp only
  rw [e3]
  dsimp only
  rw [strip_b (nb_dg hb2 hd), e4]
  dsimp only
  rw [e5]
  cases mi <;> simp [sgI]
/-! numbers that are refused -/
theorem in_sign {c : Nat} {t : List Nat} (h : c ∈ t) (h1 : c ≠ 45) (h2 : c ≠ 43) : c ∈ (sign t).2 := by
  unfold sign
  split
  · exact (List.mem_cons.mp h).resolve_left h1
  · exact (List.mem_cons.mp h).resolve_left h2
  · exact h
theorem in_based {b c : Nat} {t : List Nat} (h : c ∈ t) (hb : b = 10 ∨ (b ≠ 0 ∧ c ≠ 48 ∧ c ≠ 120 ∧ c ≠ 88 ∧ c ≠ 111 ∧ c ≠ 79 ∧ c ≠ 98 ∧ c ≠ 66 ∧ c ≠ 95)) : c ∈ (based b t).2.2 := by
  rcases hb with rfl | ⟨h0, k1, k2, k3, k4, k5, k6, k7, k8⟩
  · rw [based_ten]; exact h
  unfold based
  split
  · rename_i p hp
    split
    · have hdrop : c ∈ t.drop 2 := by
        unfold prefix? at hp
        split at hp
        · rename_i x r
          have : c ≠ x := fun e => by subst e; simp [k2, k3, k4, k5, k6, k7] at hp
          rcases List.mem_cons.mp h with e | h
          · exact absurd e k1
          · exact (List.mem_cons.mp h).resolve_left this
        · cases hp
      show c ∈ (match t.drop 2 with | 95 :: r => r | r => r)
      split
      · rename_i r e
        rw [e] at hdrop
        exact (List.mem_cons.mp hdrop).resolve_left k8
      · exact hdrop
    · exact h
  · split
    · exact h
    · exact h
theorem based_base {b : Nat} (hb : b ≠ 0) (t : List Nat) : (based b t).1 = b := by
  unfold based
  split
  · split
    · rename_i p hp h
      rw [Bool.or_eq_true, beq_iff_eq, beq_iff_eq] at h
      show p = b
      rcases h with h | h
      · exact absurd h hb
      · exact h.symm
    · rfl
  · rw [if_neg (by simpa using hb)]
theorem in_lstrip {c : Nat} (hc : blank c = false) : ∀ {t : List Nat}, c ∈ t → c ∈ t.dropWhile blank
  | x :: r, h => by
    rw [List.dropWhile_cons]
    split
    · rename_i hx
      exact in_lstrip hc ((List.mem_cons.mp h).resolve_left (fun e => by subst e; rw [hc] at hx; cases hx))
    · exact h
theorem in_rstrip {c : Nat} (hc : blank c = false) {t : List Nat} (h : c ∈ t) : c ∈ (t.reverse.dropWhile blank).reverse := by
  rw [List.mem_reverse]
  exact in_lstrip hc (by rwa [List.mem_reverse])
theorem intB_none {b c : Nat} {t : List Nat} (hb : b ≠ 0) (h1 : c ≠ 95) (h2 : ∀ d, digit? c = some d → b ≤ d) (h : c ∈ ((based b (sign (t.dropWhile blank)).2).2.2.reverse.dropWhile blank).reverse) : intB b t = none := by
  unfold intB
  rw [based_base hb, digits_bad h1 h2 h]
/-- a sign that no number of the base holds -/
structure BadC (b c : Nat) : Prop where
  b0 : b ≠ 0
  u : c ≠ 95
  dig : ∀ d, digit? c = some d → b ≤ d
  bl : blank c = false
  mi : c ≠ 45
  pl : c ≠ 43
  pre : b = 10 ∨ (b ≠ 0 ∧ c ≠ 48 ∧ c ≠ 120 ∧ c ≠ 88 ∧ c ≠ 111 ∧ c ≠ 79 ∧ c ≠ 98 ∧ c ≠ 66 ∧ c ≠ 95)
theorem intB_bad {b c : Nat} {t : List Nat} (B : BadC b c) (h : c ∈ t) : intB b t = none :=
  intB_none B.b0 B.u B.dig (in_rstrip B.bl (in_based (in_sign (in_lstrip B.bl h) B.mi B.pl) B.pre))
theorem bad_10 : BadC 10 120 := ⟨by decide, by decide, (by intro d h; cases h; decide), rfl, by decide, by decide, Or.inl rfl⟩
theorem bad_g {b : Nat} (h0 : 0 < b) (hb : b ≤ 16) : BadC b 103 := ⟨by omega, by decide, (by intro d h; cases h; omega), rfl, by decide, by decide, Or.inr ⟨by omega, by decide, by decide, by decide, by decide, by decide, by decide, by decide, by decide⟩⟩
theorem bad_47 {b : Nat} (h0 : 0 < b) : BadC b 47 := ⟨by omega, by decide, (by intro d h; cases h), rfl, by decide, by decide, Or.inr ⟨by omega, by decide, by decide, by decide, by decide, by decide, by decide, by decide, by decide⟩⟩
theorem bad_46 {b : Nat} (h0 : 0 < b) : BadC b 46 := ⟨by omega, by decide, (by intro d h; cases h), rfl, by decide, by decide, Or.inr ⟨by omega, by decide, by decide, by decide, by decide, by decide, by decide, by decide, by decide⟩⟩
/-- a minus behind -/
theorem intB_minus {b : Nat} (hb : b ≠ 0) (u : List Nat) : intB b (u ++ [45]) = none := by
  cases hu : (u ++ [45]).dropWhile blank with
  | nil => exact absurd (hu ▸ in_lstrip (c := 45) rfl (by simp) : (45 : Nat) ∈ ([] : List Nat)) List.not_mem_nil
  | cons x r =>
    have hsuf : ∃ k, x :: r = (u ++ [45]).drop k := ⟨_, by rw [← hu]; exact (drop_take_while blank _).symm⟩
    obtain ⟨k, hk⟩ := hsuf
    have hlast : ∃ v, x :: r = v ++ [45] := by
      have hlt : k ≤ u.length := by
        rcases Nat.lt_or_ge u.length k with h | h
        · rw [List.drop_eq_nil_of_le (by simp; omega)] at hk; cases hk
        · exact h
      exact ⟨u.drop k, by rw [hk, List.drop_append_of_le_length hlt]⟩
    obtain ⟨v, hv⟩ := hlast
    cases v with
    | nil =>
      cases hv
      unfold intB
      rw [hu]
      show (match digits? (based b []).1 (((based b []).2.2.reverse.dropWhile blank).reverse) with | none => none | some ds => _) = none
      have : (based b []).2.2 = [] := by unfold based prefix?; dsimp only; split <;> rfl
      rw [this]
      rfl
    | cons y v =>
      cases hv
      refine intB_none (c := 45) hb (by decide) (by intro d h; cases h) (in_rstrip rfl (in_based ?_ (Or.inr ⟨hb, by decide, by decide, by decide, by decide, by decide, by decide, by decide, by decide⟩)))
      rw [hu]
      unfold sign
      split
      · rename_i q; cases q; simp
      · rename_i q; cases q; simp
      · simp
/-- a blank within -/
theorem intB_blank {b x : Nat} (hb : b ≠ 0) (hx : blank x = false) (u : List Nat) : intB b (x :: u ++ [32, 49]) = none := by
  have e1 : (x :: u ++ [32, 49]).dropWhile blank = x :: u ++ [32, 49] := by
    rw [List.cons_append, List.dropWhile_cons_of_neg (by rw [hx]; decide)]
  have e2 : ∃ v, (sign (x :: u ++ [32, 49])).2 = v ++ [32, 49] := by
    unfold sign
    split
    · rename_i q; cases q; exact ⟨u, rfl⟩
    · rename_i q; cases q; exact ⟨u, rfl⟩
    · exact ⟨x :: u, rfl⟩
  obtain ⟨v, hv⟩ := e2
  refine intB_none (c := 32) hb (by decide) (by intro d h; cases h) ?_
  rw [e1, hv]
  have e3 : ∃ v', (based b (v ++ [32, 49])).2.2 = v' ++ [32, 49] := by
    have hd : ∃ v', (v ++ [32, 49]).drop 2 = v' ++ [32, 49] ∨ prefix? (v ++ [32, 49]) = none := by
      match v with
      | [] => exact ⟨[], Or.inr rfl⟩
      | [y] => exact ⟨[], Or.inr (by unfold prefix?; split <;> first | rfl | (rename_i q; cases q; rfl))⟩
      | y :: z :: v => exact ⟨v, Or.inl rfl⟩
    obtain ⟨v', hv'⟩ := hd
    unfold based
    split
    · rename_i p hp
      split
      · rcases hv' with e | e
        · rw [e]
          show ∃ v'', (match v' ++ [32, 49] with | 95 :: r => r | r => r) = v'' ++ [32, 49]
          split
          · rename_i r q
            cases v' with
            | nil => cases q
            | cons y v' => cases q; exact ⟨v', rfl⟩
          · exact ⟨v', rfl⟩
        · rw [e] at hp; cases hp
      · exact ⟨v, rfl⟩
    · split <;> exact ⟨v, rfl⟩
  obtain ⟨v', hv'⟩ := e3
  rw [hv']
  simp [blank]
end Mine

namespace Mine
open PySem.NumText
/-! texts that are refused -/
theorem splitL_tail {c : Nat} {s : List Nat} (hs : c ∉ s) : ∀ t : List Nat, ∃ ps lp, splitL c t = ps ++ [lp] ∧ splitL c (t ++ s) = ps ++ [lp ++ s]
  | [] => ⟨[], [], rfl, by rw [List.nil_append, splitL_free hs]; rfl⟩
  | x :: r => by
    obtain ⟨ps, lp, h1, h2⟩ := splitL_tail hs r
    by_cases h : x = c
    · refine ⟨[] :: ps, lp, ?_, ?_⟩
      · rw [splitL, if_pos h, h1]; rfl
      · rw [List.cons_append, splitL, if_pos h, h2]; rfl
    · cases ps with
      | nil =>
        refine ⟨[], x :: lp, ?_, ?_⟩
        · rw [splitL, if_neg h, h1]; rfl
        · rw [List.cons_append, splitL, if_neg h, h2]; rfl
      | cons p ps =>
        refine ⟨(x :: p) :: ps, lp, ?_, ?_⟩
        · rw [splitL, if_neg h, h1]; rfl
        · rw [List.cons_append, splitL, if_neg h, h2]; rfl
theorem splitL_part {c x : Nat} (hx : x ≠ c) : ∀ {l : List Nat}, x ∈ l → ∃ p ∈ splitL c l, x ∈ p
  | y :: r, h => by
    rw [splitL]
    by_cases hy : y = c
    · rw [if_pos hy]
      obtain ⟨p, h1, h2⟩ := splitL_part hx ((List.mem_cons.mp h).resolve_left (fun e => hx (e.trans hy)))
      exact ⟨p, List.mem_cons_of_mem _ h1, h2⟩
    · rw [if_neg hy]
      cases hs : splitL c r with
      | nil => exact absurd hs (splitL_ne c r)
      | cons q qs =>
        rcases List.mem_cons.mp h with e | h
        · subst e; exact ⟨x :: q, List.mem_cons_self .., List.mem_cons_self ..⟩
        · obtain ⟨p, h1, h2⟩ := splitL_part hx h
          rw [hs] at h1
          rcases List.mem_cons.mp h1 with e | h1
          · subst e; exact ⟨y :: p, List.mem_cons_self .., List.mem_cons_of_mem _ h2⟩
          · exact ⟨p, List.mem_cons_of_mem _ h1, h2⟩
theorem splitL_sole {c : Nat} {l m : List Nat} (h : splitL c l = [m]) : c ∉ l ∧ m = l := by
  have h1 : c ∉ l := fun hc => by
    have := splitL_mem hc
    rw [h] at this
    simp at this
  rw [splitL_free h1] at h
  exact ⟨h1, (List.cons.inj h).1.symm⟩
theorem splitL_two {c : Nat} {l a d : List Nat} (h : splitL c l = [a, d]) : c ∈ l := Decidable.byContradiction fun hc => by
  rw [splitL_free hc] at h
  cases h
theorem last_two {ps : List (List Nat)} {x a d : List Nat} (h : ps ++ [x] = [a, d]) : ps = [a] ∧ x = d := by
  match ps, h with
  | [p], h => cases h; exact ⟨rfl, rfl⟩
  | [], h => cases h
  | _ :: _ :: r, h => simp at h
theorem rstripL_end {c x : Nat} (h : x ≠ c) (u : List Nat) : rstripL c (u ++ [x]) = u ++ [x] := by
  unfold rstripL
  rw [List.reverse_append, List.reverse_singleton, List.singleton_append, List.dropWhile_cons_of_neg (by simpa using h)]
  simp
theorem rstripL_more {c : Nat} (u : List Nat) : rstripL c (u ++ [c]) = rstripL c u := by
  unfold rstripL
  rw [List.reverse_append, List.reverse_singleton, List.singleton_append, List.dropWhile_cons_of_pos (by simp)]
theorem rstripL_in {c x : Nat} (h : x ≠ c) {t : List Nat} (ht : x ∈ t) : x ∈ rstripL c t := by
  unfold rstripL
  rw [List.mem_reverse]
  have : ∀ l : List Nat, x ∈ l → x ∈ l.dropWhile (· == c) := fun l => by
    induction l with
    | nil => intro h; exact h
    | cons y r ih =>
      intro hy
      rw [List.dropWhile_cons]
      split
      · rename_i e
        refine ih ((List.mem_cons.mp hy).resolve_left fun e2 => h ?_)
        rw [e2]; simpa using e
      · exact hy
  exact this _ (by rwa [List.mem_reverse])
theorem smeT_none {b : Int} {c : Nat} {k ex : Int} {m : List Nat} (h2 : ∀ a d, splitL 46 m = [a, d] → intB b.toNat ((if a = [] then [48] else a) ++ rstripL 48 d) = none) (ho : (∀ a d, splitL 46 m ≠ [a, d]) → intB b.toNat m = none) : smeT b c k m ex = none := by
  by_cases h : ∃ a d, splitL 46 m = [a, d]
  · obtain ⟨a, d, h⟩ := h
    rw [smeT_2 h, h2 a d h]; rfl
  · rw [smeT_o (fun a d e => h ⟨a, d, e⟩), ho (fun a d e => h ⟨a, d, e⟩)]; rfl
theorem smeF_none {b : Int} {c : Nat} {k : Int} {l : List Nat} (hm : c ∉ l → smeT b c k l 0 = none) (he : ∀ m e, splitL c l = [m, e] → (∀ n, smeT b c k m n = none) ∨ intB 10 e = none) : smeF b c k l = none := by
  unfold smeF
  split
  · rename_i m e
    obtain ⟨h1, h2⟩ := splitL_sole e
    rw [h2]; exact hm h1
  · rename_i m e' e
    rcases he m e' e with h | h
    · cases intB 10 e' with
      | none => rfl
      | some n => exact h n
    · rw [h]; rfl
  · rfl
theorem smeT_bad {b : Int} {c x : Nat} {k ex : Int} {m : List Nat} (B : BadC b.toNat x) (h46 : x ≠ 46) (h48 : x ≠ 48) (h : x ∈ m) : smeT b c k m ex = none := by
  refine smeT_none (fun a d e => ?_) fun _ => intB_bad B h
  obtain ⟨p, hp, hx⟩ := splitL_part h46 h
  rw [e] at hp
  refine intB_bad B (List.mem_append.mpr ?_)
  rcases List.mem_cons.mp hp with rfl | hp
  · left
    rw [if_neg (by rintro rfl; cases hx)]
    exact hx
  · right
    rw [List.mem_singleton] at hp
    subst hp
    exact rstripL_in h48 hx
theorem smeF_bad {b : Int} {c x : Nat} {k : Int} {l : List Nat} (B : BadC b.toNat x) (B' : BadC 10 x) (hc : x ≠ c) (h46 : x ≠ 46) (h48 : x ≠ 48) (h : x ∈ l) : smeF b c k l = none := by
  refine smeF_none (fun _ => smeT_bad B h46 h48 h) fun m e q => ?_
  obtain ⟨p, hp, hx⟩ := splitL_part hc h
  rw [q] at hp
  rcases List.mem_cons.mp hp with rfl | hp
  · exact Or.inl fun n => smeT_bad B h46 h48 hx
  · rw [List.mem_singleton] at hp
    subst hp
    exact Or.inr (intB_bad B' hx)
theorem smeT_minus {b : Int} {c : Nat} {k ex : Int} (hb : b.toNat ≠ 0) (u : List Nat) : smeT b c k (u ++ [45]) ex = none := by
  refine smeT_none (fun a d e => ?_) fun _ => intB_minus hb u
  obtain ⟨ps, lp, h1, h2⟩ := splitL_tail (c := 46) (s := [45]) (by decide) u
  rw [h2] at e
  obtain ⟨_, rfl⟩ := last_two e
  rw [rstripL_end (by decide), ← List.append_assoc]
  exact intB_minus hb _
theorem smeF_minus {b : Int} {c : Nat} {k : Int} (hb : b.toNat ≠ 0) (hc : c ≠ 45) (u : List Nat) : smeF b c k (u ++ [45]) = none := by
  refine smeF_none (fun _ => smeT_minus hb u) fun m e q => ?_
  obtain ⟨ps, lp, h1, h2⟩ := splitL_tail (c := c) (s := [45]) (by simpa using hc) u
  rw [h2] at q
  obtain ⟨_, rfl⟩ := last_two q
  exact Or.inr (intB_minus (by decide) _)
theorem smeT_dots {b : Int} {c : Nat} {k ex : Int} (hb : 0 < b.toNat) (u : List Nat) : smeT b c k (u ++ [46, 46]) ex = none := by
  have h3 : ∀ a d, splitL 46 (u ++ [46, 46]) ≠ [a, d] := fun a d e => by
    obtain ⟨ps, lp, h1, h2⟩ := splitL_tail (c := 46) (s := []) (by decide) u
    have : ∀ (t : List Nat), splitL 46 (t ++ [46, 46]) = splitL 46 t ++ [[], []] := fun t => by
      induction t with
      | nil => rfl
      | cons x r ih =>
        rw [List.cons_append, splitL, splitL, ih]
        split
        · rfl
        · cases hs : splitL 46 r with
          | nil => exact absurd hs (splitL_ne 46 r)
          | cons p ps => rfl
    rw [this, h1] at e
    have := congrArg List.length e
    simp at this
  refine smeT_none (fun a d e => absurd e (h3 a d)) fun _ => intB_bad (bad_46 hb) (by simp)
theorem smeF_dots {b : Int} {c : Nat} {k : Int} (hb : 0 < b.toNat) (hc : c ≠ 46) (u : List Nat) : smeF b c k (u ++ [46, 46]) = none := by
  refine smeF_none (fun _ => smeT_dots hb u) fun m e q => ?_
  obtain ⟨ps, lp, h1, h2⟩ := splitL_tail (c := c) (s := [46, 46]) (by simpa using hc) u
  rw [h2] at q
  obtain ⟨_, rfl⟩ := last_two q
  exact Or.inr (intB_bad (bad_46 (by decide)) (by simp))
theorem intB_blank' {b : Nat} (hb : b ≠ 0) {u : List Nat} (hu : u ≠ []) (h : ∀ c ∈ u, blank c = false) : intB b (u ++ [32, 49]) = none := by
  cases u with
  | nil => exact absurd rfl hu
  | cons x u => exact intB_blank hb (h x (List.mem_cons_self ..)) u
theorem smeT_blank {b : Int} {c : Nat} {k ex : Int} (hb : b.toNat ≠ 0) {t : List Nat} (ht : t ≠ []) (h : ∀ c ∈ t, blank c = false) : smeT b c k (t ++ [32, 49]) ex = none := by
  refine smeT_none (fun a d e => ?_) fun _ => intB_blank' hb ht h
  obtain ⟨ps, lp, h1, h2⟩ := splitL_tail (c := 46) (s := [32, 49]) (by decide) t
  rw [h2] at e
  obtain ⟨e1, rfl⟩ := last_two e
  subst e1
  have hs : ∀ p ∈ splitL 46 t, ∀ c ∈ p, blank c = false := fun p hp c hc => h c ((splitL_sub hp).subset hc)
  rw [h1] at hs
  rw [show lp ++ [32, 49] = (lp ++ [32]) ++ [49] from by simp, rstripL_end (by decide), show (lp ++ [32]) ++ [49] = lp ++ [32, 49] from by simp, ← List.append_assoc]
  refine intB_blank' hb ?_ fun c hc => ?_
  · split <;> simp [*]
  · rcases List.mem_append.mp hc with hc | hc
    · split at hc
      · rw [List.mem_singleton.mp hc]; rfl
      · exact hs a (by simp) c hc
    · exact hs lp (by simp) c hc
theorem smeF_blank {b : Int} {c z : Nat} {k : Int} (hb : b.toNat ≠ 0) {t : List Nat} (h : ∀ c ∈ t ++ [z], blank c = false) (hc : c ≠ 32 ∧ c ≠ 49) (hz : z ≠ c) : smeF b c k (t ++ [z] ++ [32, 49]) = none := by
  refine smeF_none (fun _ => smeT_blank hb (by simp) h) fun m e q => ?_
  obtain ⟨ps, lp, h1, h2⟩ := splitL_tail (c := c) (s := [z, 32, 49]) (by simp; exact ⟨fun e => hz e.symm, hc.1, hc.2⟩) t
  rw [show t ++ [z] ++ [32, 49] = t ++ [z, 32, 49] from by simp, h2] at q
  obtain ⟨_, rfl⟩ := last_two q
  refine Or.inr ?_
  rw [show lp ++ [z, 32, 49] = (lp ++ [z]) ++ [32, 49] from by simp]
  refine intB_blank' (by decide) (by simp) fun c hc => h c ?_
  rcases List.mem_append.mp hc with hc | hc
  · exact List.mem_append_left _ ((splitL_sub (by rw [h1]; simp)).subset hc)
  · exact List.mem_append_right _ hc
/-- a text that is refused: all that from_str asks of it -/
theorem FsOk.no {l0 l : List Nat} (st : stripL (l0.map lo1) = l) (sp : l ∉ spKeys) (lo : l.map lo1 = l) (rs : rstripL 108 l = l) (un : 95 ∉ l)
    (h47 : ∀ p q, splitL 47 l = [p, q] → intB (baseOf l).toNat (rstripL 108 p) = none ∨ intB (baseOf l).toNat (rstripL 108 q) = none)
    (hs : smeF (baseOf l) (sepOf (baseOf l) l) (e2Of (baseOf l)) l = none) : FsOk l0 l ∧ fsF (baseOf l) l = none := by
  refine ⟨⟨st, sp, lo, rs, un, fun p q n d e h1 h2 => ?_, fun n e h => ?_⟩, ?_⟩
  · rcases h47 p q e with h | h
    · rw [h] at h1; cases h1
    · rw [h] at h2; cases h2
  · rw [hs] at h; cases h
  · by_cases hc : 47 ∈ l
    · unfold fsF
      rw [if_pos hc]
      split
      · rename_i p q e
        rcases h47 p q e with h | h
        · rw [h]; rfl
        · rw [h]; cases intB (baseOf l).toNat (rstripL 108 p) <;> rfl
      · rfl
    · exact fsF_n hc hs
theorem base_pos (l : List Nat) : 0 < (baseOf l).toNat ∧ (baseOf l).toNat ≤ 16 := by
  rcases baseOf_is l with h | h | h | h <;> rw [h] <;> decide
theorem sep_is (b : Int) (l : List Nat) : sepOf b l = 112 ∨ sepOf b l = 101 ∨ sepOf b l = 64 := by
  unfold sepOf
  split
  · exact Or.inl rfl
  · split
    · exact Or.inr (Or.inl rfl)
    · exact Or.inr (Or.inr rfl)
/-! what all built texts have in common -/
def okc (c : Nat) : Bool := (48 ≤ c && c ≤ 57) || (97 ≤ c && c ≤ 102) || c == 111 || c == 120 || c == 46 || c == 47 || c == 43 || c == 45 || c == 64 || c == 112
theorem okc_lt {c : Nat} (h : okc c = true) : c < 128 := by
  unfold okc at h
  simp only [Bool.or_eq_true, Bool.and_eq_true, decide_eq_true_eq, beq_iff_eq] at h
  omega
theorem okc_facts {c : Nat} (h : okc c = true) : lo1 c = c ∧ lo1 (up1 c) = c ∧ blank c = false ∧ Unicode.isSpace c = false ∧ c ≠ 95 ∧ c ≠ 108 ∧ c ≠ 103 ∧ c < 128 ∧ c ≠ 0 := by
  have : ∀ c : Fin 128, okc c.val = true → lo1 c.val = c.val ∧ lo1 (up1 c.val) = c.val ∧ blank c.val = false ∧ Unicode.isSpace c.val = false ∧ c.val ≠ 95 ∧ c.val ≠ 108 ∧ c.val ≠ 103 ∧ c.val < 128 ∧ c.val ≠ 0 := by decide +kernel
  exact this ⟨c, okc_lt h⟩ h
theorem map_lo {l : List Nat} (h : ∀ c ∈ l, lo1 c = c) : l.map lo1 = l := by
  induction l with
  | nil => rfl
  | cons x r ih => rw [List.map_cons, h x (List.mem_cons_self ..), ih fun c hc => h c (List.mem_cons_of_mem _ hc)]
theorem map_up {l : List Nat} (h : ∀ c ∈ l, lo1 (up1 c) = c) : (l.map up1).map lo1 = l := by
  induction l with
  | nil => rfl
  | cons x r ih => rw [List.map_cons, List.map_cons, h x (List.mem_cons_self ..), ih fun c hc => h c (List.mem_cons_of_mem _ hc)]
theorem lstrip_of {l : List Nat} (h : ∀ c ∈ l, Unicode.isSpace c = false) : l.dropWhile Unicode.isSpace = l := by
  cases l with
  | nil => rfl
  | cons x r => rw [List.dropWhile_cons_of_neg (by rw [h x (List.mem_cons_self ..)]; decide)]
theorem stripL_ends {x y : Nat} {u : List Nat} (hx : Unicode.isSpace x = false) (hy : Unicode.isSpace y = false) : stripL (x :: u ++ [y]) = x :: u ++ [y] := by
  unfold stripL
  rw [List.cons_append, List.dropWhile_cons_of_neg (by rw [hx]; decide), ← List.cons_append, List.reverse_append, List.reverse_singleton, List.singleton_append, List.dropWhile_cons_of_neg (by rw [hy]; decide)]
  simp
theorem stripL_plain {l : List Nat} (h : ∀ c ∈ l, Unicode.isSpace c = false) : stripL l = l := by
  unfold stripL
  rw [lstrip_of h, lstrip_of (fun c hc => h c (by simpa using hc)), List.reverse_reverse]
theorem isSpace_32 : Unicode.isSpace 32 = true := by decide +kernel
theorem stripL_ahead {l : List Nat} (h : ∀ c ∈ l, Unicode.isSpace c = false) : stripL (32 :: 32 :: l) = l := by
  have e : stripL (32 :: 32 :: l) = stripL l := by
    unfold stripL
    rw [List.dropWhile_cons_of_pos isSpace_32, List.dropWhile_cons_of_pos isSpace_32]
  rw [e, stripL_plain h]
theorem stripL_behind {l : List Nat} (h : ∀ c ∈ l, Unicode.isSpace c = false) : stripL (l ++ [32]) = l := by
  unfold stripL
  cases l with
  | nil => rw [List.nil_append, List.dropWhile_cons_of_pos isSpace_32]; rfl
  | cons x r =>
    rw [List.cons_append, List.dropWhile_cons_of_neg (by rw [h x (List.mem_cons_self ..)]; decide), ← List.cons_append, List.reverse_append, List.reverse_singleton, List.singleton_append, List.dropWhile_cons_of_pos isSpace_32,
      lstrip_of (fun c hc => h c (List.mem_reverse.mp hc)), List.reverse_reverse]
/-- what a built text has -/
structure Tx (b : Int) (t : List Nat) : Prop where
  ok : ∀ c ∈ t, okc c = true
  dig : ∃ c ∈ t, 48 ≤ c ∧ c ≤ 57
  last : ∃ t' z, t = t' ++ [z] ∧ z ≠ 47 ∧ z ≠ 64 ∧ z ≠ 112 ∧ (b = 16 ∨ z ≠ 101)
  base : ∀ s, (∀ c ∈ s, c ≠ 98 ∧ c ≠ 66 ∧ c ≠ 120 ∧ c ≠ 88 ∧ c ≠ 111) → baseOf (t ++ s) = b
theorem sp_not {l : List Nat} {c : Nat} (h : c ∈ l) (hc : 48 ≤ c ∧ c ≤ 57) : l ∉ spKeys := fun hs => by
  unfold spKeys at hs
  simp only [List.mem_cons, List.not_mem_nil, or_false] at hs
  rcases hs with rfl | rfl | rfl | rfl | rfl | rfl | rfl <;> (simp only [List.mem_cons, List.not_mem_nil, or_false] at h; omega)
theorem rs_of {l : List Nat} (h : ∀ c ∈ l, c ≠ 108) : rstripL 108 l = l := by
  unfold rstripL
  cases hr : l.reverse with
  | nil => simp at hr; subst hr; rfl
  | cons x r =>
    have : x ∈ l := by have : x ∈ l.reverse := by rw [hr]; exact List.mem_cons_self ..
                       simpa using this
    rw [List.dropWhile_cons_of_neg (by simpa using h x this), ← hr, List.reverse_reverse]
def Refd (l : List Nat) : Prop := FsOk l l ∧ fsF (baseOf l) l = none
section
variable {b : Int} {t : List Nat} (T : Tx b t)
include T
theorem ref_x : Refd (120 :: t) := by
  have hb : baseOf (120 :: t) = 10 := by
    rw [baseOf_10 (by rfl) (by rfl) (by rfl)]
  have hf := fun c hc => okc_facts (T.ok c hc)
  have ha : ∀ c ∈ 120 :: t, lo1 c = c ∧ Unicode.isSpace c = false ∧ c ≠ 108 ∧ c ≠ 95 := fun c hc => by
    rcases List.mem_cons.mp hc with rfl | hc
    · exact ⟨by decide, by decide +kernel, by decide, by decide⟩
    · exact ⟨(hf c hc).1, (hf c hc).2.2.2.1, (hf c hc).2.2.2.2.2.1, (hf c hc).2.2.2.2.1⟩
  have hlo := map_lo fun c hc => (ha c hc).1
  obtain ⟨c, hc, hd⟩ := T.dig
  refine FsOk.no (by rw [hlo]; exact stripL_plain fun c hc => (ha c hc).2.1) (sp_not (List.mem_cons_of_mem _ hc) hd) hlo (rs_of fun c hc => (ha c hc).2.2.1) (fun h => (ha _ h).2.2.2 rfl) (fun p q e => Or.inl ?_) ?_
  · rw [hb]
    refine intB_bad bad_10 (rstripL_in (by decide) ?_)
    rw [splitL, if_neg (by decide)] at e
    cases hs : splitL 47 t with
    | nil => exact absurd hs (splitL_ne 47 t)
    | cons a r => rw [hs] at e; cases e; exact List.mem_cons_self ..
  · rw [hb]
    refine smeF_bad bad_10 bad_10 ?_ (by decide) (by decide) (List.mem_cons_self ..)
    rcases sep_is 10 (120 :: t) with h | h | h <;> rw [h] <;> decide
theorem ref_1 : Refd (t ++ [32, 49]) := by
  have hb : baseOf (t ++ [32, 49]) = b := T.base _ (by decide)
  have hb0 := (base_pos (t ++ [32, 49])).1
  rw [hb] at hb0
  have hf := fun c hc => okc_facts (T.ok c hc)
  have ha : ∀ c ∈ t ++ [32, 49], lo1 c = c ∧ c ≠ 108 ∧ c ≠ 95 := fun c hc => by
    rcases List.mem_append.mp hc with hc | hc
    · exact ⟨(hf c hc).1, (hf c hc).2.2.2.2.2.1, (hf c hc).2.2.2.2.1⟩
    · simp only [List.mem_cons, List.not_mem_nil, or_false] at hc
      rcases hc with rfl | rfl <;> exact ⟨by decide, by decide, by decide⟩
  have hlo := map_lo fun c hc => (ha c hc).1
  obtain ⟨c, hc, hd⟩ := T.dig
  obtain ⟨t', z, et, z1, z2, z3, z4⟩ := T.last
  have hst : stripL (t ++ [32, 49]) = t ++ [32, 49] := by
    cases t with
    | nil => cases hc
    | cons x r =>
      rw [show x :: r ++ [32, 49] = x :: (r ++ [32]) ++ [49] from by simp]
      exact stripL_ends (hf x (List.mem_cons_self ..)).2.2.2.1 (by decide +kernel)
  have hnb : ∀ c ∈ t, blank c = false := fun c hc => (hf c hc).2.2.1
  refine FsOk.no (by rw [hlo]; exact hst) (sp_not (List.mem_append_left _ hc) hd) hlo (rs_of fun c hc => (ha c hc).2.1) (fun h => (ha _ h).2.2 rfl) (fun p q e => Or.inr ?_) ?_
  · rw [hb]
    subst et
    obtain ⟨ps, lp, h1, h2⟩ := splitL_tail (c := 47) (s := [z, 32, 49]) (by simp; omega) t'
    rw [show t' ++ [z] ++ [32, 49] = t' ++ [z, 32, 49] from by simp, h2] at e
    obtain ⟨_, rfl⟩ := last_two e
    rw [show lp ++ [z, 32, 49] = (lp ++ [z, 32]) ++ [49] from by simp, rstripL_end (by decide), show lp ++ [z, 32] ++ [49] = (lp ++ [z]) ++ [32, 49] from by simp]
    refine intB_blank' (by omega) (by simp) fun c hc => hnb c ?_
    rcases List.mem_append.mp hc with hc | hc
    · exact List.mem_append_left _ ((splitL_sub (by rw [h1]; simp)).subset hc)
    · exact List.mem_append_right _ hc
  · rw [hb]
    subst et
    refine smeF_blank (by omega) hnb ?_ ?_
    · rcases sep_is b (t' ++ [z] ++ [32, 49]) with h | h | h <;> rw [h] <;> decide
    · intro e
      unfold sepOf at e
      split at e
      · omega
      · split at e
        · rcases z4 with z4 | z4 <;> omega
        · omega
theorem ref_tail (s : List Nat) (y : Nat) (s' : List Nat) (es : s = s' ++ [y]) (hs : ∀ c ∈ s, lo1 c = c ∧ Unicode.isSpace c = false ∧ c ≠ 108 ∧ c ≠ 95)
    (h47 : ∀ p q, splitL 47 (t ++ s) = [p, q] → intB (baseOf (t ++ s)).toNat (rstripL 108 p) = none ∨ intB (baseOf (t ++ s)).toNat (rstripL 108 q) = none)
    (hsm : smeF (baseOf (t ++ s)) (sepOf (baseOf (t ++ s)) (t ++ s)) (e2Of (baseOf (t ++ s))) (t ++ s) = none) : Refd (t ++ s) := by
  have hf := fun c hc => okc_facts (T.ok c hc)
  have ha : ∀ c ∈ t ++ s, lo1 c = c ∧ Unicode.isSpace c = false ∧ c ≠ 108 ∧ c ≠ 95 := fun c hc => by
    rcases List.mem_append.mp hc with hc | hc
    · exact ⟨(hf c hc).1, (hf c hc).2.2.2.1, (hf c hc).2.2.2.2.2.1, (hf c hc).2.2.2.2.1⟩
    · exact hs c hc
  have hlo := map_lo fun c hc => (ha c hc).1
  obtain ⟨c, hc, hd⟩ := T.dig
  exact FsOk.no (by rw [hlo]; exact stripL_plain fun c hc => (ha c hc).2.1) (sp_not (List.mem_append_left _ hc) hd) hlo (rs_of fun c hc => (ha c hc).2.2.1) (fun h => (ha _ h).2.2.2 rfl) h47 hsm
theorem ref_dots : Refd (t ++ [46, 46]) := by
  have hb0 := (base_pos (t ++ [46, 46])).1
  refine ref_tail T [46, 46] 46 [46] rfl (by decide +kernel) (fun p q e => Or.inr ?_) (smeF_dots hb0 (by rcases sep_is (baseOf (t ++ [46, 46])) (t ++ [46, 46]) with h | h | h <;> rw [h] <;> decide) t)
  obtain ⟨ps, lp, h1, h2⟩ := splitL_tail (c := 47) (s := [46, 46]) (by decide) t
  rw [h2] at e
  obtain ⟨_, rfl⟩ := last_two e
  exact intB_bad (bad_46 hb0) (rstripL_in (by decide) (by simp))
theorem ref_23 : Refd (t ++ [47, 50, 47, 51]) := by
  have hb0 := (base_pos (t ++ [47, 50, 47, 51])).1
  refine ref_tail T [47, 50, 47, 51] 51 [47, 50, 47] rfl (by decide +kernel) (fun p q e => ?_) (smeF_bad (x := 47) (bad_47 hb0) (bad_47 (by decide)) (by rcases sep_is (baseOf (t ++ [47, 50, 47, 51])) (t ++ [47, 50, 47, 51]) with h | h | h <;> rw [h] <;> decide) (by decide) (by decide) (by simp))
  exfalso
  have : ∀ (t : List Nat), splitL 47 (t ++ [47, 50, 47, 51]) = splitL 47 t ++ [[50], [51]] := fun t => by
    induction t with
    | nil => rfl
    | cons x r ih =>
      rw [List.cons_append, splitL, splitL, ih]
      split
      · rfl
      · cases hs : splitL 47 r with
        | nil => exact absurd hs (splitL_ne 47 r)
        | cons p ps => rfl
  rw [this] at e
  have h1 := congrArg List.length e
  have h2 := splitL_ne 47 t
  have h3 := List.length_pos_iff.mpr h2
  simp at h1
  exact h2 h1
theorem ref_minus : Refd (45 :: t ++ [45]) := by
  have hb0 := (base_pos (45 :: t ++ [45])).1
  have hf := fun c hc => okc_facts (T.ok c hc)
  have ha : ∀ c ∈ 45 :: t ++ [45], lo1 c = c ∧ Unicode.isSpace c = false ∧ c ≠ 108 ∧ c ≠ 95 := fun c hc => by
    rcases List.mem_append.mp hc with hc | hc
    · rcases List.mem_cons.mp hc with rfl | hc
      · exact ⟨by decide, by decide +kernel, by decide, by decide⟩
      · exact ⟨(hf c hc).1, (hf c hc).2.2.2.1, (hf c hc).2.2.2.2.2.1, (hf c hc).2.2.2.2.1⟩
    · rw [List.mem_singleton.mp hc]; exact ⟨by decide, by decide +kernel, by decide, by decide⟩
  have hlo := map_lo fun c hc => (ha c hc).1
  obtain ⟨c, hc, hd⟩ := T.dig
  refine FsOk.no (by rw [hlo]; exact stripL_plain fun c hc => (ha c hc).2.1) (sp_not (List.mem_append_left _ (List.mem_cons_of_mem _ hc)) hd) hlo (rs_of fun c hc => (ha c hc).2.2.1) (fun h => (ha _ h).2.2.2 rfl) (fun p q e => Or.inr ?_)
    (smeF_minus (by omega) (by rcases sep_is (baseOf (45 :: t ++ [45])) (45 :: t ++ [45]) with h | h | h <;> rw [h] <;> decide) _)
  obtain ⟨ps, lp, h1, h2⟩ := splitL_tail (c := 47) (s := [45]) (by decide) (45 :: t)
  rw [h2] at e
  obtain ⟨_, rfl⟩ := last_two e
  rw [rstripL_end (by decide)]
  exact intB_minus (by omega) _
end
theorem ref_g {r : List Nat} (h : ∀ c ∈ r, okc c = true ∨ c = 122) : Refd (r ++ [103]) := by
  obtain ⟨hb0, hb1⟩ := base_pos (r ++ [103])
  have ha : ∀ c ∈ r ++ [103], lo1 c = c ∧ Unicode.isSpace c = false ∧ c ≠ 108 ∧ c ≠ 95 := fun c hc => by
    rcases List.mem_append.mp hc with hc | hc
    · rcases h c hc with h | rfl
      · have := okc_facts h
        exact ⟨this.1, this.2.2.2.1, this.2.2.2.2.2.1, this.2.2.2.2.1⟩
      · exact ⟨by decide, by decide +kernel, by decide, by decide⟩
    · rw [List.mem_singleton.mp hc]; exact ⟨by decide, by decide +kernel, by decide, by decide⟩
  have hlo := map_lo fun c hc => (ha c hc).1
  have hsp : r ++ [103] ∉ spKeys := fun hs => by
    have hm : (103 : Nat) ∈ r ++ [103] := by simp
    unfold spKeys at hs
    simp only [List.mem_cons, List.not_mem_nil, or_false] at hs
    rcases hs with e | e | e | e | e | e | e <;> (rw [e] at hm; revert hm; decide)
  refine FsOk.no (by rw [hlo]; exact stripL_plain fun c hc => (ha c hc).2.1) hsp hlo (rs_of fun c hc => (ha c hc).2.2.1) (fun h => (ha _ h).2.2.2 rfl) (fun p q e => Or.inr ?_)
    (smeF_bad (x := 103) (bad_g hb0 hb1) (bad_g (by decide) (by decide)) (by rcases sep_is (baseOf (r ++ [103])) (r ++ [103]) with h | h | h <;> rw [h] <;> decide) (by decide) (by decide) (by simp))
  obtain ⟨ps, lp, h1, h2⟩ := splitL_tail (c := 47) (s := [103]) (by decide) r
  rw [h2] at e
  obtain ⟨_, rfl⟩ := last_two e
  exact intB_bad (bad_g hb0 hb1) (rstripL_in (by decide) (by simp))
theorem ref_nil : Refd [] := by
  refine FsOk.no rfl (by decide) rfl rfl (by decide) (fun p q e => by cases e) ?_
  decide +kernel
end Mine

namespace Mine
open PySem.NumText
/-! texts that are read -/
theorem rev_ind {P : List Nat → Prop} (h0 : P []) (h1 : ∀ l x, P l → P (l ++ [x])) (l : List Nat) : P l := by
  have : ∀ l : List Nat, P l.reverse := fun l => by
    induction l with
    | nil => exact h0
    | cons x r ih => rw [List.reverse_cons]; exact h1 _ _ ih
  rw [← List.reverse_reverse l]
  exact this _
theorem pow16 : ∀ {i j : Nat}, i ≤ j → (16 : Int) ^ i ≤ 16 ^ j := fun {i j} h => by
  obtain ⟨k, rfl⟩ := Nat.le.dest h
  rw [Int.pow_add]
  have h1 : (0 : Int) < 16 ^ i := Int.pow_pos (by decide)
  have h2 : (0 : Int) < 16 ^ k := Int.pow_pos (by decide)
  have := Int.mul_le_mul_of_nonneg_left (show (1 : Int) ≤ 16 ^ k from h2) (Int.le_of_lt h1)
  rwa [Int.mul_one] at this
theorem hornI_app (b : Int) (xs ys : List Nat) : hornI b (xs ++ ys) = hornI b xs * b ^ ys.length + hornI b ys := by
  induction ys using rev_ind with
  | h0 => simp [hornI]
  | h1 ys y ih =>
    rw [← List.append_assoc, hornI_snoc, ih, hornI_snoc, List.length_append, List.length_singleton, Int.pow_succ, Int.add_mul, Int.mul_assoc, Int.add_assoc]
theorem hornI_zeros (b : Int) (z : Nat) : hornI b (List.replicate z 0) = 0 := by
  induction z with
  | zero => rfl
  | succ z ih => rw [List.replicate_succ', hornI_snoc, ih]; simp
theorem hornI_more (b : Int) (xs : List Nat) (z : Nat) : hornI b (xs ++ List.replicate z 0) = hornI b xs * b ^ z := by
  rw [hornI_app, hornI_zeros, List.length_replicate, Int.add_zero]
theorem hornI_bound {b : Int} (hb : 2 ≤ b) (hb2 : b ≤ 16) : ∀ (ds : List Nat), (∀ d ∈ ds, (d : Int) < b) → 0 ≤ hornI b ds ∧ hornI b ds < 16 ^ ds.length := fun ds => by
  induction ds using rev_ind with
  | h0 => intro _; exact ⟨Int.le_refl 0, (by decide : (0 : Int) < 16 ^ 0)⟩
  | h1 ys y ih =>
    intro h
    obtain ⟨h1, h2⟩ := ih fun d hd => h d (List.mem_append_left _ hd)
    have h3 := h y (by simp)
    rw [hornI_snoc, List.length_append, List.length_singleton, Int.pow_succ]
    generalize hornI b ys = H at *
    generalize (16 : Int) ^ ys.length = P at *
    have h4 : H * b ≤ H * 16 := Int.mul_le_mul_of_nonneg_left hb2 h1
    have h5 : 0 ≤ H * b := Int.mul_nonneg h1 (by omega)
    omega
theorem bl_small {n : Int} (h : n.natAbs < 2 ^ 200) : bl n ≤ 8000 := by
  have e : bl n = bl (n.natAbs : Int) := by
    rcases Int.natAbs_eq n with h | h
    · conv => lhs; rw [h]
    · conv => lhs; rw [h]
      rw [bl_neg]
  rw [e]
  have := bl_nat.mpr h
  omega
theorem horn_small {b : Int} (hb : 2 ≤ b) (hb2 : b ≤ 16) {ds : List Nat} (h : ∀ d ∈ ds, (d : Int) < b) (hl : ds.length ≤ 12) (mi : Bool) : bl (sgI mi (hornI b ds)) ≤ 8000 := by
  obtain ⟨h1, h2⟩ := hornI_bound hb hb2 ds h
  have h3 : (16 : Int) ^ ds.length ≤ 16 ^ 12 := pow16 hl
  refine bl_small ?_
  have h4 : (16 : Int) ^ 12 = 281474976710656 := by decide
  have h5 : (2 : Nat) ^ 48 = 281474976710656 := by decide
  have h6 : (2 : Nat) ^ 48 ≤ 2 ^ 200 := Nat.pow_le_pow_right (by decide) (by decide)
  cases mi <;> simp only [sgI, Bool.false_eq_true, if_false, if_true] <;> omega
theorem trail (bh : List Nat) (h : ∀ d ∈ bh, d < 16) : ∃ bs z, bh = bs ++ List.replicate z 0 ∧ rstripL 48 (bh.map dg) = bs.map dg := by
  induction bh using rev_ind with
  | h0 => exact ⟨[], 0, rfl, rfl⟩
  | h1 ys y ih =>
    have hy := dg_facts (h y (by simp))
    by_cases h0 : y = 0
    · subst h0
      obtain ⟨bs, z, e1, e2⟩ := ih fun d hd => h d (List.mem_append_left _ hd)
      refine ⟨bs, z + 1, by rw [e1, List.append_assoc, List.replicate_succ'], ?_⟩
      rw [List.map_append]
      show rstripL 48 (ys.map dg ++ [48]) = _
      rw [rstripL_more, e2]
    · refine ⟨ys ++ [y], 0, by simp, ?_⟩
      rw [List.map_append]
      exact rstripL_end (fun e => h0 (hy.2.2.2.2.2.2.2.2.2.1.mp e)) _
/-- digits ahead of a point and behind it -/
def ptL (ah bh : List Nat) (dot : Bool) : List Nat := ah.map dg ++ (if dot then 46 :: bh.map dg else [])
structure PtB (b : Int) (ah bh : List Nat) (dot : Bool) : Prop where
  nodot : dot = false → bh = []
  da : ∀ d ∈ ah, (d : Int) < b
  db : ∀ d ∈ bh, (d : Int) < b
  la : ah.length ≤ 6
  lb : bh.length ≤ 6
  ne : ah ++ bh ≠ []
  lead : ah = [] → b = 10 ∧ hornI 10 bh ≠ 0
theorem in_dg {b : Int} (hb2 : b ≤ 16) {ds : List Nat} (h : ∀ d ∈ ds, (d : Int) < b) {c : Nat} (hc : c ∈ ds.map dg) : ∃ d : Nat, d < 16 ∧ (d : Int) < b ∧ c = dg d := by
  obtain ⟨d, hd, rfl⟩ := List.mem_map.mp hc
  have := h d hd
  exact ⟨d, by omega, this, rfl⟩
/-- what stands in a text ahead of its exponent -/
def Sgn (b : Int) (c : Nat) : Prop := c = 45 ∨ c = 46 ∨ c = 48 ∨ c = 98 ∧ b = 2 ∨ c = 111 ∧ b = 8 ∨ c = 120 ∧ b = 16 ∨ ∃ d : Nat, d < 16 ∧ (d : Int) < b ∧ c = dg d
theorem sgn_pl {b : Int} {pl : List Nat} (hb : BaseP b pl) {c : Nat} (h : c ∈ pl) : Sgn b c := by
  rcases hb with ⟨rfl, rfl⟩ | ⟨rfl, rfl⟩ | ⟨rfl, rfl⟩ | ⟨rfl, rfl⟩
  · cases h
  all_goals
    simp only [List.mem_cons, List.not_mem_nil, or_false] at h
    unfold Sgn
    rcases h with rfl | rfl <;> simp
theorem sgn_head {b : Int} {pl : List Nat} (hb : BaseP b pl) {mi : Bool} {ds : List Nat} (h : ∀ d ∈ ds, (d : Int) < b) {c : Nat} (hc : c ∈ sgL mi ++ (pl ++ ds.map dg)) : Sgn b c := by
  rcases List.mem_append.mp hc with hc | hc
  · cases mi
    · cases hc
    · exact Or.inl (List.mem_singleton.mp hc)
  · rcases List.mem_append.mp hc with hc | hc
    · exact sgn_pl hb hc
    · exact Or.inr (Or.inr (Or.inr (Or.inr (Or.inr (Or.inr (in_dg (baseP_le hb).2 h hc))))))
theorem sgn_pt {b : Int} {pl : List Nat} (hb : BaseP b pl) {mi : Bool} {ah bh : List Nat} {dot : Bool} (P : PtB b ah bh dot) {c : Nat} (hc : c ∈ sgL mi ++ (pl ++ ptL ah bh dot)) : Sgn b c := by
  rcases List.mem_append.mp hc with hc | hc
  · exact sgn_head hb (ds := []) (mi := mi) (by simp) (by simp; exact Or.inl hc)
  · rcases List.mem_append.mp hc with hc | hc
    · exact sgn_pl hb hc
    · unfold ptL at hc
      rcases List.mem_append.mp hc with hc | hc
      · exact sgn_head hb (mi := mi) P.da (List.mem_append_right _ (List.mem_append_right _ hc))
      · cases dot
        · cases hc
        · rcases List.mem_cons.mp hc with rfl | hc
          · exact Or.inr (Or.inl rfl)
          · exact sgn_head hb (mi := mi) P.db (List.mem_append_right _ (List.mem_append_right _ hc))
theorem sgn_not {b : Int} {c : Nat} (h : Sgn b c) : c ≠ 47 ∧ c ≠ 64 ∧ c ≠ 112 ∧ (c = 101 → b = 15 ∨ b = 16 ∨ 16 < b) ∧ okc c = true ∧ (b = 10 → c ≠ 98 ∧ c ≠ 66 ∧ c ≠ 120 ∧ c ≠ 88 ∧ c ≠ 111) := by
  rcases h with rfl | rfl | rfl | ⟨rfl, hb⟩ | ⟨rfl, hb⟩ | ⟨rfl, hb⟩ | ⟨d, h1, h2, rfl⟩
  · exact ⟨by decide, by decide, by decide, (fun h => absurd h (by decide)), by decide, fun _ => by decide⟩
  · exact ⟨by decide, by decide, by decide, (fun h => absurd h (by decide)), by decide, fun _ => by decide⟩
  · exact ⟨by decide, by decide, by decide, (fun h => absurd h (by decide)), by decide, fun _ => by decide⟩
  · exact ⟨by decide, by decide, by decide, (fun h => absurd h (by decide)), by decide, fun h => by omega⟩
  · exact ⟨by decide, by decide, by decide, (fun h => absurd h (by decide)), by decide, fun h => by omega⟩
  · exact ⟨by decide, by decide, by decide, (fun h => absurd h (by decide)), by decide, fun h => by omega⟩
  · have f := dg_facts h1
    have k : ∀ d, d < 16 → okc (dg d) = true ∧ (d < 10 → dg d ≠ 98 ∧ dg d ≠ 66 ∧ dg d ≠ 120 ∧ dg d ≠ 88 ∧ dg d ≠ 111) := by decide
    refine ⟨f.2.2.2.2.2.1, f.2.2.2.2.2.2.2.1, f.2.2.2.2.2.2.2.2.1, fun h => ?_, (k d h1).1, fun h => (k d h1).2 (by omega)⟩
    have := f.2.2.2.2.2.2.2.2.2.2.mp h
    omega
theorem smeT_pt {b : Int} {pl : List Nat} (hb : BaseP b pl) {ah bh : List Nat} {dot : Bool} (P : PtB b ah bh dot) (mi : Bool) : ∃ bs z, bh = bs ++ List.replicate z 0 ∧
    ∀ (c : Nat) (k ex : Int), smeT b c k (sgL mi ++ (pl ++ ptL ah bh dot)) ex = some (sgI mi (hornI b (ah ++ bs)), ex - (if c = 112 then (bs.length : Int) * k else (bs.length : Int))) := by
  obtain ⟨hb1, hb2⟩ := baseP_le hb
  have h46 : ∀ (ds : List Nat), (∀ d ∈ ds, (d : Int) < b) → (46 : Nat) ∉ ds.map dg := fun ds h hc => by
    obtain ⟨d, h1, _, e⟩ := in_dg hb2 h hc
    exact (dg_facts h1).2.2.2.2.1 e.symm
  have h46p : (46 : Nat) ∉ sgL mi ++ (pl ++ ah.map dg) := fun hc => by
    rcases List.mem_append.mp hc with hc | hc
    · cases mi
      · cases hc
      · exact absurd (List.mem_singleton.mp hc) (by decide)
    · rcases List.mem_append.mp hc with hc | hc
      · rcases hb with ⟨_, rfl⟩ | ⟨_, rfl⟩ | ⟨_, rfl⟩ | ⟨_, rfl⟩ <;> (revert hc; decide)
      · exact h46 ah P.da hc
  cases dot with
  | false =>
    have e := P.nodot rfl
    subst e
    refine ⟨[], 0, rfl, fun c k ex => ?_⟩
    have e1 : ptL ah [] false = ah.map dg := by simp [ptL]
    rw [e1, smeT_o (fun a d e => by rw [splitL_free h46p] at e; cases e), intB_ok hb P.da (by have := P.ne; simpa using this) mi]
    simp
  | true =>
    obtain ⟨bs, z, e1, e2⟩ := trail bh fun d hd => by have := P.db d hd; omega
    refine ⟨bs, z, e1, fun c k ex => ?_⟩
    have hdb : ∀ d ∈ bs, (d : Int) < b := fun d hd => P.db d (by rw [e1]; exact List.mem_append_left _ hd)
    have e3 : sgL mi ++ (pl ++ ptL ah bh true) = (sgL mi ++ (pl ++ ah.map dg)) ++ 46 :: bh.map dg := by simp [ptL]
    have e4 : splitL 46 (sgL mi ++ (pl ++ ptL ah bh true)) = [sgL mi ++ (pl ++ ah.map dg), bh.map dg] := by
      rw [e3, splitL_cut h46p, splitL_free (h46 bh P.db)]
    rw [smeT_2 e4, e2]
    have key : intB b.toNat ((if sgL mi ++ (pl ++ ah.map dg) = [] then [48] else sgL mi ++ (pl ++ ah.map dg)) ++ bs.map dg) = some (sgI mi (hornI b (ah ++ bs))) := by
      by_cases ha : ah = []
      · obtain ⟨rfl, hn⟩ := P.lead ha
        subst ha
        have hp : pl = [] := by rcases hb with ⟨_, h⟩ | ⟨h, _⟩ | ⟨h, _⟩ | ⟨h, _⟩ <;> first | exact h | (exact absurd h (by decide))
        subst hp
        have hne : bs ≠ [] := fun h => hn (by rw [e1, h, List.nil_append, hornI_zeros])
        cases mi
        · have := intB_ok hb (ds := 0 :: bs) (fun d hd => by rcases List.mem_cons.mp hd with rfl | hd; · decide
                                                             · exact hdb d hd) (by simp) false
          rw [show hornI 10 (0 :: bs) = hornI 10 bs from rfl] at this
          exact this
        · exact intB_ok hb hdb hne true
      · rw [if_neg (by cases ah with
          | nil => exact absurd rfl ha
          | cons x r => simp)]
        have := intB_ok hb (ds := ah ++ bs) (fun d hd => (List.mem_append.mp hd).elim (P.da d) (hdb d)) (by simp [ha]) mi
        rw [List.map_append, ← List.append_assoc pl, ← List.append_assoc (sgL mi)] at this
        exact this
    rw [key]
    simp
/-- how str tells a whole number -/
def dcI (d : Int) : List Nat := ls (Str.ofString (toString d))
def plL (p : Bool) : List Nat := if p then [43] else []
theorem dc_all : ∀ k : Fin 79, intB 10 (dcI ((k.val : Int) - 39)) = some ((k.val : Int) - 39) ∧ (39 ≤ k.val → intB 10 (43 :: dcI ((k.val : Int) - 39)) = some ((k.val : Int) - 39)) ∧
    (∀ c ∈ dcI ((k.val : Int) - 39), c = 45 ∨ (48 ≤ c ∧ c ≤ 57)) ∧ (dcI ((k.val : Int) - 39)).length ≤ 3 ∧ (∃ t z, dcI ((k.val : Int) - 39) = t ++ [z] ∧ (48 ≤ z ∧ z ≤ 57)) := by
  have h : ∀ k : Fin 79, intB 10 (dcI ((k.val : Int) - 39)) = some ((k.val : Int) - 39) ∧ (39 ≤ k.val → intB 10 (43 :: dcI ((k.val : Int) - 39)) = some ((k.val : Int) - 39)) ∧
    (∀ c ∈ dcI ((k.val : Int) - 39), c = 45 ∨ (48 ≤ c ∧ c ≤ 57)) ∧ (dcI ((k.val : Int) - 39)).length ≤ 3 ∧ (dcI ((k.val : Int) - 39) = (dcI ((k.val : Int) - 39)).dropLast ++ [(dcI ((k.val : Int) - 39)).getLastD 0] ∧ (48 ≤ (dcI ((k.val : Int) - 39)).getLastD 0 ∧ (dcI ((k.val : Int) - 39)).getLastD 0 ≤ 57)) := by decide +kernel
  intro k
  obtain ⟨h1, h2, h3, h4, h5, h6⟩ := h k
  exact ⟨h1, h2, h3, h4, _, _, h5, h6⟩
theorem dc_ok {d : Int} (h1 : -39 ≤ d) (h2 : d ≤ 39) : intB 10 (dcI d) = some d ∧ (0 ≤ d → intB 10 (43 :: dcI d) = some d) ∧ (∀ c ∈ dcI d, c = 45 ∨ (48 ≤ c ∧ c ≤ 57)) ∧ (dcI d).length ≤ 3 ∧ (∃ t z, dcI d = t ++ [z] ∧ (48 ≤ z ∧ z ≤ 57)) := by
  have h := dc_all ⟨(d + 39).toNat, by omega⟩
  have e : (((d + 39).toNat : Nat) : Int) - 39 = d := by omega
  dsimp only at h
  rw [e] at h
  exact ⟨h.1, fun q => h.2.1 (by omega), h.2.2⟩
/-- an exponent's base and mark -/
def OwnP (b own : Int) (mk : Nat) : Prop := (own = b ∧ mk = if b = 16 then 64 else 101) ∨ ((b = 2 ∨ b = 16) ∧ own = 2 ∧ mk = 112)
/-- the text of a number, behind its minus -/
inductive NumT : List Nat → Int → Int → Prop where
  | ratio {b : Int} {pl os us : List Nat} : BaseP b pl → (∀ d ∈ os, (d : Int) < b) → (∀ d ∈ us, (d : Int) < b) → os ≠ [] → us ≠ [] → os.length ≤ 6 → us.length ≤ 6 → NumT (pl ++ os.map dg ++ 47 :: (pl ++ us.map dg)) (hornI b os) (hornI b us)
  | point {b : Int} {pl ah bh : List Nat} {dot : Bool} : BaseP b pl → PtB b ah bh dot → NumT (pl ++ ptL ah bh dot) (hornI b (ah ++ bh)) (b ^ bh.length)
  | expo {b own : Int} {mk : Nat} {pl ah bh : List Nat} {dot plus : Bool} {deep : Int} : BaseP b pl → PtB b ah bh dot → OwnP b own mk → -39 ≤ deep → deep ≤ 39 → (plus = true → 0 ≤ deep) →
      NumT (pl ++ ptL ah bh dot ++ mk :: (plL plus ++ dcI deep)) (hornI b (ah ++ bh) * own ^ deep.toNat) (b ^ bh.length * own ^ (-deep).toNat)
/-! the base of a text -/
theorem pre_not {p l : List Nat} (h : p.isPrefixOf l = true) {x : Nat} (hx : x ∈ p) : x ∈ l := (List.isPrefixOf_iff_prefix.mp h).subset hx
theorem any_false {α : Type} {f : α → Bool} {l : List α} (h : ∀ x ∈ l, f x ≠ true) : l.any f = false := by
  cases e : l.any f with
  | false => rfl
  | true =>
    obtain ⟨x, hx, hf⟩ := List.any_eq_true.mp e
    exact absurd hf (h x hx)
theorem base_10 {l : List Nat} (h : ∀ c ∈ l, c ≠ 98 ∧ c ≠ 66 ∧ c ≠ 120 ∧ c ≠ 88 ∧ c ≠ 111) : baseOf l = 10 := by
  have k : ∀ (ps : List (List Nat)), (∀ p ∈ ps, ∃ x ∈ p, x = 98 ∨ x = 66 ∨ x = 120 ∨ x = 88 ∨ x = 111) → (ps.any fun p => p.isPrefixOf l) = false := fun ps hp => any_false fun p hq e => by
    obtain ⟨x, hx, hh⟩ := hp p hq
    have := h x (pre_not e hx)
    omega
  exact baseOf_10 (k _ (by decide)) (k _ (by decide)) (k _ (by decide))
theorem base_is {b : Int} {pl : List Nat} (hb : BaseP b pl) (mi : Bool) (r : List Nat) (hr : b = 10 → ∀ c ∈ r, c ≠ 98 ∧ c ≠ 66 ∧ c ≠ 120 ∧ c ≠ 88 ∧ c ≠ 111) : baseOf (sgL mi ++ (pl ++ r)) = b := by
  rcases hb with ⟨rfl, rfl⟩ | ⟨rfl, rfl⟩ | ⟨rfl, rfl⟩ | ⟨rfl, rfl⟩
  · refine base_10 fun c hc => ?_
    rcases List.mem_append.mp hc with hc | hc
    · cases mi
      · cases hc
      · rw [List.mem_singleton.mp hc]; decide
    · exact hr rfl c hc
  · cases mi <;> exact baseOf_2 rfl
  · cases mi <;> exact baseOf_8 rfl rfl rfl
  · cases mi <;> exact baseOf_16 rfl rfl
/-! what is read -/
theorem pow2N_is (n e : Int) : pow2N n e = n * 2 ^ e.toNat := by
  unfold pow2N
  split
  · rfl
  · rw [show e.toNat = 0 from by omega]; simp
theorem pow2D_is (e : Int) : pow2D e = 2 ^ (-e).toNat := by
  unfold pow2D
  split
  · rw [show (-e).toNat = 0 from by omega]; rfl
  · rfl
theorem fsV_10 (l : List Nat) (n e : Int) : fsV 10 l n e = (n * 10 ^ e.toNat, 10 ^ (-e).toNat) := by
  by_cases h : 0 ≤ e
  · rw [fsV_10p h, show (-e).toNat = 0 from by omega]; rfl
  · rw [fsV_10n (by omega), show e.toNat = 0 from by omega]; simp
/-- one whole number over another, and the law's -/
structure Same (n d over under : Int) : Prop where
  u0 : 0 ≤ under
  zero : under = 0 → d = 0
  pos : under ≠ 0 → 0 < d ∧ n * under = over * d
theorem same_pow {B h w : Int} {i j u v : Nat} (hB : 0 < B) (e : i + v = u + j) : Same (h * B ^ i) (B ^ j) (h * B ^ u) (B ^ v) :=
  ⟨Int.le_of_lt (Int.pow_pos hB), fun q => absurd q (Int.ne_of_gt (Int.pow_pos hB)), fun _ => ⟨Int.pow_pos hB, by rw [Int.mul_assoc, ← Int.pow_add, e, Int.mul_assoc, ← Int.pow_add]⟩⟩
theorem sgI_mul (mi : Bool) (a b : Int) : sgI mi (a * b) = sgI mi a * b := by cases mi <;> simp [sgI, Int.neg_mul]
theorem same_own {b h deep : Int} {x z : Nat} (hb : 0 < b) {mi : Bool} : Same (sgI mi h * b ^ (deep - x).toNat) (b ^ (-(deep - x)).toNat) (sgI mi (h * b ^ z * b ^ deep.toNat)) (b ^ (x + z) * b ^ (-deep).toNat) := by
  rw [Int.mul_assoc, ← Int.pow_add, sgI_mul, ← Int.pow_add]
  exact same_pow (w := 0) hb (by omega)
theorem same_two {h deep k : Int} {x z kk : Nat} (hk : k = (kk : Int)) {b : Int} (hbk : b = 2 ^ kk) {mi : Bool} : Same (sgI mi h * 2 ^ (deep - x * k).toNat) (2 ^ (-(deep - x * k)).toNat) (sgI mi (h * b ^ z * 2 ^ deep.toNat)) (b ^ (x + z) * 2 ^ (-deep).toNat) := by
  subst hbk
  rw [← Int.pow_mul, ← Int.pow_mul, Int.mul_assoc, ← Int.pow_add, sgI_mul, ← Int.pow_add]
  refine same_pow (w := 0) (by decide) ?_
  rw [Nat.mul_add]
  subst hk
  have : (x : Int) * (kk : Int) = ((kk * x : Nat) : Int) := by simp [Int.mul_comm]
  rw [this]
  omega
theorem pow_own {kk : Nat} {b e : Int} (hbk : b = 2 ^ kk) : (2 : Int) ^ (e * kk).toNat = b ^ e.toNat := by
  subst hbk
  rw [← Int.pow_mul]
  congr 1
  rcases Int.le_total 0 e with h | h
  · obtain ⟨n, rfl⟩ := Int.eq_ofNat_of_zero_le h
    rw [← Int.natCast_mul, Int.toNat_natCast, Int.toNat_natCast, Nat.mul_comm]
  · have : e * (kk : Int) ≤ 0 := Int.mul_nonpos_of_nonpos_of_nonneg h (by omega)
    rw [show e.toNat = 0 from by omega, show (e * (kk : Int)).toNat = 0 from by omega, Nat.mul_zero]
theorem fsV_own {b e n : Int} {l : List Nat} (hb : b = 2 ∨ b = 8 ∨ b = 16) (h : 112 ∉ l) : fsV b l n e = (n * b ^ e.toNat, b ^ (-e).toNat) := by
  have k : ∃ kk : Nat, b = 2 ^ kk ∧ e2Of b = (kk : Int) ∧ b ≠ 10 := by
    rcases hb with rfl | rfl | rfl
    · exact ⟨1, by decide, by decide, by decide⟩
    · exact ⟨3, by decide, by decide, by decide⟩
    · exact ⟨4, by decide, by decide, by decide⟩
  obtain ⟨kk, h1, h2, h3⟩ := k
  rw [fsV_e h3 h h2, pow2N_is, pow2D_is, pow_own h1, ← Int.neg_mul, pow_own h1]
end Mine

namespace Mine
open PySem.NumText
/-! every built text is read as the law tells it -/
def Sg2 (b : Int) (c : Nat) : Prop := Sgn b c ∨ c = 47 ∨ c = 43 ∨ c = 64 ∨ c = 101 ∨ c = 112 ∨ (48 ≤ c ∧ c ≤ 57)
theorem sg2_ok {b : Int} {c : Nat} (h : Sg2 b c) : okc c = true ∧ (b = 10 → c ≠ 98 ∧ c ≠ 66 ∧ c ≠ 120 ∧ c ≠ 88 ∧ c ≠ 111) := by
  rcases h with h | rfl | rfl | rfl | rfl | rfl | h
  · have := sgn_not h
    exact ⟨this.2.2.2.2.1, this.2.2.2.2.2⟩
  · exact ⟨by decide, fun _ => by decide⟩
  · exact ⟨by decide, fun _ => by decide⟩
  · exact ⟨by decide, fun _ => by decide⟩
  · exact ⟨by decide, fun _ => by decide⟩
  · exact ⟨by decide, fun _ => by decide⟩
  · refine ⟨?_, fun _ => by omega⟩
    unfold okc
    simp only [Bool.or_eq_true, Bool.and_eq_true, decide_eq_true_eq, beq_iff_eq]
    omega
theorem tx_of {b : Int} {pl r : List Nat} (hb : BaseP b pl) (mi : Bool) (hr : ∀ c ∈ r, Sg2 b c) (hdig : ∃ c ∈ pl ++ r, 48 ≤ c ∧ c ≤ 57)
    (hlast : ∃ t z, r = t ++ [z] ∧ z ≠ 47 ∧ z ≠ 64 ∧ z ≠ 112 ∧ (b = 16 ∨ z ≠ 101)) : Tx b (sgL mi ++ (pl ++ r)) where
  ok := fun c hc => by
    rcases List.mem_append.mp hc with hc | hc
    · cases mi
      · cases hc
      · rw [List.mem_singleton.mp hc]; decide
    · rcases List.mem_append.mp hc with hc | hc
      · exact (sgn_not (sgn_pl hb hc)).2.2.2.2.1
      · exact (sg2_ok (hr c hc)).1
  dig := by
    obtain ⟨c, hc, h⟩ := hdig
    exact ⟨c, List.mem_append_right _ hc, h⟩
  last := by
    obtain ⟨t, z, e, h⟩ := hlast
    exact ⟨sgL mi ++ (pl ++ t), z, by rw [e]; simp, h⟩
  base := fun s hs => by
    rw [List.append_assoc, List.append_assoc]
    refine base_is hb mi _ fun h c hc => ?_
    rcases List.mem_append.mp hc with hc | hc
    · exact (sg2_ok (hr c hc)).2 h
    · exact hs c hc
theorem tx_st {b : Int} {l m : List Nat} (T : Tx b l) (hm : m = l ∨ m = l.map up1) : stripL (m.map lo1) = l ∧ stripL ((32 :: 32 :: m).map lo1) = l ∧ stripL ((m ++ [32]).map lo1) = l := by
  have hf := fun c hc => okc_facts (T.ok c hc)
  have e : m.map lo1 = l := by
    rcases hm with rfl | rfl
    · exact map_lo fun c hc => (hf c hc).1
    · exact map_up fun c hc => (hf c hc).2.1
  have hs : ∀ c ∈ l, Unicode.isSpace c = false := fun c hc => (hf c hc).2.2.2.1
  refine ⟨by rw [e]; exact stripL_plain hs, ?_, ?_⟩
  · rw [List.map_cons, List.map_cons, e]; exact stripL_ahead hs
  · rw [List.map_append, e]; exact stripL_behind hs
theorem FsOk.at {l0 l : List Nat} (h : FsOk l l) (st : stripL (l0.map lo1) = l) : FsOk l0 l := ⟨st, h.sp, h.lo, h.rs, h.un, h.fr, h.sm⟩
theorem tx_fs {b : Int} {l : List Nat} (T : Tx b l) (fr : ∀ p q n d, splitL 47 l = [p, q] → intB b.toNat (rstripL 108 p) = some n → intB b.toNat (rstripL 108 q) = some d → 0 ≤ d ∧ bl n ≤ 8000 ∧ bl d ≤ 8000)
    (sm : ∀ n e, smeF b (sepOf b l) (e2Of b) l = some (n, e) → bl n ≤ 8000 ∧ -400 ≤ e ∧ e ≤ 400) : baseOf l = b ∧ FsOk l l := by
  have hf := fun c hc => okc_facts (T.ok c hc)
  have hb : baseOf l = b := by have := T.base [] (by simp); rwa [List.append_nil] at this
  obtain ⟨c, hc, hd⟩ := T.dig
  exact ⟨hb, (tx_st T (Or.inl rfl)).1, sp_not hc hd, map_lo fun c hc => (hf c hc).1, rs_of fun c hc => (hf c hc).2.2.2.2.2.1, fun h => (hf _ h).2.2.2.2.1 rfl, by rw [hb]; exact fr, by rw [hb]; exact sm⟩
theorem dig_ex {b : Int} {pl : List Nat} (hb : BaseP b pl) {ds r : List Nat} (hd : ∀ d ∈ ds, (d : Int) < b) (hne : ds ≠ []) (hr : ∀ c ∈ ds.map dg, c ∈ r) : ∃ c ∈ pl ++ r, 48 ≤ c ∧ c ≤ 57 := by
  rcases hb with ⟨rfl, rfl⟩ | ⟨rfl, rfl⟩ | ⟨rfl, rfl⟩ | ⟨rfl, rfl⟩
  · cases ds with
    | nil => exact absurd rfl hne
    | cons d ds =>
      have h := hd d (List.mem_cons_self ..)
      refine ⟨dg d, by simpa using hr (dg d) (by simp), ?_⟩
      unfold dg
      rw [if_pos (by omega)]
      omega
  all_goals exact ⟨48, by simp, by decide, by decide⟩
theorem last_dg {b : Int} {pl : List Nat} (hb : BaseP b pl) {ds : List Nat} (hd : ∀ d ∈ ds, (d : Int) < b) (hne : ds ≠ []) : ∃ t z, ds.map dg = t ++ [z] ∧ z ≠ 47 ∧ z ≠ 64 ∧ z ≠ 112 ∧ (b = 16 ∨ z ≠ 101) := by
  obtain ⟨t, z, e⟩ : ∃ t z, ds.map dg = t ++ [z] := by
    have h : ds.map dg ≠ [] := by simpa using hne
    exact ⟨_, _, (List.dropLast_concat_getLast h).symm⟩
  refine ⟨t, z, e, ?_⟩
  have hs := sgn_not (b := b) (c := z) (Or.inr (Or.inr (Or.inr (Or.inr (Or.inr (Or.inr (in_dg (baseP_le hb).2 hd (c := z) (by rw [e]; simp))))))))
  refine ⟨hs.1, hs.2.1, hs.2.2.1, ?_⟩
  by_cases h : z = 101
  · left
    have := hs.2.2.2.1 h
    rcases hb with ⟨rfl, _⟩ | ⟨rfl, _⟩ | ⟨rfl, _⟩ | ⟨rfl, _⟩ <;> omega
  · exact Or.inr h
/-- all that the walk wants of a text -/
structure NumOk (l : List Nat) (over under : Int) : Prop where
  tx : ∃ b, Tx b l
  ok : FsOk l l
  val : ∃ n d, fsF (baseOf l) l = some (n, d) ∧ Same n d over under
theorem sgn_dg {b : Int} (hb2 : b ≤ 16) {ds : List Nat} (h : ∀ d ∈ ds, (d : Int) < b) {c : Nat} (hc : c ∈ ds.map dg) : Sgn b c := Or.inr (Or.inr (Or.inr (Or.inr (Or.inr (Or.inr (in_dg hb2 h hc))))))
theorem num_ratio {b : Int} {pl os us : List Nat} (hb : BaseP b pl) (ho : ∀ d ∈ os, (d : Int) < b) (hu : ∀ d ∈ us, (d : Int) < b) (hos : os ≠ []) (hus : us ≠ []) (lo : os.length ≤ 6) (lu : us.length ≤ 6) (mi : Bool) :
    NumOk (sgL mi ++ (pl ++ os.map dg ++ 47 :: (pl ++ us.map dg))) (sgI mi (hornI b os)) (hornI b us) := by
  obtain ⟨hb1, hb2⟩ := baseP_le hb
  have e0 : sgL mi ++ (pl ++ os.map dg ++ 47 :: (pl ++ us.map dg)) = sgL mi ++ (pl ++ (os.map dg ++ 47 :: (pl ++ us.map dg))) := by simp
  have T : Tx b (sgL mi ++ (pl ++ os.map dg ++ 47 :: (pl ++ us.map dg))) := by
    rw [e0]
    refine tx_of hb mi (fun c hc => ?_) (dig_ex hb ho hos fun c hc => List.mem_append_left _ hc) ?_
    · rcases List.mem_append.mp hc with hc | hc
      · exact Or.inl (sgn_dg hb2 ho hc)
      · rcases List.mem_cons.mp hc with rfl | hc
        · exact Or.inr (Or.inl rfl)
        · rcases List.mem_append.mp hc with hc | hc
          · exact Or.inl (sgn_pl hb hc)
          · exact Or.inl (sgn_dg hb2 hu hc)
    · obtain ⟨t, z, e, h⟩ := last_dg hb hu hus
      exact ⟨os.map dg ++ 47 :: (pl ++ t), z, by rw [e]; simp, h⟩
  have hsp : splitL 47 (sgL mi ++ (pl ++ os.map dg ++ 47 :: (pl ++ us.map dg))) = [sgL mi ++ (pl ++ os.map dg), pl ++ us.map dg] := by
    rw [← List.append_assoc, splitL_cut (fun h => (sgn_not (sgn_head hb (mi := mi) ho h)).1 rfl), splitL_free (l := pl ++ us.map dg) (fun h => (sgn_not (sgn_head hb (mi := false) hu h)).1 rfl)]
  have h108 : ∀ (m : Bool) (ds : List Nat), (∀ d ∈ ds, (d : Int) < b) → rstripL 108 (sgL m ++ (pl ++ ds.map dg)) = sgL m ++ (pl ++ ds.map dg) := fun m ds h => rs_of fun c hc => by
    have := sgn_not (sgn_head hb (mi := m) h hc)
    exact (okc_facts this.2.2.2.2.1).2.2.2.2.2.1
  have i1 : intB b.toNat (rstripL 108 (sgL mi ++ (pl ++ os.map dg))) = some (sgI mi (hornI b os)) := by rw [h108 mi os ho]; exact intB_ok hb ho hos mi
  have i2 : intB b.toNat (rstripL 108 (pl ++ us.map dg)) = some (hornI b us) := by
    have := h108 false us hu
    rw [show sgL false ++ (pl ++ us.map dg) = pl ++ us.map dg from rfl] at this
    rw [this]; exact intB_ok hb hu hus false
  have h47 : (47 : Nat) ∈ sgL mi ++ (pl ++ os.map dg ++ 47 :: (pl ++ us.map dg)) := by simp
  have hbo := base_pos (sgL mi ++ (pl ++ os.map dg ++ 47 :: (pl ++ us.map dg)))
  obtain ⟨hbase, hok⟩ := tx_fs T (fun p q n d e h1 h2 => by
    rw [hsp] at e
    cases e
    rw [i1] at h1; rw [i2] at h2
    cases h1; cases h2
    exact ⟨(hornI_bound hb1 hb2 us hu).1, horn_small hb1 hb2 ho (by omega) mi, horn_small hb1 hb2 hu (by omega) false⟩) (fun n e h => by
    rw [smeF_bad (x := 47) (bad_47 (by omega)) (bad_47 (by decide)) (by rcases sep_is b (sgL mi ++ (pl ++ os.map dg ++ 47 :: (pl ++ us.map dg))) with h | h | h <;> rw [h] <;> decide) (by decide) (by decide) h47] at h
    cases h)
  refine ⟨⟨b, T⟩, hok, sgI mi (hornI b os), hornI b us, ?_, (hornI_bound hb1 hb2 us hu).1, id, fun h => ⟨by have := (hornI_bound hb1 hb2 us hu).1; omega, rfl⟩⟩
  rw [hbase]
  exact fsF_2 h47 hsp i1 i2
theorem base_cases {b : Int} {pl : List Nat} (hb : BaseP b pl) : b = 10 ∨ b = 2 ∨ b = 8 ∨ b = 16 := by
  rcases hb with ⟨h, _⟩ | ⟨h, _⟩ | ⟨h, _⟩ | ⟨h, _⟩
  · exact Or.inl h
  · exact Or.inr (Or.inl h)
  · exact Or.inr (Or.inr (Or.inl h))
  · exact Or.inr (Or.inr (Or.inr h))
theorem fsV_b {b : Int} (hb : b = 10 ∨ b = 2 ∨ b = 8 ∨ b = 16) {l : List Nat} (h : 112 ∉ l) (n e : Int) : fsV b l n e = (n * b ^ e.toNat, b ^ (-e).toNat) := by
  rcases hb with rfl | hb
  · exact fsV_10 l n e
  · exact fsV_own hb h
theorem sep_plain {b : Int} (hb : b = 10 ∨ b = 2 ∨ b = 8 ∨ b = 16) {l : List Nat} (h : 112 ∉ l) : sepOf b l = if b = 16 then 64 else 101 := by
  unfold sepOf
  rw [if_neg (fun q => h q.2)]
  rcases hb with rfl | rfl | rfl | rfl <;> decide
section
variable {b : Int} {pl ah bh : List Nat} {dot : Bool}
theorem pt_last (hb : BaseP b pl) (P : PtB b ah bh dot) : ∃ t z, ptL ah bh dot = t ++ [z] ∧ z ≠ 47 ∧ z ≠ 64 ∧ z ≠ 112 ∧ (b = 16 ∨ z ≠ 101) := by
  unfold ptL
  cases dot with
  | false =>
    have e := P.nodot rfl
    subst e
    obtain ⟨t, z, e, h⟩ := last_dg hb P.da (by have := P.ne; simpa using this)
    exact ⟨t, z, by rw [e]; simp, h⟩
  | true =>
    by_cases hbh : bh = []
    · subst hbh
      exact ⟨ah.map dg, 46, by simp, by decide, by decide, by decide, Or.inr (by decide)⟩
    · obtain ⟨t, z, e, h⟩ := last_dg hb P.db hbh
      exact ⟨ah.map dg ++ 46 :: t, z, by rw [if_pos rfl, e]; simp, h⟩
theorem pt_sgn (hb : BaseP b pl) (P : PtB b ah bh dot) {c : Nat} (h : c ∈ ptL ah bh dot) : Sgn b c := sgn_pt hb (mi := false) P (List.mem_append_right _ (List.mem_append_right _ h))
theorem pt_dig (hb : BaseP b pl) (P : PtB b ah bh dot) (r : List Nat) : ∃ c ∈ pl ++ (ptL ah bh dot ++ r), 48 ≤ c ∧ c ≤ 57 := by
  refine dig_ex hb (ds := ah ++ bh) (fun d hd => (List.mem_append.mp hd).elim (P.da d) (P.db d)) P.ne fun c hc => ?_
  rw [List.map_append] at hc
  refine List.mem_append_left _ ?_
  unfold ptL
  rcases List.mem_append.mp hc with hc | hc
  · exact List.mem_append_left _ hc
  · cases dot with
    | false => rw [P.nodot rfl] at hc; cases hc
    | true => exact List.mem_append_right _ (List.mem_cons_of_mem _ hc)
theorem pt_free (hb : BaseP b pl) (P : PtB b ah bh dot) (mi : Bool) : (47 : Nat) ∉ sgL mi ++ (pl ++ ptL ah bh dot) ∧ (64 : Nat) ∉ sgL mi ++ (pl ++ ptL ah bh dot) ∧ (112 : Nat) ∉ sgL mi ++ (pl ++ ptL ah bh dot) ∧ (b ≠ 16 → (101 : Nat) ∉ sgL mi ++ (pl ++ ptL ah bh dot)) :=
  ⟨fun h => (sgn_not (sgn_pt hb P h)).1 rfl, fun h => (sgn_not (sgn_pt hb P h)).2.1 rfl, fun h => (sgn_not (sgn_pt hb P h)).2.2.1 rfl, fun h16 h => by
    have := (sgn_not (sgn_pt hb P h)).2.2.2.1 rfl
    have := baseP_le hb
    rcases base_cases hb with h | h | h | h <;> omega⟩
theorem pt_sep (hb : BaseP b pl) (P : PtB b ah bh dot) (mi : Bool) : (if b = 16 then 64 else 101) ∉ sgL mi ++ (pl ++ ptL ah bh dot) := by
  obtain ⟨_, h2, _, h4⟩ := pt_free hb P mi
  split
  · exact h2
  · rename_i h; exact h4 h
theorem num_point (hb : BaseP b pl) (P : PtB b ah bh dot) (mi : Bool) : NumOk (sgL mi ++ (pl ++ ptL ah bh dot)) (sgI mi (hornI b (ah ++ bh))) (b ^ bh.length) := by
  obtain ⟨hb1, hb2⟩ := baseP_le hb
  have hbc := base_cases hb
  have T : Tx b (sgL mi ++ (pl ++ ptL ah bh dot)) := tx_of hb mi (fun c hc => Or.inl (pt_sgn hb P hc)) (by simpa using pt_dig hb P []) (pt_last hb P)
  obtain ⟨f47, _, f112, _⟩ := pt_free hb P mi
  obtain ⟨bs, z, e1, hT⟩ := smeT_pt hb P mi
  have hc : (if b = 16 then 64 else 101) ≠ 112 := by split <;> decide
  have hsme : smeF b (sepOf b (sgL mi ++ (pl ++ ptL ah bh dot))) (e2Of b) (sgL mi ++ (pl ++ ptL ah bh dot)) = some (sgI mi (hornI b (ah ++ bs)), 0 - (bs.length : Int)) := by
    rw [sep_plain hbc f112, smeF_1 (splitL_free (pt_sep hb P mi)), hT, if_neg hc]
  have hlb : bs.length ≤ 6 := by have := P.lb; rw [e1, List.length_append] at this; omega
  have hdb : ∀ d ∈ ah ++ bs, (d : Int) < b := fun d hd => (List.mem_append.mp hd).elim (P.da d) fun h => P.db d (by rw [e1]; exact List.mem_append_left _ h)
  obtain ⟨hbase, hok⟩ := tx_fs T (fun p q n d e _ _ => by rw [splitL_free f47] at e; cases e) (fun n e h => by
    rw [hsme] at h
    cases h
    exact ⟨horn_small hb1 hb2 hdb (by rw [List.length_append]; have := P.la; omega) mi, by omega, by omega⟩)
  refine ⟨⟨b, T⟩, hok, _, _, by rw [hbase, fsF_s f47 hsme, fsV_b hbc f112], ?_⟩
  have hs := same_own (b := b) (h := hornI b (ah ++ bs)) (deep := 0) (x := bs.length) (z := z) (by omega) (mi := mi)
  have e2 : hornI b (ah ++ bh) = hornI b (ah ++ bs) * b ^ z := by rw [e1, ← List.append_assoc, hornI_more]
  have e3 : bh.length = bs.length + z := by rw [e1, List.length_append, List.length_replicate]
  rw [e2, e3]
  simpa using hs
theorem num_expo {own : Int} {mk : Nat} {plus : Bool} {deep : Int} (hb : BaseP b pl) (P : PtB b ah bh dot) (O : OwnP b own mk) (h1 : -39 ≤ deep) (h2 : deep ≤ 39) (hp : plus = true → 0 ≤ deep) (mi : Bool) :
    NumOk (sgL mi ++ (pl ++ ptL ah bh dot ++ mk :: (plL plus ++ dcI deep))) (sgI mi (hornI b (ah ++ bh) * own ^ deep.toNat)) (b ^ bh.length * own ^ (-deep).toNat) := by
  obtain ⟨hb1, hb2⟩ := baseP_le hb
  have hbc := base_cases hb
  obtain ⟨d1, d2, d3, _, t, z', d5, d6⟩ := dc_ok h1 h2
  have hex : ∀ c ∈ plL plus ++ dcI deep, c = 43 ∨ c = 45 ∨ (48 ≤ c ∧ c ≤ 57) := fun c hc => by
    rcases List.mem_append.mp hc with hc | hc
    · cases plus
      · cases hc
      · exact Or.inl (List.mem_singleton.mp hc)
    · exact Or.inr (d3 c hc)
  have hint : intB 10 (plL plus ++ dcI deep) = some deep := by
    cases plus
    · exact d1
    · exact d2 (hp rfl)
  have hmk : mk = 64 ∨ mk = 101 ∨ mk = 112 := by
    rcases O with ⟨_, h⟩ | ⟨_, _, h⟩
    · rw [h]; split
      · exact Or.inl rfl
      · exact Or.inr (Or.inl rfl)
    · exact Or.inr (Or.inr h)
  have hmex : mk ∉ plL plus ++ dcI deep := fun h => by have := hex mk h; omega
  have e0 : sgL mi ++ (pl ++ ptL ah bh dot ++ mk :: (plL plus ++ dcI deep)) = sgL mi ++ (pl ++ (ptL ah bh dot ++ mk :: (plL plus ++ dcI deep))) := by simp
  have e0' : sgL mi ++ (pl ++ ptL ah bh dot ++ mk :: (plL plus ++ dcI deep)) = (sgL mi ++ (pl ++ ptL ah bh dot)) ++ mk :: (plL plus ++ dcI deep) := by simp
  have T : Tx b (sgL mi ++ (pl ++ ptL ah bh dot ++ mk :: (plL plus ++ dcI deep))) := by
    rw [e0]
    refine tx_of hb mi (fun c hc => ?_) (pt_dig hb P _) ⟨ptL ah bh dot ++ mk :: (plL plus ++ t), z', by rw [d5]; simp, by omega, by omega, by omega, Or.inr (by omega)⟩
    rcases List.mem_append.mp hc with hc | hc
    · exact Or.inl (pt_sgn hb P hc)
    · rcases List.mem_cons.mp hc with rfl | hc
      · rcases hmk with rfl | rfl | rfl
        · exact Or.inr (Or.inr (Or.inr (Or.inl rfl)))
        · exact Or.inr (Or.inr (Or.inr (Or.inr (Or.inl rfl))))
        · exact Or.inr (Or.inr (Or.inr (Or.inr (Or.inr (Or.inl rfl)))))
      · rcases hex c hc with h | rfl | h
        · exact Or.inr (Or.inr (Or.inl h))
        · exact Or.inl (Or.inl rfl)
        · exact Or.inr (Or.inr (Or.inr (Or.inr (Or.inr (Or.inr h)))))
  obtain ⟨f47, f64, f112, f101⟩ := pt_free hb P mi
  obtain ⟨bs, z, e1, hT⟩ := smeT_pt hb P mi
  have hlb : bs.length ≤ 6 := by have := P.lb; rw [e1, List.length_append] at this; omega
  have hdb : ∀ d ∈ ah ++ bs, (d : Int) < b := fun d hd => (List.mem_append.mp hd).elim (P.da d) fun h => P.db d (by rw [e1]; exact List.mem_append_left _ h)
  have hsm : bl (sgI mi (hornI b (ah ++ bs))) ≤ 8000 := horn_small hb1 hb2 hdb (by rw [List.length_append]; have := P.la; omega) mi
  have e2 : hornI b (ah ++ bh) = hornI b (ah ++ bs) * b ^ z := by rw [e1, ← List.append_assoc, hornI_more]
  have e3 : bh.length = bs.length + z := by rw [e1, List.length_append, List.length_replicate]
  have g47 : (47 : Nat) ∉ sgL mi ++ (pl ++ ptL ah bh dot ++ mk :: (plL plus ++ dcI deep)) := by
    rw [e0']
    intro h
    rcases List.mem_append.mp h with h | h
    · exact f47 h
    · rcases List.mem_cons.mp h with h | h
      · omega
      · have := hex 47 h; omega
  rcases O with ⟨rfl, hm⟩ | ⟨hb3, rfl, rfl⟩
  · have hc : mk ≠ 112 := by rw [hm]; split <;> decide
    have g112 : (112 : Nat) ∉ sgL mi ++ (pl ++ ptL ah bh dot ++ mk :: (plL plus ++ dcI deep)) := by
      rw [e0']
      intro h
      rcases List.mem_append.mp h with h | h
      · exact f112 h
      · rcases List.mem_cons.mp h with h | h
        · omega
        · have := hex 112 h; omega
    have hsme : smeF own (sepOf own (sgL mi ++ (pl ++ ptL ah bh dot ++ mk :: (plL plus ++ dcI deep)))) (e2Of own) (sgL mi ++ (pl ++ ptL ah bh dot ++ mk :: (plL plus ++ dcI deep))) = some (sgI mi (hornI own (ah ++ bs)), deep - (bs.length : Int)) := by
      rw [sep_plain hbc g112, ← hm, smeF_2 (by rw [e0', splitL_cut (by rw [hm]; exact pt_sep hb P mi), splitL_free hmex]) hint, hT, if_neg hc]
    obtain ⟨hbase, hok⟩ := tx_fs T (fun p q n d e _ _ => by rw [splitL_free g47] at e; cases e) (fun n e h => by
      rw [hsme] at h
      cases h
      exact ⟨hsm, by omega, by omega⟩)
    refine ⟨⟨own, T⟩, hok, _, _, by rw [hbase, fsF_s g47 hsme, fsV_b hbc g112], ?_⟩
    rw [e2, e3]
    exact same_own (by omega)
  · have g112 : (112 : Nat) ∈ sgL mi ++ (pl ++ ptL ah bh dot ++ 112 :: (plL plus ++ dcI deep)) := by simp
    have hk : ∃ kk : Nat, b = 2 ^ kk ∧ e2Of b = (kk : Int) ∧ kk ≤ 4 ∧ b ≠ 10 := by
      rcases hb3 with rfl | rfl
      · exact ⟨1, by decide, by decide, by decide, by decide⟩
      · exact ⟨4, by decide, by decide, by decide, by decide⟩
    obtain ⟨kk, k1, k2, k3, k4⟩ := hk
    have hsep : sepOf b (sgL mi ++ (pl ++ ptL ah bh dot ++ 112 :: (plL plus ++ dcI deep))) = 112 := by unfold sepOf; rw [if_pos ⟨hb3, g112⟩]
    have hsme : smeF b (sepOf b (sgL mi ++ (pl ++ ptL ah bh dot ++ 112 :: (plL plus ++ dcI deep)))) (e2Of b) (sgL mi ++ (pl ++ ptL ah bh dot ++ 112 :: (plL plus ++ dcI deep))) = some (sgI mi (hornI b (ah ++ bs)), deep - (bs.length : Int) * e2Of b) := by
      rw [hsep, smeF_2 (by rw [e0', splitL_cut f112, splitL_free hmex]) hint, hT, if_pos rfl]
    obtain ⟨hbase, hok⟩ := tx_fs T (fun p q n d e _ _ => by rw [splitL_free g47] at e; cases e) (fun n e h => by
      rw [hsme] at h
      cases h
      have : (bs.length : Int) * e2Of b ≤ 6 * 4 := by
        rw [k2]
        have : (bs.length * kk : Nat) ≤ 6 * 4 := Nat.mul_le_mul hlb k3
        have e : (bs.length : Int) * (kk : Int) = ((bs.length * kk : Nat) : Int) := by simp
        omega
      have : 0 ≤ (bs.length : Int) * e2Of b := by rw [k2]; exact Int.mul_nonneg (by omega) (by omega)
      exact ⟨hsm, by omega, by omega⟩)
    refine ⟨⟨b, T⟩, hok, _, _, by rw [hbase, fsF_s g47 hsme, fsV_p k4 g112, pow2N_is, pow2D_is], ?_⟩
    rw [e2, e3]
    exact same_two k2 k1
end
theorem num_ok {body : List Nat} {over under : Int} (h : NumT body over under) (mi : Bool) : NumOk (sgL mi ++ body) (sgI mi over) under := by
  cases h with
  | ratio h1 h2 h3 h4 h5 h6 h7 => exact num_ratio h1 h2 h3 h4 h5 h6 h7 mi
  | point h1 h2 => exact num_point h1 h2 mi
  | expo h1 h2 h3 h4 h5 h6 => exact num_expo h1 h2 h3 h4 h5 h6 mi
end Mine

namespace Mine
open Builtin Builtin.Str
/-! rules for the law's own texts -/
section
variable {prog : Program} {w : World} {A : Around} {E : Value → Shared → Prop} {s : Shared} {Q : Value → Shared → Prop} {x y z : Str} {l m : List Nat} {t u v i : Tok} {n k : Nat}
/-- two texts that are not empty: a new one is made -/
theorem t_addP (hx : Tl n x l) (hy : Tl k y m) (hl : 0 < l.length) (hm : 0 < m.length) (hn : n + k ≤ 5000000) (h : ∀ v t' k', Tl (n + k) v (l ++ m) → 0 < (l ++ m).length → Q (.str v t') { s with toks := k' + 1 }) :
    wpAny (model prog w) A (binaryOp .Add (.str x t) (.str y u)) Q E s := by
  refine PySem.P.add_str ?_
  have h1 : (x.length == 0) = false := by rw [hx.len]; simpa using (by omega : l.length ≠ 0)
  have h2 : (y.length == 0) = false := by rw [hy.len]; simpa using (by omega : m.length ≠ 0)
  rw [h1, h2]
  exact ⟨by have q1 := hx.le; have q2 := hy.le; rw [Str.length_append, sizeLine_eq]; omega, h _ _ _ (hx.app hy) (by rw [List.length_append]; omega)⟩
theorem gives_replace1 (hu : u ≠ 0) (hv : v ≠ 0) (huv : u ≠ v) (hyz : (y == z) = false) (hl : tooLong (x.length + (occurrences x y 0 x.length 1).length * z.length) = false) :
    Gives («str.replace» ⟨[.str x t, .str y u, .str z v, .int 1 i], []⟩) (if ((occurrences x y 0 x.length 1).isEmpty || (y.length == 0 && z.length == 0)) = true then .val (.str x t) else .str (glued z (partsBetween x (occurrences x y 0 x.length 1) y.length))) := by
  show Gives (if ((occurrences x y 0 x.length 1).isEmpty || (y.length == 0 && z.length == 0)) = true then (do rule "str.replace.nothing"; ret (.str x t)) else
          (do let same ← isSame (.str y u) (.str z v)
              if same = true then (do rule "str.replace.old-is-new"; ret (.str x t)) else
              if tooLong (x.length + (occurrences x y 0 x.length 1).length * z.length) = true then unsupported "str.replace:memory" else
              retStr (glued z (partsBetween x (occurrences x y 0 x.length 1) y.length)))) _
  cases hc : ((occurrences x y 0 x.length 1).isEmpty || (y.length == 0 && z.length == 0))
  · rw [isSame_str_other y z u v (by simp [hu, hv]) (by simp [huv]) hyz, hl]
    exact .of_eq rfl
  · exact .rule (.of_eq rfl)
theorem ls_sub_mem {a b c : Nat} (h : c ∈ ls (strSub x a b)) : c ∈ ls x := by
  rw [ls_sub] at h
  exact List.mem_of_mem_drop (List.mem_of_mem_take h)
theorem ls_sub_len {a b : Nat} : (ls (strSub x a b)).length ≤ (ls x).length := by
  rw [ls_sub, List.length_take, List.length_drop]; omega
/-- the first 0 is made a z -/
theorem t_replace1 (hx : Tl n x l) (hn : n ≤ 1000) (hu : u ≠ 0) (hv : v ≠ 0) (huv : u ≠ v) (h : ∀ y' t' k' r, Tl (2 * n + 1) y' r → (∀ c ∈ r, c ∈ l ∨ c = 122) → Q (.str y' t') { s with toks := k' }) :
    wpAny (model prog w) A (call (.builtin "str.replace") [.str x t, .str (Str.ofString "0") u, .str (Str.ofString "z") v, .int 1 i]) Q E s := by
  have hlen := hx.le
  have hz : (Str.ofString "z").length = 1 := by decide +kernel
  have ho := StrLaws.occ_length_le x (Str.ofString "0") 0 x.length 1
  refine call_gives F.slot_str_replace (typeIs_str _ _ _) F.entry_str_replace (F.args_str_replace_4 _ _ _ _) (gives_replace1 hu hv huv (by decide +kernel) ?_) ?_
  · unfold tooLong
    rw [hz, sizeLine_eq]
    exact decide_eq_false (by omega)
  · cases hc : ((occurrences x (Str.ofString "0") 0 x.length 1).isEmpty || ((Str.ofString "0").length == 0 && (Str.ofString "z").length == 0))
    · rw [if_neg (by decide)]
      have e0 : ((Str.ofString "0").length == 0 && (Str.ofString "z").length == 0) = false := by decide +kernel
      rw [e0, Bool.or_false] at hc
      match hcu : occurrences x (Str.ofString "0") 0 x.length 1, hc, ho with
      | [a], _, _ =>
        have e1 : glued (Str.ofString "z") (partsBetween x [a] (Str.ofString "0").length) = strSub x 0 a ++ Str.ofString "z" ++ strSub x (a + (Str.ofString "0").length) x.length := rfl
        rw [e1]
        have e2 : ls (strSub x 0 a ++ Str.ofString "z" ++ strSub x (a + (Str.ofString "0").length) x.length) = ls (strSub x 0 a) ++ [122] ++ ls (strSub x (a + (Str.ofString "0").length) x.length) := by
          rw [ls_append, ls_append]; rfl
        have hT : Tl (2 * n + 1) (strSub x 0 a ++ Str.ofString "z" ++ strSub x (a + (Str.ofString "0").length) x.length) (ls (strSub x 0 a) ++ [122] ++ ls (strSub x (a + (Str.ofString "0").length) x.length)) := by
          refine ⟨e2, fun c hc => ?_, ?_⟩
          · rcases List.mem_append.mp hc with hc | hc
            · rcases List.mem_append.mp hc with hc | hc
              · exact hx.ok c (hx.is ▸ ls_sub_mem hc)
              · rw [List.mem_singleton.mp hc]; decide
            · exact hx.ok c (hx.is ▸ ls_sub_mem hc)
          · have q1 := ls_sub_len (x := x) (a := 0) (b := a)
            have q2 := ls_sub_len (x := x) (a := a + (Str.ofString "0").length) (b := x.length)
            have q3 := hx.short
            rw [hx.is] at q1 q2
            simp only [List.length_append, List.length_singleton]
            omega
        refine ⟨by rw [sizeLine_eq]; have := hT.le; omega, h _ _ _ _ hT fun c hc => ?_⟩
        rcases List.mem_append.mp hc with hc | hc
        · rcases List.mem_append.mp hc with hc | hc
          · exact Or.inl (hx.is ▸ ls_sub_mem hc)
          · exact Or.inr (List.mem_singleton.mp hc)
        · exact Or.inl (hx.is ▸ ls_sub_mem hc)
      | [], hc, _ => cases hc
      | _ :: _ :: _, _, ho => simp at ho
    · rw [if_pos rfl]
      exact h x t s.toks l (hx.mono (by omega)) fun c hc => Or.inl hc
end
section
variable {prog : Program} {w : World} {A : Around} {E : Value → Shared → Prop} {s : Shared} {Q : Value → Shared → Prop}
theorem item_strs {l : Addr} {xs : List (Str × Tok)} {k : Int} {u : Tok} {value slice : Expr} (P : Str → Prop) (hl : s.heap.IsList l (xs.map fun x => Value.str x.1 x.2).toArray) (h0 : 0 ≤ k) (h1 : k < (xs.length : Int)) (h2 : xs.length ≤ 100) (hP : ∀ x ∈ xs, P x.1) (h : ∀ y t, P y → Q (.str y t) s)
    (hs : subscripted slice false (.ref l) (.int k u) = operate [.ref l, .int k u] (getItem (.ref l) (.int k u)) := by with_unfolding_all rfl) :
    wpAny (model prog w) A (subscriptTail value slice (.ref l) (.int k u)) Q E s := by
  have hk : k.toNat < xs.length := by omega
  exact tail_any hl.typeIs slot_list_getitem.lookup (wpAny_getItem_list hl h0 (by omega) (x := Value.str xs[k.toNat].1 xs[k.toNat].2) (by simp [hk]) (h _ _ (hP _ (List.getElem_mem hk)))) hs
theorem item7 {l : Addr} {y0 y1 y2 y3 y4 y5 y6 : Str} {t0 t1 t2 t3 t4 t5 t6 : Tok} {k : Int} {u : Tok} {value slice : Expr} (P : Str → Prop) (hl : s.heap.IsList l #[.str y0 t0, .str y1 t1, .str y2 t2, .str y3 t3, .str y4 t4, .str y5 t5, .str y6 t6]) (h0 : 0 ≤ k) (h1 : k < 7) (p0 : P y0) (p1 : P y1) (p2 : P y2) (p3 : P y3) (p4 : P y4) (p5 : P y5) (p6 : P y6) (h : ∀ y t, P y → Q (.str y t) s)
    (hs : subscripted slice false (.ref l) (.int k u) = operate [.ref l, .int k u] (getItem (.ref l) (.int k u)) := by with_unfolding_all rfl) :
    wpAny (model prog w) A (subscriptTail value slice (.ref l) (.int k u)) Q E s :=
  item_strs (xs := [(y0, t0), (y1, t1), (y2, t2), (y3, t3), (y4, t4), (y5, t5), (y6, t6)]) P hl h0 h1 (by simp) (by
    intro x hx
    simp only [List.mem_cons, List.not_mem_nil, or_false] at hx
    rcases hx with rfl | rfl | rfl | rfl | rfl | rfl | rfl <;> assumption) h hs
theorem item3 {l : Addr} {y0 y1 y2 : Str} {t0 t1 t2 : Tok} {k : Int} {u : Tok} {value slice : Expr} (P : Str → Prop) (hl : s.heap.IsList l #[.str y0 t0, .str y1 t1, .str y2 t2]) (h0 : 0 ≤ k) (h1 : k < 3) (p0 : P y0) (p1 : P y1) (p2 : P y2) (h : ∀ y t, P y → Q (.str y t) s)
    (hs : subscripted slice false (.ref l) (.int k u) = operate [.ref l, .int k u] (getItem (.ref l) (.int k u)) := by with_unfolding_all rfl) :
    wpAny (model prog w) A (subscriptTail value slice (.ref l) (.int k u)) Q E s :=
  item_strs (xs := [(y0, t0), (y1, t1), (y2, t2)]) P hl h0 h1 (by simp) (by
    intro x hx
    simp only [List.mem_cons, List.not_mem_nil, or_false] at hx
    rcases hx with rfl | rfl | rfl <;> assumption) h hs
theorem way_item {k : Int} (h0 : 0 ≤ k) (h1 : k < 5) : WayOk (Txt.item (Str.ofString "nfcud") k) := by
  have hk : k = 0 ∨ k = 1 ∨ k = 2 ∨ k = 3 ∨ k = 4 := by omega
  rcases hk with rfl | rfl | rfl | rfl | rfl
  · exact Or.inl (by decide +kernel)
  · exact Or.inr (Or.inl (by decide +kernel))
  · exact Or.inr (Or.inr (Or.inl (by decide +kernel)))
  · exact Or.inr (Or.inr (Or.inr (Or.inl (by decide +kernel))))
  · exact Or.inr (Or.inr (Or.inr (Or.inr (by decide +kernel))))
end
/-- a text that the law spoils -/
def Spoilt (y : Str) : Prop := ∃ r, Tl 250 y r ∧ Refd r
theorem bl_1000 {n : Int} (h0 : 0 ≤ n) (h : n ≤ 16 ^ 60) : bl n ≤ 1000 := by
  obtain ⟨k, rfl⟩ := Int.eq_ofNat_of_zero_le h0
  have e : (16 : Int) ^ 60 = ((2 ^ 240 : Nat) : Int) := by decide
  rw [e] at h
  have h1 : k ≤ 2 ^ 240 := Int.ofNat_le.mp h
  have h2 : (2 : Nat) ^ 240 < 2 ^ 1000 := by decide +kernel
  exact bl_nat.mpr (Nat.lt_of_le_of_lt h1 h2)
theorem own_rng {b own : Int} {mk : Nat} {pl : List Nat} (hb : BaseP b pl) (O : OwnP b own mk) : 0 ≤ own ∧ own ≤ 16 := by
  have := baseP_le hb
  rcases O with ⟨h, _⟩ | ⟨_, h, _⟩ <;> omega
theorem pow_rng {o : Int} (h1 : 0 ≤ o) (h2 : o ≤ 16) : ∀ n : Nat, 0 ≤ o ^ n ∧ o ^ n ≤ 16 ^ n
  | 0 => by simp
  | n + 1 => by
    obtain ⟨a, b⟩ := pow_rng h1 h2 n
    rw [Int.pow_succ, Int.pow_succ]
    exact ⟨Int.mul_nonneg a h1, Int.mul_le_mul b h2 h1 (Int.le_of_lt (Int.pow_pos (by decide)))⟩
theorem mul_rng {a b : Int} {i j : Nat} (ha : 0 ≤ a ∧ a ≤ 16 ^ i) (hb : 0 ≤ b ∧ b ≤ 16 ^ j) : 0 ≤ a * b ∧ a * b ≤ 16 ^ (i + j) :=
  ⟨Int.mul_nonneg ha.1 hb.1, by rw [Int.pow_add]; exact Int.mul_le_mul ha.2 hb.2 hb.1 (Int.le_of_lt (Int.pow_pos (by decide)))⟩
theorem bl_rng {a : Int} {i : Nat} (h : 0 ≤ a ∧ a ≤ 16 ^ i) (hi : i ≤ 60) : 0 ≤ a ∧ bl a ≤ 1000 := ⟨h.1, bl_1000 h.1 (Int.le_trans h.2 (pow16 hi))⟩
theorem num_bounds {l : List Nat} {V U : Int} (h : NumT l V U) : (0 ≤ V ∧ bl V ≤ 1000) ∧ (0 ≤ U ∧ bl U ≤ 1000) := by
  have hh : ∀ {b : Int} {pl ds : List Nat}, BaseP b pl → (∀ d ∈ ds, (d : Int) < b) → 0 ≤ hornI b ds ∧ hornI b ds ≤ 16 ^ ds.length := fun hb hd => by
    obtain ⟨h1, h2⟩ := baseP_le hb
    obtain ⟨h3, h4⟩ := hornI_bound h1 h2 _ hd
    exact ⟨h3, Int.le_of_lt h4⟩
  cases h with
  | ratio h1 h2 h3 h4 h5 h6 h7 => exact ⟨bl_rng (hh h1 h2) (by omega), bl_rng (hh h1 h3) (by omega)⟩
  | point h1 P =>
    have hd := hh (ds := _ ++ _) h1 fun d hd => (List.mem_append.mp hd).elim (P.da d) (P.db d)
    have hl := P.la
    have hm := P.lb
    have hb := baseP_le h1
    exact ⟨bl_rng hd (by rw [List.length_append]; omega), bl_rng (pow_rng (by omega) hb.2 _) (by omega)⟩
  | expo h1 P O h4 h5 h6 =>
    have hd := hh (ds := _ ++ _) h1 fun d hd => (List.mem_append.mp hd).elim (P.da d) (P.db d)
    have hl := P.la
    have hm := P.lb
    have hb := baseP_le h1
    have ho := own_rng h1 O
    exact ⟨bl_rng (mul_rng hd (pow_rng ho.1 ho.2 _)) (by rw [List.length_append]; omega), bl_rng (mul_rng (pow_rng (by omega) hb.2 _) (pow_rng ho.1 ho.2 _)) (by omega)⟩
end Mine

section
namespace Mine
theorem hd__law_pointed : (Str.ofString "_law_pointed" == ("__debug__" : Str)) = false := by decide +kernel
theorem hd_deep : (Str.ofString "deep" == ("__debug__" : Str)) = false := by decide +kernel
theorem hd_mark : (Str.ofString "mark" == ("__debug__" : Str)) = false := by decide +kernel
theorem hd_over : (Str.ofString "over" == ("__debug__" : Str)) = false := by decide +kernel
theorem hd_own : (Str.ofString "own" == ("__debug__" : Str)) = false := by decide +kernel
theorem hd_prefix : (Str.ofString "prefix" == ("__debug__" : Str)) = false := by decide +kernel
theorem hd_str : (Str.ofString "str" == ("__debug__" : Str)) = false := by decide +kernel
theorem hd_under : (Str.ofString "under" == ("__debug__" : Str)) = false := by decide +kernel
theorem gl__law_pointed (P : Params) : nsIn (Mine.hd.heap_39 P) mainGlobals (Str.ofString "_law_pointed") = some (some (.ref 172)) := by kernel_rfl!
theorem bl_str (P : Params) : nsIn (Mine.hd.heap_39 P) mainGlobals (Str.ofString "str") = some none := by kernel_rfl!
theorem bv_str : bootBuiltins (Str.ofString "str") = some (.type "str") := by boot_by_name
theorem bn_str : (Str.ofString "str") ≠ ("__name__" : Str) := by decide +kernel
abbrev sc_zlaw_number : Scope := { kind := .function, names := [(Str.ofString "state", .local), (Str.ofString "base", .local), (Str.ofString "prefix", .local), (Str.ofString "over", .local), (Str.ofString "under", .local), (Str.ofString "text", .local), (Str.ofString "deep", .local), (Str.ofString "own", .local), (Str.ofString "mark", .local), (Str.ofString "_law_draw", .globalImplicit), (Str.ofString "_law_digits", .globalImplicit), (Str.ofString "_law_value", .globalImplicit), (Str.ofString "_law_pointed", .globalImplicit), (Str.ofString "str", .globalImplicit), (Str.ofString "_law_power", .globalImplicit), (Str.ofString "max", .globalImplicit)], isGenerator := false, isCoroutine := false, more := [] }
theorem kl_zlaw_number_state {cn : Str} {L a : Addr} {cd : Value} : (envOf cn sc_zlaw_number L a cd).kindOf (Str.ofString "state") = some .local := by kernel_rfl!
theorem kl_zlaw_number_base {cn : Str} {L a : Addr} {cd : Value} : (envOf cn sc_zlaw_number L a cd).kindOf (Str.ofString "base") = some .local := by kernel_rfl!
theorem kl_zlaw_number_prefix {cn : Str} {L a : Addr} {cd : Value} : (envOf cn sc_zlaw_number L a cd).kindOf (Str.ofString "prefix") = some .local := by kernel_rfl!
theorem kl_zlaw_number_over {cn : Str} {L a : Addr} {cd : Value} : (envOf cn sc_zlaw_number L a cd).kindOf (Str.ofString "over") = some .local := by kernel_rfl!
theorem kl_zlaw_number_under {cn : Str} {L a : Addr} {cd : Value} : (envOf cn sc_zlaw_number L a cd).kindOf (Str.ofString "under") = some .local := by kernel_rfl!
theorem kl_zlaw_number_text {cn : Str} {L a : Addr} {cd : Value} : (envOf cn sc_zlaw_number L a cd).kindOf (Str.ofString "text") = some .local := by kernel_rfl!
theorem kl_zlaw_number_deep {cn : Str} {L a : Addr} {cd : Value} : (envOf cn sc_zlaw_number L a cd).kindOf (Str.ofString "deep") = some .local := by kernel_rfl!
theorem kl_zlaw_number_own {cn : Str} {L a : Addr} {cd : Value} : (envOf cn sc_zlaw_number L a cd).kindOf (Str.ofString "own") = some .local := by kernel_rfl!
theorem kl_zlaw_number_mark {cn : Str} {L a : Addr} {cd : Value} : (envOf cn sc_zlaw_number L a cd).kindOf (Str.ofString "mark") = some .local := by kernel_rfl!
theorem kl_zlaw_number__law_draw {cn : Str} {L a : Addr} {cd : Value} : (envOf cn sc_zlaw_number L a cd).kindOf (Str.ofString "_law_draw") = some .globalImplicit := by kernel_rfl!
theorem kl_zlaw_number__law_digits {cn : Str} {L a : Addr} {cd : Value} : (envOf cn sc_zlaw_number L a cd).kindOf (Str.ofString "_law_digits") = some .globalImplicit := by kernel_rfl!
theorem kl_zlaw_number__law_value {cn : Str} {L a : Addr} {cd : Value} : (envOf cn sc_zlaw_number L a cd).kindOf (Str.ofString "_law_value") = some .globalImplicit := by kernel_rfl!
theorem kl_zlaw_number__law_pointed {cn : Str} {L a : Addr} {cd : Value} : (envOf cn sc_zlaw_number L a cd).kindOf (Str.ofString "_law_pointed") = some .globalImplicit := by kernel_rfl!
theorem kl_zlaw_number_str {cn : Str} {L a : Addr} {cd : Value} : (envOf cn sc_zlaw_number L a cd).kindOf (Str.ofString "str") = some .globalImplicit := by kernel_rfl!
theorem kl_zlaw_number__law_power {cn : Str} {L a : Addr} {cd : Value} : (envOf cn sc_zlaw_number L a cd).kindOf (Str.ofString "_law_power") = some .globalImplicit := by kernel_rfl!
theorem kl_zlaw_number_max {cn : Str} {L a : Addr} {cd : Value} : (envOf cn sc_zlaw_number L a cd).kindOf (Str.ofString "max") = some .globalImplicit := by kernel_rfl!
def nm_zlaw_number : List Str := [Str.ofString "state", Str.ofString "base", Str.ofString "prefix", Str.ofString "text", Str.ofString "over", Str.ofString "under", Str.ofString "deep", Str.ofString "own", Str.ofString "mark"]
theorem ix_zlaw_number_state : nm_zlaw_number.idxOf (Str.ofString "state") = 0 := by decide +kernel
theorem ix_zlaw_number_base : nm_zlaw_number.idxOf (Str.ofString "base") = 1 := by decide +kernel
theorem ix_zlaw_number_prefix : nm_zlaw_number.idxOf (Str.ofString "prefix") = 2 := by decide +kernel
theorem ix_zlaw_number_text : nm_zlaw_number.idxOf (Str.ofString "text") = 3 := by decide +kernel
theorem ix_zlaw_number_over : nm_zlaw_number.idxOf (Str.ofString "over") = 4 := by decide +kernel
theorem ix_zlaw_number_under : nm_zlaw_number.idxOf (Str.ofString "under") = 5 := by decide +kernel
theorem ix_zlaw_number_deep : nm_zlaw_number.idxOf (Str.ofString "deep") = 6 := by decide +kernel
theorem ix_zlaw_number_own : nm_zlaw_number.idxOf (Str.ofString "own") = 7 := by decide +kernel
theorem ix_zlaw_number_mark : nm_zlaw_number.idxOf (Str.ofString "mark") = 8 := by decide +kernel
theorem nd_zlaw_number : ([Str.ofString "state"] : List Str).Nodup := by decide +kernel
section
variable {M : Model} {A : Around} {E : Value → Shared → Prop} {s : Shared} {cn : Str} {L a : Addr} {cd : Value} {h₀ : Heap} {news : List (Addr × Obj)} {v : Value} {pos : Pos} {o0 o1 o2 o3 o4 o5 o6 o7 o8 : Option Value}
theorem base_zlaw_number {h : Heap} {v0 : Value} (F : Fr h₀ L h (fun y => List.lookup y (List.zip [Str.ofString "state"] [v0]).reverse)) : Fr h₀ L h (fm nm_zlaw_number [some v0, none, none, none, none, none, none, none, none]) := by
  rw [fm_base (ns₂ := [Str.ofString "base", Str.ofString "prefix", Str.ofString "text", Str.ofString "over", Str.ofString "under", Str.ofString "deep", Str.ofString "own", Str.ofString "mark"]) (k := 8) nd_zlaw_number rfl] at F
  exact F
theorem ld_zlaw_number_state {Q : Value → Shared → Prop} (F : Fr h₀ L s.heap (fm nm_zlaw_number [some v, o1, o2, o3, o4, o5, o6, o7, o8])) (h : Q v s) : wpAny M A (eval (.Name (Str.ofString "state") pos) (envOf cn sc_zlaw_number L a cd)) Q E s := ld F ((fm_get ix_zlaw_number_state).trans rfl) h rfl kl_zlaw_number_state hd_state
theorem ldn_zlaw_number_state {Q : Value → Shared → Prop} (F : Fr h₀ L s.heap (fm nm_zlaw_number [some v, o1, o2, o3, o4, o5, o6, o7, o8])) (h : Q v s) : wpAny M A (loadName (envOf cn sc_zlaw_number L a cd) (Str.ofString "state")) Q E s := ldn F ((fm_get ix_zlaw_number_state).trans rfl) h rfl kl_zlaw_number_state
theorem st_zlaw_number_state {Q : Unit → Shared → Prop} (F : Fr h₀ L s.heap (fm nm_zlaw_number [o0, o1, o2, o3, o4, o5, o6, o7, o8])) (N : News h₀ L s.heap news) (h : ∀ h' k', Fr h₀ L h' (fm nm_zlaw_number [some v, o1, o2, o3, o4, o5, o6, o7, o8]) → News h₀ L h' news → Q () { s with heap := h', toks := k' }) : wpAny M A (storeName (envOf cn sc_zlaw_number L a cd) (Str.ofString "state") v) Q E s := r_st F N (fun h' k' F' N' => h h' k' (by rw [fm_set ix_zlaw_number_state (by decide) rfl] at F'; exact F') N') rfl kl_zlaw_number_state
theorem ld_zlaw_number_base {Q : Value → Shared → Prop} (F : Fr h₀ L s.heap (fm nm_zlaw_number [o0, some v, o2, o3, o4, o5, o6, o7, o8])) (h : Q v s) : wpAny M A (eval (.Name (Str.ofString "base") pos) (envOf cn sc_zlaw_number L a cd)) Q E s := ld F ((fm_get ix_zlaw_number_base).trans rfl) h rfl kl_zlaw_number_base hd_base
theorem ldn_zlaw_number_base {Q : Value → Shared → Prop} (F : Fr h₀ L s.heap (fm nm_zlaw_number [o0, some v, o2, o3, o4, o5, o6, o7, o8])) (h : Q v s) : wpAny M A (loadName (envOf cn sc_zlaw_number L a cd) (Str.ofString "base")) Q E s := ldn F ((fm_get ix_zlaw_number_base).trans rfl) h rfl kl_zlaw_number_base
theorem st_zlaw_number_base {Q : Unit → Shared → Prop} (F : Fr h₀ L s.heap (fm nm_zlaw_number [o0, o1, o2, o3, o4, o5, o6, o7, o8])) (N : News h₀ L s.heap news) (h : ∀ h' k', Fr h₀ L h' (fm nm_zlaw_number [o0, some v, o2, o3, o4, o5, o6, o7, o8]) → News h₀ L h' news → Q () { s with heap := h', toks := k' }) : wpAny M A (storeName (envOf cn sc_zlaw_number L a cd) (Str.ofString "base") v) Q E s := r_st F N (fun h' k' F' N' => h h' k' (by rw [fm_set ix_zlaw_number_base (by decide) rfl] at F'; exact F') N') rfl kl_zlaw_number_base
theorem ld_zlaw_number_prefix {Q : Value → Shared → Prop} (F : Fr h₀ L s.heap (fm nm_zlaw_number [o0, o1, some v, o3, o4, o5, o6, o7, o8])) (h : Q v s) : wpAny M A (eval (.Name (Str.ofString "prefix") pos) (envOf cn sc_zlaw_number L a cd)) Q E s := ld F ((fm_get ix_zlaw_number_prefix).trans rfl) h rfl kl_zlaw_number_prefix hd_prefix
theorem ldn_zlaw_number_prefix {Q : Value → Shared → Prop} (F : Fr h₀ L s.heap (fm nm_zlaw_number [o0, o1, some v, o3, o4, o5, o6, o7, o8])) (h : Q v s) : wpAny M A (loadName (envOf cn sc_zlaw_number L a cd) (Str.ofString "prefix")) Q E s := ldn F ((fm_get ix_zlaw_number_prefix).trans rfl) h rfl kl_zlaw_number_prefix
theorem st_zlaw_number_prefix {Q : Unit → Shared → Prop} (F : Fr h₀ L s.heap (fm nm_zlaw_number [o0, o1, o2, o3, o4, o5, o6, o7, o8])) (N : News h₀ L s.heap news) (h : ∀ h' k', Fr h₀ L h' (fm nm_zlaw_number [o0, o1, some v, o3, o4, o5, o6, o7, o8]) → News h₀ L h' news → Q () { s with heap := h', toks := k' }) : wpAny M A (storeName (envOf cn sc_zlaw_number L a cd) (Str.ofString "prefix") v) Q E s := r_st F N (fun h' k' F' N' => h h' k' (by rw [fm_set ix_zlaw_number_prefix (by decide) rfl] at F'; exact F') N') rfl kl_zlaw_number_prefix
theorem ld_zlaw_number_text {Q : Value → Shared → Prop} (F : Fr h₀ L s.heap (fm nm_zlaw_number [o0, o1, o2, some v, o4, o5, o6, o7, o8])) (h : Q v s) : wpAny M A (eval (.Name (Str.ofString "text") pos) (envOf cn sc_zlaw_number L a cd)) Q E s := ld F ((fm_get ix_zlaw_number_text).trans rfl) h rfl kl_zlaw_number_text hd_text
theorem ldn_zlaw_number_text {Q : Value → Shared → Prop} (F : Fr h₀ L s.heap (fm nm_zlaw_number [o0, o1, o2, some v, o4, o5, o6, o7, o8])) (h : Q v s) : wpAny M A (loadName (envOf cn sc_zlaw_number L a cd) (Str.ofString "text")) Q E s := ldn F ((fm_get ix_zlaw_number_text).trans rfl) h rfl kl_zlaw_number_text
theorem st_zlaw_number_text {Q : Unit → Shared → Prop} (F : Fr h₀ L s.heap (fm nm_zlaw_number [o0, o1, o2, o3, o4, o5, o6, o7, o8])) (N : News h₀ L s.heap news) (h : ∀ h' k', Fr h₀ L h' (fm nm_zlaw_number [o0, o1, o2, some v, o4, o5, o6, o7, o8]) → News h₀ L h' news → Q () { s with heap := h', toks := k' }) : wpAny M A (storeName (envOf cn sc_zlaw_number L a cd) (Str.ofString "text") v) Q E s := r_st F N (fun h' k' F' N' => h h' k' (by rw [fm_set ix_zlaw_number_text (by decide) rfl] at F'; exact F') N') rfl kl_zlaw_number_text
theorem ld_zlaw_number_over {Q : Value → Shared → Prop} (F : Fr h₀ L s.heap (fm nm_zlaw_number [o0, o1, o2, o3, some v, o5, o6, o7, o8])) (h : Q v s) : wpAny M A (eval (.Name (Str.ofString "over") pos) (envOf cn sc_zlaw_number L a cd)) Q E s := ld F ((fm_get ix_zlaw_number_over).trans rfl) h rfl kl_zlaw_number_over hd_over
theorem ldn_zlaw_number_over {Q : Value → Shared → Prop} (F : Fr h₀ L s.heap (fm nm_zlaw_number [o0, o1, o2, o3, some v, o5, o6, o7, o8])) (h : Q v s) : wpAny M A (loadName (envOf cn sc_zlaw_number L a cd) (Str.ofString "over")) Q E s := ldn F ((fm_get ix_zlaw_number_over).trans rfl) h rfl kl_zlaw_number_over
theorem st_zlaw_number_over {Q : Unit → Shared → Prop} (F : Fr h₀ L s.heap (fm nm_zlaw_number [o0, o1, o2, o3, o4, o5, o6, o7, o8])) (N : News h₀ L s.heap news) (h : ∀ h' k', Fr h₀ L h' (fm nm_zlaw_number [o0, o1, o2, o3, some v, o5, o6, o7, o8]) → News h₀ L h' news → Q () { s with heap := h', toks := k' }) : wpAny M A (storeName (envOf cn sc_zlaw_number L a cd) (Str.ofString "over") v) Q E s := r_st F N (fun h' k' F' N' => h h' k' (by rw [fm_set ix_zlaw_number_over (by decide) rfl] at F'; exact F') N') rfl kl_zlaw_number_over
theorem ld_zlaw_number_under {Q : Value → Shared → Prop} (F : Fr h₀ L s.heap (fm nm_zlaw_number [o0, o1, o2, o3, o4, some v, o6, o7, o8])) (h : Q v s) : wpAny M A (eval (.Name (Str.ofString "under") pos) (envOf cn sc_zlaw_number L a cd)) Q E s := ld F ((fm_get ix_zlaw_number_under).trans rfl) h rfl kl_zlaw_number_under hd_under
theorem ldn_zlaw_number_under {Q : Value → Shared → Prop} (F : Fr h₀ L s.heap (fm nm_zlaw_number [o0, o1, o2, o3, o4, some v, o6, o7, o8])) (h : Q v s) : wpAny M A (loadName (envOf cn sc_zlaw_number L a cd) (Str.ofString "under")) Q E s := ldn F ((fm_get ix_zlaw_number_under).trans rfl) h rfl kl_zlaw_number_under
theorem st_zlaw_number_under {Q : Unit → Shared → Prop} (F : Fr h₀ L s.heap (fm nm_zlaw_number [o0, o1, o2, o3, o4, o5, o6, o7, o8])) (N : News h₀ L s.heap news) (h : ∀ h' k', Fr h₀ L h' (fm nm_zlaw_number [o0, o1, o2, o3, o4, some v, o6, o7, o8]) → News h₀ L h' news → Q () { s with heap := h', toks := k' }) : wpAny M A (storeName (envOf cn sc_zlaw_number L a cd) (Str.ofString "under") v) Q E s := r_st F N (fun h' k' F' N' => h h' k' (by rw [fm_set ix_zlaw_number_under (by decide) rfl] at F'; exact F') N') rfl kl_zlaw_number_under
theorem ld_zlaw_number_deep {Q : Value → Shared → Prop} (F : Fr h₀ L s.heap (fm nm_zlaw_number [o0, o1, o2, o3, o4, o5, some v, o7, o8])) (h : Q v s) : wpAny M A (eval (.Name (Str.ofString "deep") pos) (envOf cn sc_zlaw_number L a cd)) Q E s := ld F ((fm_get ix_zlaw_number_deep).trans rfl) h rfl kl_zlaw_number_deep hd_deep
theorem ldn_zlaw_number_deep {Q : Value → Shared → Prop} (F : Fr h₀ L s.heap (fm nm_zlaw_number [o0, o1, o2, o3, o4, o5, some v, o7, o8])) (h : Q v s) : wpAny M A (loadName (envOf cn sc_zlaw_number L a cd) (Str.ofString "deep")) Q E s := ldn F ((fm_get ix_zlaw_number_deep).trans rfl) h rfl kl_zlaw_number_deep
theorem st_zlaw_number_deep {Q : Unit → Shared → Prop} (F : Fr h₀ L s.heap (fm nm_zlaw_number [o0, o1, o2, o3, o4, o5, o6, o7, o8])) (N : News h₀ L s.heap news) (h : ∀ h' k', Fr h₀ L h' (fm nm_zlaw_number [o0, o1, o2, o3, o4, o5, some v, o7, o8]) → News h₀ L h' news → Q () { s with heap := h', toks := k' }) : wpAny M A (storeName (envOf cn sc_zlaw_number L a cd) (Str.ofString "deep") v) Q E s := r_st F N (fun h' k' F' N' => h h' k' (by rw [fm_set ix_zlaw_number_deep (by decide) rfl] at F'; exact F') N') rfl kl_zlaw_number_deep
theorem ld_zlaw_number_own {Q : Value → Shared → Prop} (F : Fr h₀ L s.heap (fm nm_zlaw_number [o0, o1, o2, o3, o4, o5, o6, some v, o8])) (h : Q v s) : wpAny M A (eval (.Name (Str.ofString "own") pos) (envOf cn sc_zlaw_number L a cd)) Q E s := ld F ((fm_get ix_zlaw_number_own).trans rfl) h rfl kl_zlaw_number_own hd_own
theorem ldn_zlaw_number_own {Q : Value → Shared → Prop} (F : Fr h₀ L s.heap (fm nm_zlaw_number [o0, o1, o2, o3, o4, o5, o6, some v, o8])) (h : Q v s) : wpAny M A (loadName (envOf cn sc_zlaw_number L a cd) (Str.ofString "own")) Q E s := ldn F ((fm_get ix_zlaw_number_own).trans rfl) h rfl kl_zlaw_number_own
theorem st_zlaw_number_own {Q : Unit → Shared → Prop} (F : Fr h₀ L s.heap (fm nm_zlaw_number [o0, o1, o2, o3, o4, o5, o6, o7, o8])) (N : News h₀ L s.heap news) (h : ∀ h' k', Fr h₀ L h' (fm nm_zlaw_number [o0, o1, o2, o3, o4, o5, o6, some v, o8]) → News h₀ L h' news → Q () { s with heap := h', toks := k' }) : wpAny M A (storeName (envOf cn sc_zlaw_number L a cd) (Str.ofString "own") v) Q E s := r_st F N (fun h' k' F' N' => h h' k' (by rw [fm_set ix_zlaw_number_own (by decide) rfl] at F'; exact F') N') rfl kl_zlaw_number_own
theorem ld_zlaw_number_mark {Q : Value → Shared → Prop} (F : Fr h₀ L s.heap (fm nm_zlaw_number [o0, o1, o2, o3, o4, o5, o6, o7, some v])) (h : Q v s) : wpAny M A (eval (.Name (Str.ofString "mark") pos) (envOf cn sc_zlaw_number L a cd)) Q E s := ld F ((fm_get ix_zlaw_number_mark).trans rfl) h rfl kl_zlaw_number_mark hd_mark
theorem ldn_zlaw_number_mark {Q : Value → Shared → Prop} (F : Fr h₀ L s.heap (fm nm_zlaw_number [o0, o1, o2, o3, o4, o5, o6, o7, some v])) (h : Q v s) : wpAny M A (loadName (envOf cn sc_zlaw_number L a cd) (Str.ofString "mark")) Q E s := ldn F ((fm_get ix_zlaw_number_mark).trans rfl) h rfl kl_zlaw_number_mark
theorem st_zlaw_number_mark {Q : Unit → Shared → Prop} (F : Fr h₀ L s.heap (fm nm_zlaw_number [o0, o1, o2, o3, o4, o5, o6, o7, o8])) (N : News h₀ L s.heap news) (h : ∀ h' k', Fr h₀ L h' (fm nm_zlaw_number [o0, o1, o2, o3, o4, o5, o6, o7, some v]) → News h₀ L h' news → Q () { s with heap := h', toks := k' }) : wpAny M A (storeName (envOf cn sc_zlaw_number L a cd) (Str.ofString "mark") v) Q E s := r_st F N (fun h' k' F' N' => h h' k' (by rw [fm_set ix_zlaw_number_mark (by decide) rfl] at F'; exact F') N') rfl kl_zlaw_number_mark
end
end Mine

local macro_rules | `(tactic| walk_at "eval Name") => `(tactic| (
  k_here; with_reducible (first
   | (refine' ld_zlaw_number_state ?hF9 ?_; (case hF9 => assumption))
   | (refine' ld_zlaw_number_base ?hF9 ?_; (case hF9 => assumption))
   | (refine' ld_zlaw_number_prefix ?hF9 ?_; (case hF9 => assumption))
   | (refine' ld_zlaw_number_text ?hF9 ?_; (case hF9 => assumption))
   | (refine' ld_zlaw_number_over ?hF9 ?_; (case hF9 => assumption))
   | (refine' ld_zlaw_number_under ?hF9 ?_; (case hF9 => assumption))
   | (refine' ld_zlaw_number_deep ?hF9 ?_; (case hF9 => assumption))
   | (refine' ld_zlaw_number_own ?hF9 ?_; (case hF9 => assumption))
   | (refine' ld_zlaw_number_mark ?hF9 ?_; (case hF9 => assumption))
   | (refine' gname gl__law_draw hd__law_draw ?hF9 ?hX9 ?hT9 rfl kl_zlaw_number__law_draw ?_; (case hF9 => assumption); (case hX9 => assumption); (case hT9 => assumption))
   | (refine' gname gl__law_digits hd__law_digits ?hF9 ?hX9 ?hT9 rfl kl_zlaw_number__law_digits ?_; (case hF9 => assumption); (case hX9 => assumption); (case hT9 => assumption))
   | (refine' gname gl__law_value hd__law_value ?hF9 ?hX9 ?hT9 rfl kl_zlaw_number__law_value ?_; (case hF9 => assumption); (case hX9 => assumption); (case hT9 => assumption))
   | (refine' gname gl__law_pointed hd__law_pointed ?hF9 ?hX9 ?hT9 rfl kl_zlaw_number__law_pointed ?_; (case hF9 => assumption); (case hX9 => assumption); (case hT9 => assumption))
   | (refine' bname bl_str bv_str bn_str hd_str ?hF9 ?hX9 ?hT9 rfl kl_zlaw_number_str ?_; (case hF9 => assumption); (case hX9 => assumption); (case hT9 => assumption))
   | (refine' gname gl__law_power hd__law_power ?hF9 ?hX9 ?hT9 rfl kl_zlaw_number__law_power ?_; (case hF9 => assumption); (case hX9 => assumption); (case hT9 => assumption))
   | (refine' bname bl_max bv_max bn_max hd_max ?hF9 ?hX9 ?hT9 rfl kl_zlaw_number_max ?_; (case hF9 => assumption); (case hX9 => assumption); (case hT9 => assumption)))))
local macro_rules | `(tactic| walk_at "loadName") => `(tactic| (
  k_here; with_reducible (first
   | (refine' ldn_zlaw_number_state ?hF9 ?_; (case hF9 => assumption))
   | (refine' ldn_zlaw_number_base ?hF9 ?_; (case hF9 => assumption))
   | (refine' ldn_zlaw_number_prefix ?hF9 ?_; (case hF9 => assumption))
   | (refine' ldn_zlaw_number_text ?hF9 ?_; (case hF9 => assumption))
   | (refine' ldn_zlaw_number_over ?hF9 ?_; (case hF9 => assumption))
   | (refine' ldn_zlaw_number_under ?hF9 ?_; (case hF9 => assumption))
   | (refine' ldn_zlaw_number_deep ?hF9 ?_; (case hF9 => assumption))
   | (refine' ldn_zlaw_number_own ?hF9 ?_; (case hF9 => assumption))
   | (refine' ldn_zlaw_number_mark ?hF9 ?_; (case hF9 => assumption)))))
local macro_rules | `(tactic| walk_at "storeName") => `(tactic| (
  k_here; with_reducible (first
   | (refine' st_zlaw_number_state ?hF9 ?hN9 ?_; (case hF9 => assumption); (case hN9 => assumption); intro _ _ _ _; (try dsimp only); (try k_sweep))
   | (refine' st_zlaw_number_base ?hF9 ?hN9 ?_; (case hF9 => assumption); (case hN9 => assumption); intro _ _ _ _; (try dsimp only); (try k_sweep))
   | (refine' st_zlaw_number_prefix ?hF9 ?hN9 ?_; (case hF9 => assumption); (case hN9 => assumption); intro _ _ _ _; (try dsimp only); (try k_sweep))
   | (refine' st_zlaw_number_text ?hF9 ?hN9 ?_; (case hF9 => assumption); (case hN9 => assumption); intro _ _ _ _; (try dsimp only); (try k_sweep))
   | (refine' st_zlaw_number_over ?hF9 ?hN9 ?_; (case hF9 => assumption); (case hN9 => assumption); intro _ _ _ _; (try dsimp only); (try k_sweep))
   | (refine' st_zlaw_number_under ?hF9 ?hN9 ?_; (case hF9 => assumption); (case hN9 => assumption); intro _ _ _ _; (try dsimp only); (try k_sweep))
   | (refine' st_zlaw_number_deep ?hF9 ?hN9 ?_; (case hF9 => assumption); (case hN9 => assumption); intro _ _ _ _; (try dsimp only); (try k_sweep))
   | (refine' st_zlaw_number_own ?hF9 ?hN9 ?_; (case hF9 => assumption); (case hN9 => assumption); intro _ _ _ _; (try dsimp only); (try k_sweep))
   | (refine' st_zlaw_number_mark ?hF9 ?hN9 ?_; (case hF9 => assumption); (case hN9 => assumption); intro _ _ _ _; (try dsimp only); (try k_sweep)))))
set_option hygiene false in
local macro_rules | `(tactic| walk_at "M base") => `(tactic| (
  (rename Fr _ _ _ _ => F1);
  (replace F1 := base_zlaw_number F1)))

local macro_rules | `(tactic| walk_at "M drop") => `(tactic| first
  | with_reducible assumption
  | exact fun p hp => (by with_reducible assumption : News _ _ _ (_ :: (_, stO _ _ _ _ _) :: _)) p (.tail _ hp)
  | exact fun p hp => (by with_reducible assumption : News _ _ _ (_ :: _ :: (_, stO _ _ _ _ _) :: _)) p (.tail _ (.tail _ hp))
  | exact fun p hp => (by with_reducible assumption : News _ _ _ (_ :: _ :: _ :: (_, stO _ _ _ _ _) :: _)) p (.tail _ (.tail _ (.tail _ hp))))
set_option hygiene false in
local macro_rules | `(tactic| walk_at "newList") => `(tactic| (k_here; k_dflt (refine' newList_K ?k1 ?k2 ?_; (case k1 => with_reducible assumption); (case k2 => with_reducible assumption)); intro l' h' F' N' l1'; (try dsimp only)))
namespace Mine
def BaseV (b : Int) : Prop := b = 10 ∨ b = 2 ∨ b = 8 ∨ b = 16
theorem base_of {k : Int} (h0 : 0 ≤ k) (h1 : k < 6) : BaseV (([10, 10, 10, 2, 8, 16] : List Int).getD k.toNat 0) := by
  obtain ⟨n, rfl⟩ := Int.eq_ofNat_of_zero_le h0
  have : ∀ n, n < 6 → BaseV (([10, 10, 10, 2, 8, 16] : List Int).getD n 0) := by unfold BaseV; decide
  exact this n (by omega)
/-- the table of the prefixes -/
def Dict4 (prog : Program) (w : World) (o : Obj) : Prop := ∃ u1 u2 u3 u4, o.IsDictOf (intKind prog w) [(10, .str (Str.ofString "") u1), (2, .str (Str.ofString "0b") u2), (8, .str (Str.ofString "0o") u3), (16, .str (Str.ofString "0x") u4)]
section
variable {prog : Program} {w : World} {h₀ h : Heap} {L : Addr} {m : Str → Option Value} {news : List (Addr × Obj)}
theorem disp4 {P : Heap → Prop} {t1 t2 t3 t4 u1 u2 u3 u4 : Tok} (F : Fr h₀ L h m) (N : News h₀ L h news) (hbig : h₀.NoLimit)
    (k : ∀ h' o, Fr h₀ L h' m → News h₀ L h' ((h.objs.size, o) :: news) → (∀ p ∈ news, p.1 < h.objs.size) → Dict4 prog w o → P h') :
    ∃ kvs, Carries (PySem.intKind prog w) [(.int 10 t1, .str (Str.ofString "") u1), (.int 2 t2, .str (Str.ofString "0b") u2), (.int 8 t3, .str (Str.ofString "0o") u3), (.int 16 t4, .str (Str.ofString "0x") u4)] kvs ∧ (h.push { cls := .type "dict", data := .dict #[] }).DictOf (PySem.intKind prog w) h.objs.size [] ∧
      ∀ h', h'.DictOf (PySem.intKind prog w) h.objs.size (merged [] kvs) → Heap.SameBut h.objs.size (h.push { cls := .type "dict", data := .dict #[] }) h' → P h' :=
  kdp_made_int F N hbig (by rfl) (of_decide_eq_true (by rfl)) (by rfl) fun h' o F' N' l _ hd _ _ => k h' o F' N' l ⟨u1, u2, u3, u4, hd⟩
theorem item4 {A : Around} {E : Value → Shared → Prop} {s : Shared} {d : Addr} {o : Obj} {b : Int} {tb : Tok} {value slice : Expr} {Q : Value → Shared → Prop} (hb : BaseV b) (N : News h₀ L s.heap news) (hp : (d, o) ∈ news) (D : Dict4 prog w o)
    (h : ∀ p t k' pl, Tl 2 p pl → BaseP b pl → Q (.str p t) { s with toks := k' })
    (hs : subscripted slice false (.ref d) (.int b tb) = operate [.ref d, .int b tb] (getItem (.ref d) (.int b tb)) := by with_unfolding_all rfl) (hg : ∀ r, letTemporaryGo value (.ref d) r = pure () := by intro _; with_unfolding_all rfl) :
    wpAny (model prog w) A (subscriptTail value slice (.ref d) (.int b tb)) Q E s := by
  obtain ⟨u1, u2, u3, u4, hd⟩ := D
  rcases hb with rfl | rfl | rfl | rfl
  · exact kda_item N hp hd (k := 10) (by simp [intKind, Value.isInt]) rfl (h _ _ _ [] ⟨rfl, by decide, by decide⟩ (Or.inl ⟨rfl, rfl⟩)) hs hg
  · exact kda_item N hp hd (k := 2) (by simp [intKind, Value.isInt]) rfl (h _ _ _ [48, 98] ⟨by decide +kernel, by decide, by decide⟩ (Or.inr (Or.inl ⟨rfl, rfl⟩))) hs hg
  · exact kda_item N hp hd (k := 8) (by simp [intKind, Value.isInt]) rfl (h _ _ _ [48, 111] ⟨by decide +kernel, by decide, by decide⟩ (Or.inr (Or.inr (Or.inl ⟨rfl, rfl⟩)))) hs hg
  · exact kda_item N hp hd (k := 16) (by simp [intKind, Value.isInt]) rfl (h _ _ _ [48, 120] ⟨by decide +kernel, by decide, by decide⟩ (Or.inr (Or.inr (Or.inr ⟨rfl, rfl⟩)))) hs hg
end
end Mine
set_option hygiene false in
local macro_rules | `(tactic| walk_at "Exists") => `(tactic| (k_here; (refine disp4 (by k_asm) (by k_asm) (Top.nolimit (by k_asm)) ?_); intro h' o' F' N' l1 d4; (try dsimp only)))
local macro_rules | `(tactic| walk_at "subscriptTail") => `(tactic| (k_here; (with_reducible show wpAny _ _ (subscriptTail _ _ (Value.ref _) (Value.int _ _)) _ _ _); (refine item4 (by assumption) (by with_reducible assumption) (.head _) (by assumption) ?_); intro _ _ _ _ _ _; (try dsimp only)))
namespace Mine
theorem own_le {b own : Int} {mk : Nat} {pl : List Nat} (hb : BaseP b pl) (O : OwnP b own mk) : 2 ≤ own ∧ own ≤ 16 := by
  have := baseP_le hb
  rcases O with ⟨h, _⟩ | ⟨_, h, _⟩ <;> omega
theorem lit_nil0 : Tl 0 (Str.ofString "") [] := Tl.lit (Str.ofString "") [] rfl rfl
theorem lit_at1 : Tl 1 (Str.ofString "@") [64] := Tl.lit (Str.ofString "@") [64] rfl rfl
theorem lit_e1 : Tl 1 (Str.ofString "e") [101] := Tl.lit (Str.ofString "e") [101] rfl rfl
theorem lit_p1 : Tl 1 (Str.ofString "p") [112] := Tl.lit (Str.ofString "p") [112] rfl rfl
theorem lit_sl : Tl 1 (Str.ofString "/") [47] := Tl.lit (Str.ofString "/") [47] rfl rfl
theorem nr_text {n : Nat} {x : Str} {pl pt dc : List Nat} {mk : Nat} {plus : Bool} (h : Tl n x (pl ++ pt ++ [mk] ++ plL plus ++ dc)) (hn : n ≤ 60) : Tl 60 x (pl ++ pt ++ mk :: (plL plus ++ dc)) := by
  rw [show pl ++ pt ++ mk :: (plL plus ++ dc) = pl ++ pt ++ [mk] ++ plL plus ++ dc from by simp]
  exact h.mono hn
/-- what _law_number answers -/
def NumRet (sp np : Addr) (rest : List (Addr × Obj)) (r : Value) (ne : List (Addr × Obj)) : Prop :=
  ∃ a x tx tv tu at' seed' ta' ts' l V U, r = .ref a ∧ Tl 60 x l ∧ NumT l V U ∧ a ≠ sp ∧ 0 ≤ at' ∧ 0 ≤ seed' ∧ seed' < 7877 ∧
    ne = (a, tupO #[.str x tx, .int V tv, .int U tu]) :: (sp, stO at' ta' np seed' ts') :: rest
section
variable {prog : Program} {w : World} {A : Around} {E : Value → Shared → Prop} {s : Shared} {Q : Value → Shared → Prop}
theorem r_in216 {t : Addr} {x : Int} {u u1 u2 : Tok} (ht : IsTup s.heap t #[.int 2 u1, .int 16 u2]) (h : Q (.bool (decide (x = 2 ∨ x = 16))) s) : wpAny (model prog w) A (compareOp .In (.int x u) (.ref t)) Q E s :=
  in_tuple_ints (ns := [2, 16]) ht (.cons 2 u1 (.cons 16 u2 .nil)) (by
    have e : ([2, 16].any (· == x)) = decide (x = 2 ∨ x = 16) := by
      rw [Bool.eq_iff_iff, decide_eq_true_eq]
      simp only [List.any_cons, List.any_nil, Bool.or_false, Bool.or_eq_true, beq_iff_eq]
      omega
    rw [e]; exact h)
theorem r_item2 {l : Addr} {k : Int} {u u1 u2 : Tok} {value slice : Expr} (hl : s.heap.IsList l #[.str (Str.ofString "") u1, .str (Str.ofString "+") u2]) (h0 : 0 ≤ k) (h1 : k < 2) (h : ∀ y t plus, Tl 1 y (plL plus) → (plus = true → k ≠ 0) → Q (.str y t) s)
    (hs : subscripted slice false (.ref l) (.int k u) = operate [.ref l, .int k u] (getItem (.ref l) (.int k u)) := by with_unfolding_all rfl) :
    wpAny (model prog w) A (subscriptTail value slice (.ref l) (.int k u)) Q E s := by
  have hk : k = 0 ∨ k = 1 := by omega
  rcases hk with rfl | rfl
  · exact tail_any hl.typeIs slot_list_getitem.lookup (wpAny_getItem_list hl (by decide) (by decide) (by rfl) (h _ u1 false ⟨rfl, by decide, by decide⟩ (fun h => by cases h))) hs
  · exact tail_any hl.typeIs slot_list_getitem.lookup (wpAny_getItem_list hl (by decide) (by decide) (by rfl) (h _ u2 true ⟨by decide +kernel, by decide, by decide⟩ (fun _ => by decide))) hs
theorem r_max0 {h₀ : Heap} {L : Addr} {m : Str → Option Value} {news : List (Addr × Obj)} {d : Int} {t u : Tok} (hh : A.handled = none) (F : Fr h₀ L s.heap m) (N : News h₀ L s.heap news) (h1 : -39 ≤ d) (h2 : d ≤ 39)
    (h : ∀ v t' h' tk, 0 ≤ v → v ≤ 39 → Is v.toNat d.toNat → Fr h₀ L h' m → News h₀ L h' news → Q (.int v t') { s with heap := h', toks := tk }) : wpAny (model prog w) A (call (.builtin "max") [.int 0 t, .int d u]) Q E s :=
  max_two_N hh F N fun h' tk F' N' => h _ _ h' tk (by split <;> omega) (by split <;> omega) ⟨by split <;> omega⟩ F' N'
theorem bl_powS {o : Int} {n : Nat} (h1 : 2 ≤ o) (h2 : o ≤ 16) (hn : n ≤ 40) : bl (o ^ n) ≤ 8000 := by
  refine bl_small ?_
  obtain ⟨k, rfl⟩ := Int.eq_ofNat_of_zero_le (show 0 ≤ o by omega)
  have e : ((k : Int) ^ n).natAbs = k ^ n := by rw [Int.natAbs_pow, Int.natAbs_natCast]
  rw [e]
  have h3 : k ^ n ≤ 16 ^ n := Nat.pow_le_pow_left (by omega) n
  have h4 : 16 ^ n ≤ 16 ^ 40 := Nat.pow_le_pow_right (by decide) hn
  have h5 : (16 : Nat) ^ 40 < 2 ^ 200 := by decide
  omega
theorem r_mulP {V o : Int} {v : Int} {t u : Tok} (hV : bl V ≤ 8000) (h1 : 2 ≤ o) (h2 : o ≤ 16) (h3 : 0 ≤ v) (h4 : v ≤ 39) (h : ∀ z t' k', Is z (V * o ^ v.toNat) → Q (.int z t') { s with toks := k' }) :
    wpAny (model prog w) A (binaryOp .Mult (.int V t) (.int (o ^ v.toNat) u)) Q E s :=
  r_mulB (by omega) (by have := bl_powS h1 h2 (n := v.toNat) (by omega); omega) fun z t' k' e _ => h z t' k' e
theorem t_strI {d : Int} {t : Tok} (h1 : -39 ≤ d) (h2 : d ≤ 39) (h : ∀ y t' k', Tl 3 y (dcI d) → Q (.str y t') { s with toks := k' }) : wpAny (model prog w) A (call (.type "str") [.int d t]) Q E s :=
  str_of_int_fit (N := 100) (by split <;> omega) (by decide) fun _ => h _ _ _ ⟨rfl, fun c hc => by have := (dc_ok h1 h2).2.2.1 c hc; omega, (dc_ok h1 h2).2.2.2.1⟩
end
section
variable {b k1 k2 : Int} {sp np a : Addr} {rest : List (Addr × Obj)} {x : Str} {tx tv tu ta ts : Tok} {at_ seed : Int} {pl : List Nat}
theorem len_pos {ds : List Nat} {k : Int} (h : ds.length = (1 + k).toNat) (h0 : 0 ≤ k) : ds ≠ [] := fun e => by rw [e] at h; simp at h; omega
theorem nr_ratio {n : Nat} {os us : List Nat} (hx : Tl n x (pl ++ os.map dg ++ [47] ++ pl ++ us.map dg)) (hn : n ≤ 60) (hb : BaseP b pl) (ho : ∀ d ∈ os, (d : Int) < b) (hu : ∀ d ∈ us, (d : Int) < b)
    (l1 : os.length = (1 + k1).toNat) (a1 : 0 ≤ k1) (a2 : k1 < 6) (l2 : us.length = (1 + k2).toNat) (a3 : 0 ≤ k2) (a4 : k2 < 4) (hs : a ≠ sp) (q1 : 0 ≤ at_) (q2 : 0 ≤ seed) (q3 : seed < 7877) :
    NumRet sp np rest (.ref a) ((a, tupO #[.str x tx, .int (hornI b os) tv, .int (hornI b us) tu]) :: (sp, stO at_ ta np seed ts) :: rest) :=
  ⟨a, x, tx, tv, tu, at_, seed, ta, ts, _, _, _, rfl, (by rw [show pl ++ os.map dg ++ 47 :: (pl ++ us.map dg) = pl ++ os.map dg ++ [47] ++ pl ++ us.map dg from by simp]; exact hx.mono hn), NumT.ratio hb ho hu (len_pos l1 a1) (len_pos l2 a3) (by omega) (by omega), hs, q1, q2, q3, rfl⟩
theorem nr_point {n : Nat} {ah bh : List Nat} {dot : Bool} {V U : Int} (hx : Tl n x (pl ++ ptL ah bh dot)) (hn : n ≤ 60) (hb : BaseP b pl) (P : PtB b ah bh dot) (hV : V = hornI b (ah ++ bh)) (hU : U = b ^ bh.length) (hs : a ≠ sp) (q1 : 0 ≤ at_) (q2 : 0 ≤ seed) (q3 : seed < 7877) :
    NumRet sp np rest (.ref a) ((a, tupO #[.str x tx, .int V tv, .int U tu]) :: (sp, stO at_ ta np seed ts) :: rest) :=
  ⟨a, x, tx, tv, tu, at_, seed, ta, ts, _, _, _, rfl, hx.mono hn, (by rw [hV, hU]; exact NumT.point hb P), hs, q1, q2, q3, rfl⟩
theorem nr_expo {own deep v1 v2 V U z1 z2 : Int} {mk : Nat} {plus : Bool} {ah bh : List Nat} {dot : Bool} (hx : Tl 60 x (pl ++ ptL ah bh dot ++ mk :: (plL plus ++ dcI deep))) (hb : BaseP b pl) (P : PtB b ah bh dot) (hV : V = hornI b (ah ++ bh)) (hU : U = b ^ bh.length)
    (O : OwnP b own mk) (e1 : -39 ≤ deep) (e2 : deep ≤ 39) (hp : plus = true → 0 ≤ deep) (i1 : Is v1.toNat deep.toNat) (i2 : Is v2.toNat (-deep).toNat) (y1 : Is z1 (V * own ^ v1.toNat)) (y2 : Is z2 (U * own ^ v2.toNat)) (hs : a ≠ sp) (q1 : 0 ≤ at_) (q2 : 0 ≤ seed) (q3 : seed < 7877) :
    NumRet sp np rest (.ref a) ((a, tupO #[.str x tx, .int z1 tv, .int z2 tu]) :: (sp, stO at_ ta np seed ts) :: rest) :=
  ⟨a, x, tx, tv, tu, at_, seed, ta, ts, _, _, _, rfl, hx, (by rw [y1.out, y2.out, i1.out, i2.out, hV, hU]; exact NumT.expo hb P O e1 e2 hp), hs, q1, q2, q3, rfl⟩
end
end Mine
local macro_rules | `(tactic| walk_at "compareOp In int ref") => `(tactic| (k_here; (refine r_in216 (News.isTup (by with_reducible assumption) (.head _)) ?_); (try dsimp only)))
local macro_rules | `(tactic| walk_at "subscriptTail") => `(tactic| (k_here; (with_reducible show wpAny _ _ (subscriptTail _ _ (Value.ref _) (Value.int _ _)) _ _ _); (refine r_item2 (News.isList (by with_reducible assumption) (.head _)) (by first | assumption | decide) (by first | assumption | decide) ?_); intro _ _ _ _ _; (try dsimp only)))
local macro_rules | `(tactic| walk_at "call builtin:max") => `(tactic| (k_here; (refine r_max0 (by with_unfolding_all rfl) (by assumption) (by with_reducible assumption) (by omega) (by omega) ?_); intro _ _ _ _ _ _ _ _ _; (try dsimp only)))
local macro_rules | `(tactic| walk_at "binaryOp Mult int int") => `(tactic| (k_here; (refine r_mulP (by assumption) (by assumption) (by assumption) (by assumption) (by assumption) ?_); intro _ _ _ _; (try dsimp only)))
local macro_rules | `(tactic| walk_at "call type:str") => `(tactic| (k_here; (refine t_strI (by assumption) (by assumption) ?_); intro _ _ _ _; (try dsimp only)))
set_option hygiene false in
local macro_rules | `(tactic| walk_at "call ref") => `(tactic| (
  k_here; (with_reducible show wpAny _ _ (call (Value.ref 139) _) _ _ _); first
   | ((refine' Ctr.use (c_draw _ _ _ _ _ _ _ _ _ _ ?cs ?ca ?c1 ?c2 ?c3 ?c4) ?cB ?cF ?cX ?cN ?cT ?cK ?cD ?cU (fun _ _ _ _ _ h => h.elim) ?_);
      (case cN => with_reducible assumption); (case cs => assumption); (case ca => first | assumption | omega); (case c1 => assumption); (case c2 => assumption); (case c3 => first | assumption | omega); (case c4 => first | assumption | omega);
      (case cB => k_asm); (case cF => k_asm); (case cX => k_asm); (case cT => k_asm); (case cK => first | exact rfl | assumption);
      (case cD => first | (dsimp only [Around.deeper]; omega) | ktr_room); (case cU => first | (dsimp only [Around.deeper]; omega) | ktr_units);
      intro r9 ne9 h9 k9 F9 N9 hr9; obtain ⟨k9, tk9, a9, s9, ta9, ts9, rfl, u9, v9, w9, x9, y9, rfl⟩ := hr9; (try dsimp only))
   | ((refine' Ctr.use (c_draw1 _ _ _ _ _ _ _ _ _ _ _ _ ?cs ?cx ?ca ?c1 ?c2 ?c3 ?c4) ?cB ?cF ?cX ?cN ?cT ?cK ?cD ?cU (fun _ _ _ _ _ h => h.elim) ?_);
      (case cN => with_reducible assumption); (case cs => assumption); (case cx => assumption); (case ca => first | assumption | omega); (case c1 => assumption); (case c2 => assumption); (case c3 => first | assumption | omega); (case c4 => first | assumption | omega);
      (case cB => k_asm); (case cF => k_asm); (case cX => k_asm); (case cT => k_asm); (case cK => first | exact rfl | assumption);
      (case cD => first | (dsimp only [Around.deeper]; omega) | ktr_room); (case cU => first | (dsimp only [Around.deeper]; omega) | ktr_units);
      intro r9 ne9 h9 k9 F9 N9 hr9; obtain ⟨k9, tk9, a9, s9, ta9, ts9, rfl, u9, v9, w9, x9, y9, rfl⟩ := hr9; (try dsimp only))
   | ((refine' Ctr.use (c_draw _ _ _ _ _ _ _ _ _ _ ?cs ?ca ?c1 ?c2 ?c3 ?c4) ?cB ?cF ?cX ?cN ?cT ?cK ?cD ?cU (fun _ _ _ _ _ h => h.elim) ?_);
      (case cN => walk_at "M drop"); (case cs => assumption); (case ca => first | assumption | omega); (case c1 => assumption); (case c2 => assumption); (case c3 => first | assumption | omega); (case c4 => first | assumption | omega);
      (case cB => k_asm); (case cF => k_asm); (case cX => k_asm); (case cT => k_asm); (case cK => first | exact rfl | assumption);
      (case cD => first | (dsimp only [Around.deeper]; omega) | ktr_room); (case cU => first | (dsimp only [Around.deeper]; omega) | ktr_units);
      intro r9 ne9 h9 k9 F9 N9 hr9; obtain ⟨k9, tk9, a9, s9, ta9, ts9, rfl, u9, v9, w9, x9, y9, rfl⟩ := hr9; (try dsimp only))))
local macro_rules | `(tactic| walk_at "binaryOp Add str str") => `(tactic| (k_here; (first | refine t_add (by assumption) lit_sl (by decide) ?_ | refine t_add (by assumption) lit_nil0 (by decide) ?_ | refine t_add (by assumption) (by assumption) (by decide) ?_); intro _ _ _ _; (try dsimp only)))
set_option hygiene false in
local macro_rules | `(tactic| walk_at "call ref") => `(tactic| (
  k_here; (with_reducible show wpAny _ _ (call (Value.ref 158) _) _ _ _);
  (refine' Ctr.use (c_value _ _ _ _ _ _ _ ?ca ?cb ?cc ?cd) ?cB ?cF ?cX ?cN ?cT ?cK ?cD ?cU (fun _ _ _ _ _ h => h.elim) ?_);
  (case ca => assumption); (case cb => exact lt16 (by assumption) (by assumption)); (case cc => first | assumption | omega); (case cd => first | assumption | omega); walk_at "M use";
  intro r9 ne9 h9 k9 F9 N9 hr9; obtain ⟨t9, rfl, rfl⟩ := hr9; (try dsimp only)))
namespace Mine
set_option maxHeartbeats 40000000 in
theorem c_number (sp np : Addr) (at_ seed : Int) (vs : Array Value) (ta ts : Tok) (rest : List (Addr × Obj)) (hS : Sts sp np vs rest)
   (hat : 0 ≤ at_) (hs1 : 0 ≤ seed) (hs2 : seed < 7877) :
   Ctr 179 [.ref sp] 20 ((sp, stO at_ ta np seed ts) :: rest)
     (NumRet sp np rest) (fun _ => False) := by
  walk_at "M enter"
  walk_at "M base"
  refine A_cut 1 (fun s' => ∃ h1 k1 b tb at' seed' ta' ts' o1 o2 o3 o4 o5 o6 o7, s' = { s with heap := h1, toks := k1 } ∧
    Fr g' L' h1 (fm nm_zlaw_number [some (.ref sp), some (.int b tb), o1, o2, o3, o4, o5, o6, o7]) ∧ News g' L' h1 ((sp, stO at' ta' np seed' ts') :: rest) ∧ BaseV b ∧ 0 ≤ at' ∧ 0 ≤ seed' ∧ seed' < 7877) ?_ ?_
  · dsimp only [List.take]
    k_steps
    rename News _ _ _ (_ :: (sp, _) :: rest) => N3
    exact Hid.mk ⟨rfl, _, _, _, _, _, _, _, _, _, _, _, _, _, _, _, rfl, by assumption, fun p hp => N3 p (.tail _ hp), base_of (by assumption) (by assumption), by assumption, by assumption, by assumption⟩
  · dsimp only [List.drop]
    clear N' F1
    rintro _ ⟨h1, k1, b, tb, at', seed', ta', ts', o1, o2, o3, o4, o5, o6, o7, rfl, F2, N2, hb, q1, q2, q3⟩
    refine A_cut 1 (fun s' => ∃ h1 k1 p tp pl o1 o2 o3 o4 o5 o6, s' = { s with heap := h1, toks := k1 } ∧
      Fr g' L' h1 (fm nm_zlaw_number [some (.ref sp), some (.int b tb), some (.str p tp), o1, o2, o3, o4, o5, o6]) ∧ News g' L' h1 ((sp, stO at' ta' np seed' ts') :: rest) ∧ Tl 2 p pl ∧ BaseP b pl) ?_ ?_
    · dsimp only [List.take]
      k_steps
      all_goals first
        | exact Hid.mk ⟨rfl, _, _, _, _, _, _, _, _, _, _, _, rfl, by assumption, cb_drop (by assumption) (fun p hp => by simp [hp]), by assumption, by assumption⟩
        | fail
    · dsimp only [List.drop]
      clear N2 F2
      rintro _ ⟨h1, k1, p, tp, pl, o1, o2, o3, o4, o5, o6, rfl, F3, N3, hp, hbp⟩
      have hb2 := (baseP_le hbp).1
      have hb16 := (baseP_le hbp).2
      refine A_cutR 1 (fun s' => ∃ h1 k1 at' seed' ta' ts' o1 o2 o3 o4 o5 o6, s' = { s with heap := h1, toks := k1 } ∧
        Fr g' L' h1 (fm nm_zlaw_number [some (.ref sp), some (.int b tb), some (.str p tp), o1, o2, o3, o4, o5, o6]) ∧ News g' L' h1 ((sp, stO at' ta' np seed' ts') :: rest) ∧ 0 ≤ at' ∧ 0 ≤ seed' ∧ seed' < 7877) ?_ ?_
      · dsimp only [List.take]
        k_steps
        · rename News _ _ _ (_ :: _ :: (sp, _) :: rest) => N9
          have hne := ne_of_news N9 (.head _) (.tail _ (.tail _ (.head _))) (fun h => absurd (Value.type.inj h) (by decide))
          exact hret _ _ _ _ (by with_reducible assumption) (pt_swap N9) (nr_ratio (by assumption) (by decide) hbp (by assumption) (by assumption) (by assumption) (by assumption) (by assumption) (by assumption) (by assumption) (by assumption) hne (by assumption) (by assumption) (by assumption))
        · exact Hid.mk ⟨_, _, _, _, _, _, _, _, _, _, _, _, rfl, by assumption, by with_reducible assumption, by assumption, by assumption, by assumption⟩
      · dsimp only [List.drop]
        clear N3 F3
        rintro _ ⟨h1, k1, at', seed', ta', ts', o1, o2, o3, o4, o5, o6, rfl, F4, N4, r1, r2, r3⟩
        refine A_cut 1 (fun s' => ∃ h1 k1 x tx V tv U tu ah bh dot at' seed' ta' ts' o4 o5 o6, s' = { s with heap := h1, toks := k1 } ∧
          Fr g' L' h1 (fm nm_zlaw_number [some (.ref sp), some (.int b tb), some (.str p tp), some (.str x tx), some (.int V tv), some (.int U tu), o4, o5, o6]) ∧ News g' L' h1 ((sp, stO at' ta' np seed' ts') :: rest) ∧ 0 ≤ at' ∧ 0 ≤ seed' ∧ seed' < 7877 ∧
          Tl 30 x (ptL ah bh dot) ∧ PtB b ah bh dot ∧ V = hornI b (ah ++ bh) ∧ U = b ^ bh.length) ?_ ?_
        · dsimp only [List.take]
          k_steps
          exact Hid.mk ⟨rfl, _, _, x9, _, _, _, _, _, ah9, bh9, dot9, _, _, _, _, _, _, _, rfl, by assumption, (fun p hp => (by with_reducible assumption : News _ _ _ ((p9, _) :: _)) p (.tail _ hp)), v9, w9, y9, hx9, ⟨z1, z2, z3, z4, z5, z6, z7⟩, rfl, rfl⟩
        · dsimp only [List.drop]
          clear N4 F4
          rintro _ ⟨h1, k1, x, tx, V, tv, U, tu, ah, bh, dot, at', seed', ta', ts', o4, o5, o6, rfl, F5, N5, m1, m2, m3, hx, P, hV, hU⟩
          clear q1 q2 q3 r1 r2 r3
          refine A_cutR 1 (fun s' => ∃ h1 k1 at' seed' ta' ts' o4 o5 o6, s' = { s with heap := h1, toks := k1 } ∧
            Fr g' L' h1 (fm nm_zlaw_number [some (.ref sp), some (.int b tb), some (.str p tp), some (.str x tx), some (.int V tv), some (.int U tu), o4, o5, o6]) ∧ News g' L' h1 ((sp, stO at' ta' np seed' ts') :: rest) ∧ 0 ≤ at' ∧ 0 ≤ seed' ∧ seed' < 7877) ?_ ?_
          · dsimp only [List.take]
            k_steps
            · rename News _ _ _ (_ :: (sp, _) :: rest) => N9
              have hne := ne_of_news N9 (.head _) (.tail _ (.head _)) (fun h => absurd (Value.type.inj h) (by decide))
              exact hret _ _ _ _ (by with_reducible assumption) N9 (nr_point (by assumption) (by decide) hbp P hV hU hne (by assumption) (by assumption) (by assumption))
            · exact Hid.mk ⟨_, _, _, _, _, _, _, _, _, rfl, by assumption, by with_reducible assumption, by assumption, by assumption, by assumption⟩
          · dsimp only [List.drop]
            clear N5 F5 m1 m2 m3
            rintro _ ⟨h1, k1, at', seed', ta', ts', o4, o5, o6, rfl, F6, N6, m1, m2, m3⟩
            refine A_cut 1 (fun s' => ∃ h1 k1 deep td own tw mk mx tm at' seed' ta' ts', s' = { s with heap := h1, toks := k1 } ∧
              Fr g' L' h1 (fm nm_zlaw_number [some (.ref sp), some (.int b tb), some (.str p tp), some (.str x tx), some (.int V tv), some (.int U tu), some (.int deep td), some (.int own tw), some (.str mx tm)]) ∧ News g' L' h1 ((sp, stO at' ta' np seed' ts') :: rest) ∧ 0 ≤ at' ∧ 0 ≤ seed' ∧ seed' < 7877 ∧
              -39 ≤ deep ∧ deep ≤ 39 ∧ b = own ∧ Tl 1 mx [mk] ∧ mk = if b = 16 then 64 else 101) ?_ ?_
            · dsimp only [List.take]
              k_steps
              all_goals (rename News _ _ _ (_ :: (sp, _) :: rest) => N9)
              · exact Hid.mk ⟨rfl, _, _, _, _, _, _, _, _, _, _, _, _, _, rfl, by assumption, fun p hp => N9 p (.tail _ hp), by assumption, by assumption, by assumption, by omega, by omega, rfl, lit_at1, by rw [if_pos (by assumption)]⟩
              · exact Hid.mk ⟨rfl, _, _, _, _, _, _, _, _, _, _, _, _, _, rfl, by assumption, fun p hp => N9 p (.tail _ hp), by assumption, by assumption, by assumption, by omega, by omega, rfl, lit_e1, by rw [if_neg (by assumption)]⟩
            · dsimp only [List.drop]
              clear N6 F6 m1 m2 m3
              rintro _ ⟨h1, k1, deep, td, own, tw, mk, mx, tm, at', seed', ta', ts', rfl, F7, N7, m1, m2, m3, e1, e2, rfl, hmx, hmk⟩
              refine A_cut 1 (fun s' => ∃ h1 k1 own tw mk mx tm at' seed' ta' ts', s' = { s with heap := h1, toks := k1 } ∧
                Fr g' L' h1 (fm nm_zlaw_number [some (.ref sp), some (.int b tb), some (.str p tp), some (.str x tx), some (.int V tv), some (.int U tu), some (.int deep td), some (.int own tw), some (.str mx tm)]) ∧ News g' L' h1 ((sp, stO at' ta' np seed' ts') :: rest) ∧ 0 ≤ at' ∧ 0 ≤ seed' ∧ seed' < 7877 ∧
                OwnP b own mk ∧ Tl 1 mx [mk]) ?_ ?_
              · dsimp only [List.take]
                k_steps
                · rename News _ _ _ (_ :: (sp, _) :: rest) => N9
                  exact Hid.mk ⟨rfl, _, _, _, _, _, _, _, _, _, _, _, rfl, by assumption, fun p hp => N9 p (.tail _ hp), by assumption, by assumption, by assumption, Or.inr ⟨by assumption, rfl, rfl⟩, lit_p1⟩
                · exact Hid.mk ⟨rfl, _, _, _, _, _, _, _, _, _, _, _, rfl, by assumption, by with_reducible assumption, by assumption, by assumption, by assumption, Or.inl ⟨rfl, hmk⟩, hmx⟩
                · rename News _ _ _ (_ :: (sp, _) :: rest) => N9
                  exact Hid.mk ⟨rfl, _, _, _, _, _, _, _, _, _, _, _, rfl, by assumption, fun p hp => N9 p (.tail _ hp), by assumption, by assumption, by assumption, Or.inl ⟨rfl, hmk⟩, hmx⟩
              · dsimp only [List.drop]
                clear N7 F7 m1 m2 m3 hmk hmx
                rintro _ ⟨h1, k1, own, tw, mk, mx, tm, at', seed', ta', ts', rfl, F8, N8, m1, m2, m3, O, hmx⟩
                refine A_cut 1 (fun s' => ∃ h1 k1 x tx plus at' seed' ta' ts', s' = { s with heap := h1, toks := k1 } ∧
                  Fr g' L' h1 (fm nm_zlaw_number [some (.ref sp), some (.int b tb), some (.str p tp), some (.str x tx), some (.int V tv), some (.int U tu), some (.int deep td), some (.int own tw), some (.str mx tm)]) ∧ News g' L' h1 ((sp, stO at' ta' np seed' ts') :: rest) ∧ 0 ≤ at' ∧ 0 ≤ seed' ∧ seed' < 7877 ∧
                  (plus = true → 0 ≤ deep) ∧ Tl 60 x (pl ++ ptL ah bh dot ++ mk :: (plL plus ++ dcI deep))) ?_ ?_
                · dsimp only [List.take]
                  k_steps
                  all_goals (rename News _ _ _ (_ :: (sp, _) :: rest) => N9)
                  · exact Hid.mk ⟨rfl, _, _, _, _, _, _, _, _, _, rfl, by assumption, fun p hp => N9 p (.tail _ hp), by assumption, by assumption, by assumption, fun _ => by assumption, nr_text (by assumption) (by decide)⟩
                  · exact Hid.mk ⟨rfl, _, _, _, _, false, _, _, _, _, rfl, by assumption, fun p hp => N9 p (.tail _ hp), by assumption, by assumption, by assumption, (fun h => by cases h), nr_text (plus := false) (by assumption) (by decide)⟩
                · dsimp only [List.drop]
                  clear N8 F8 m1 m2 m3 hx
                  rintro _ ⟨h1, k1, x, tx, plus, at', seed', ta', ts', rfl, F9, N9, m1, m2, m3, hpl, hx⟩
                  have hbV : bl V ≤ 8000 := by rw [hV]; exact horn_small hb2 hb16 (fun d hd => (List.mem_append.mp hd).elim (P.da d) (P.db d)) (by rw [List.length_append]; have := P.la; have := P.lb; omega) false
                  have hbU : bl U ≤ 8000 := by rw [hU]; exact bl_powS hb2 hb16 (by have := P.lb; omega)
                  obtain ⟨o1, o2⟩ := own_le hbp O
                  k_steps
                  rename News _ _ _ (_ :: (sp, _) :: rest) => N9
                  have hne := ne_of_news N9 (.head _) (.tail _ (.head _)) (fun h => absurd (Value.type.inj h) (by decide))
                  exact hret _ _ _ _ (by with_reducible assumption) N9 (nr_expo hx hbp P hV hU O e1 e2 hpl (by assumption) (by assumption) (by assumption) (by assumption) hne m1 m2 m3)
end Mine
end
--CON
set_option hygiene false in
local macro_rules | `(tactic| walk_at "call ref") => `(tactic| (
  k_here; (with_reducible show wpAny _ _ (call (Value.ref 179) _) _ _ _);
  (refine' Ctr.use (c_number _ _ _ _ _ _ _ _ ?cs ?ca ?c1 ?c2) ?cB ?cF ?cX ?cN ?cT ?cK ?cD ?cU (fun _ _ _ _ _ h => h.elim) ?_);
  (case cN => walk_at "M drop"); (case cs => assumption); (case ca => first | assumption | omega); (case c1 => assumption); (case c2 => assumption);
  (case cB => k_asm); (case cF => k_asm); (case cX => k_asm); (case cT => k_asm); (case cK => first | exact rfl | assumption);
  (case cD => first | (dsimp only [Around.deeper]; omega) | ktr_room); (case cU => first | (dsimp only [Around.deeper]; omega) | ktr_units);
  intro r9 ne9 h9 k9 F9 N9 hr9; (try unfold Mine.NumRet at hr9); obtain ⟨p9, x9, tx9, tv9, tu9, a9, s9, ta9, ts9, l9, V9, U9, rfl, hx9, hn9, z8, v9, w9, y9, rfl⟩ := hr9; (try dsimp only)))
--END

section
namespace Mine
theorem hd_is_more : (Str.ofString "is_more" == ("__debug__" : Str)) = false := by decide +kernel
theorem hd_minus : (Str.ofString "minus" == ("__debug__" : Str)) = false := by decide +kernel
theorem hd_rest : (Str.ofString "rest" == ("__debug__" : Str)) = false := by decide +kernel
theorem hd_size : (Str.ofString "size" == ("__debug__" : Str)) = false := by decide +kernel
theorem hd_whole : (Str.ofString "whole" == ("__debug__" : Str)) = false := by decide +kernel
abbrev sc_zlaw_rounded : Scope := { kind := .function, names := [(Str.ofString "over", .local), (Str.ofString "under", .local), (Str.ofString "bits", .local), (Str.ofString "way", .local), (Str.ofString "minus", .local), (Str.ofString "whole", .local), (Str.ofString "deep", .local), (Str.ofString "found", .local), (Str.ofString "rest", .local), (Str.ofString "is_more", .local), (Str.ofString "size", .local), (Str.ofString "abs", .globalImplicit)], isGenerator := false, isCoroutine := false, more := [] }
theorem kl_zlaw_rounded_over {cn : Str} {L a : Addr} {cd : Value} : (envOf cn sc_zlaw_rounded L a cd).kindOf (Str.ofString "over") = some .local := by kernel_rfl!
theorem kl_zlaw_rounded_under {cn : Str} {L a : Addr} {cd : Value} : (envOf cn sc_zlaw_rounded L a cd).kindOf (Str.ofString "under") = some .local := by kernel_rfl!
theorem kl_zlaw_rounded_bits {cn : Str} {L a : Addr} {cd : Value} : (envOf cn sc_zlaw_rounded L a cd).kindOf (Str.ofString "bits") = some .local := by kernel_rfl!
theorem kl_zlaw_rounded_way {cn : Str} {L a : Addr} {cd : Value} : (envOf cn sc_zlaw_rounded L a cd).kindOf (Str.ofString "way") = some .local := by kernel_rfl!
theorem kl_zlaw_rounded_minus {cn : Str} {L a : Addr} {cd : Value} : (envOf cn sc_zlaw_rounded L a cd).kindOf (Str.ofString "minus") = some .local := by kernel_rfl!
theorem kl_zlaw_rounded_whole {cn : Str} {L a : Addr} {cd : Value} : (envOf cn sc_zlaw_rounded L a cd).kindOf (Str.ofString "whole") = some .local := by kernel_rfl!
theorem kl_zlaw_rounded_deep {cn : Str} {L a : Addr} {cd : Value} : (envOf cn sc_zlaw_rounded L a cd).kindOf (Str.ofString "deep") = some .local := by kernel_rfl!
theorem kl_zlaw_rounded_found {cn : Str} {L a : Addr} {cd : Value} : (envOf cn sc_zlaw_rounded L a cd).kindOf (Str.ofString "found") = some .local := by kernel_rfl!
theorem kl_zlaw_rounded_rest {cn : Str} {L a : Addr} {cd : Value} : (envOf cn sc_zlaw_rounded L a cd).kindOf (Str.ofString "rest") = some .local := by kernel_rfl!
theorem kl_zlaw_rounded_is_more {cn : Str} {L a : Addr} {cd : Value} : (envOf cn sc_zlaw_rounded L a cd).kindOf (Str.ofString "is_more") = some .local := by kernel_rfl!
theorem kl_zlaw_rounded_size {cn : Str} {L a : Addr} {cd : Value} : (envOf cn sc_zlaw_rounded L a cd).kindOf (Str.ofString "size") = some .local := by kernel_rfl!
theorem kl_zlaw_rounded_abs {cn : Str} {L a : Addr} {cd : Value} : (envOf cn sc_zlaw_rounded L a cd).kindOf (Str.ofString "abs") = some .globalImplicit := by kernel_rfl!
def nm_zlaw_rounded : List Str := [Str.ofString "over", Str.ofString "under", Str.ofString "bits", Str.ofString "way", Str.ofString "found", Str.ofString "size", Str.ofString "minus", Str.ofString "whole", Str.ofString "deep", Str.ofString "rest", Str.ofString "is_more"]
theorem ix_zlaw_rounded_over : nm_zlaw_rounded.idxOf (Str.ofString "over") = 0 := by decide +kernel
theorem ix_zlaw_rounded_under : nm_zlaw_rounded.idxOf (Str.ofString "under") = 1 := by decide +kernel
theorem ix_zlaw_rounded_bits : nm_zlaw_rounded.idxOf (Str.ofString "bits") = 2 := by decide +kernel
theorem ix_zlaw_rounded_way : nm_zlaw_rounded.idxOf (Str.ofString "way") = 3 := by decide +kernel
theorem ix_zlaw_rounded_found : nm_zlaw_rounded.idxOf (Str.ofString "found") = 4 := by decide +kernel
theorem ix_zlaw_rounded_size : nm_zlaw_rounded.idxOf (Str.ofString "size") = 5 := by decide +kernel
theorem ix_zlaw_rounded_minus : nm_zlaw_rounded.idxOf (Str.ofString "minus") = 6 := by decide +kernel
theorem ix_zlaw_rounded_whole : nm_zlaw_rounded.idxOf (Str.ofString "whole") = 7 := by decide +kernel
theorem ix_zlaw_rounded_deep : nm_zlaw_rounded.idxOf (Str.ofString "deep") = 8 := by decide +kernel
theorem ix_zlaw_rounded_rest : nm_zlaw_rounded.idxOf (Str.ofString "rest") = 9 := by decide +kernel
theorem ix_zlaw_rounded_is_more : nm_zlaw_rounded.idxOf (Str.ofString "is_more") = 10 := by decide +kernel
theorem nd_zlaw_rounded : ([Str.ofString "over", Str.ofString "under", Str.ofString "bits", Str.ofString "way"] : List Str).Nodup := by decide +kernel
section
variable {M : Model} {A : Around} {E : Value → Shared → Prop} {s : Shared} {cn : Str} {L a : Addr} {cd : Value} {h₀ : Heap} {news : List (Addr × Obj)} {v : Value} {pos : Pos} {o0 o1 o2 o3 o4 o5 o6 o7 o8 o9 o10 : Option Value}
theorem base_zlaw_rounded {h : Heap} {v0 v1 v2 v3 : Value} (F : Fr h₀ L h (fun y => List.lookup y (List.zip [Str.ofString "over", Str.ofString "under", Str.ofString "bits", Str.ofString "way"] [v0, v1, v2, v3]).reverse)) : Fr h₀ L h (fm nm_zlaw_rounded [some v0, some v1, some v2, some v3, none, none, none, none, none, none, none]) := by
  rw [fm_base (ns₂ := [Str.ofString "found", Str.ofString "size", Str.ofString "minus", Str.ofString "whole", Str.ofString "deep", Str.ofString "rest", Str.ofString "is_more"]) (k := 7) nd_zlaw_rounded rfl] at F
  exact F
theorem ld_zlaw_rounded_over {Q : Value → Shared → Prop} (F : Fr h₀ L s.heap (fm nm_zlaw_rounded [some v, o1, o2, o3, o4, o5, o6, o7, o8, o9, o10])) (h : Q v s) : wpAny M A (eval (.Name (Str.ofString "over") pos) (envOf cn sc_zlaw_rounded L a cd)) Q E s := ld F ((fm_get ix_zlaw_rounded_over).trans rfl) h rfl kl_zlaw_rounded_over hd_over
theorem ldn_zlaw_rounded_over {Q : Value → Shared → Prop} (F : Fr h₀ L s.heap (fm nm_zlaw_rounded [some v, o1, o2, o3, o4, o5, o6, o7, o8, o9, o10])) (h : Q v s) : wpAny M A (loadName (envOf cn sc_zlaw_rounded L a cd) (Str.ofString "over")) Q E s := ldn F ((fm_get ix_zlaw_rounded_over).trans rfl) h rfl kl_zlaw_rounded_over
theorem st_zlaw_rounded_over {Q : Unit → Shared → Prop} (F : Fr h₀ L s.heap (fm nm_zlaw_rounded [o0, o1, o2, o3, o4, o5, o6, o7, o8, o9, o10])) (N : News h₀ L s.heap news) (h : ∀ h' k', Fr h₀ L h' (fm nm_zlaw_rounded [some v, o1, o2, o3, o4, o5, o6, o7, o8, o9, o10]) → News h₀ L h' news → Q () { s with heap := h', toks := k' }) : wpAny M A (storeName (envOf cn sc_zlaw_rounded L a cd) (Str.ofString "over") v) Q E s := r_st F N (fun h' k' F' N' => h h' k' (by rw [fm_set ix_zlaw_rounded_over (by decide) rfl] at F'; exact F') N') rfl kl_zlaw_rounded_over
theorem ld_zlaw_rounded_under {Q : Value → Shared → Prop} (F : Fr h₀ L s.heap (fm nm_zlaw_rounded [o0, some v, o2, o3, o4, o5, o6, o7, o8, o9, o10])) (h : Q v s) : wpAny M A (eval (.Name (Str.ofString "under") pos) (envOf cn sc_zlaw_rounded L a cd)) Q E s := ld F ((fm_get ix_zlaw_rounded_under).trans rfl) h rfl kl_zlaw_rounded_under hd_under
theorem ldn_zlaw_rounded_under {Q : Value → Shared → Prop} (F : Fr h₀ L s.heap (fm nm_zlaw_rounded [o0, some v, o2, o3, o4, o5, o6, o7, o8, o9, o10])) (h : Q v s) : wpAny M A (loadName (envOf cn sc_zlaw_rounded L a cd) (Str.ofString "under")) Q E s := ldn F ((fm_get ix_zlaw_rounded_under).trans rfl) h rfl kl_zlaw_rounded_under
theorem st_zlaw_rounded_under {Q : Unit → Shared → Prop} (F : Fr h₀ L s.heap (fm nm_zlaw_rounded [o0, o1, o2, o3, o4, o5, o6, o7, o8, o9, o10])) (N : News h₀ L s.heap news) (h : ∀ h' k', Fr h₀ L h' (fm nm_zlaw_rounded [o0, some v, o2, o3, o4, o5, o6, o7, o8, o9, o10]) → News h₀ L h' news → Q () { s with heap := h', toks := k' }) : wpAny M A (storeName (envOf cn sc_zlaw_rounded L a cd) (Str.ofString "under") v) Q E s := r_st F N (fun h' k' F' N' => h h' k' (by rw [fm_set ix_zlaw_rounded_under (by decide) rfl] at F'; exact F') N') rfl kl_zlaw_rounded_under
theorem ld_zlaw_rounded_bits {Q : Value → Shared → Prop} (F : Fr h₀ L s.heap (fm nm_zlaw_rounded [o0, o1, some v, o3, o4, o5, o6, o7, o8, o9, o10])) (h : Q v s) : wpAny M A (eval (.Name (Str.ofString "bits") pos) (envOf cn sc_zlaw_rounded L a cd)) Q E s := ld F ((fm_get ix_zlaw_rounded_bits).trans rfl) h rfl kl_zlaw_rounded_bits hd_bits
theorem ldn_zlaw_rounded_bits {Q : Value → Shared → Prop} (F : Fr h₀ L s.heap (fm nm_zlaw_rounded [o0, o1, some v, o3, o4, o5, o6, o7, o8, o9, o10])) (h : Q v s) : wpAny M A (loadName (envOf cn sc_zlaw_rounded L a cd) (Str.ofString "bits")) Q E s := ldn F ((fm_get ix_zlaw_rounded_bits).trans rfl) h rfl kl_zlaw_rounded_bits
theorem st_zlaw_rounded_bits {Q : Unit → Shared → Prop} (F : Fr h₀ L s.heap (fm nm_zlaw_rounded [o0, o1, o2, o3, o4, o5, o6, o7, o8, o9, o10])) (N : News h₀ L s.heap news) (h : ∀ h' k', Fr h₀ L h' (fm nm_zlaw_rounded [o0, o1, some v, o3, o4, o5, o6, o7, o8, o9, o10]) → News h₀ L h' news → Q () { s with heap := h', toks := k' }) : wpAny M A (storeName (envOf cn sc_zlaw_rounded L a cd) (Str.ofString "bits") v) Q E s := r_st F N (fun h' k' F' N' => h h' k' (by rw [fm_set ix_zlaw_rounded_bits (by decide) rfl] at F'; exact F') N') rfl kl_zlaw_rounded_bits
theorem ld_zlaw_rounded_way {Q : Value → Shared → Prop} (F : Fr h₀ L s.heap (fm nm_zlaw_rounded [o0, o1, o2, some v, o4, o5, o6, o7, o8, o9, o10])) (h : Q v s) : wpAny M A (eval (.Name (Str.ofString "way") pos) (envOf cn sc_zlaw_rounded L a cd)) Q E s := ld F ((fm_get ix_zlaw_rounded_way).trans rfl) h rfl kl_zlaw_rounded_way hd_way
theorem ldn_zlaw_rounded_way {Q : Value → Shared → Prop} (F : Fr h₀ L s.heap (fm nm_zlaw_rounded [o0, o1, o2, some v, o4, o5, o6, o7, o8, o9, o10])) (h : Q v s) : wpAny M A (loadName (envOf cn sc_zlaw_rounded L a cd) (Str.ofString "way")) Q E s := ldn F ((fm_get ix_zlaw_rounded_way).trans rfl) h rfl kl_zlaw_rounded_way
theorem st_zlaw_rounded_way {Q : Unit → Shared → Prop} (F : Fr h₀ L s.heap (fm nm_zlaw_rounded [o0, o1, o2, o3, o4, o5, o6, o7, o8, o9, o10])) (N : News h₀ L s.heap news) (h : ∀ h' k', Fr h₀ L h' (fm nm_zlaw_rounded [o0, o1, o2, some v, o4, o5, o6, o7, o8, o9, o10]) → News h₀ L h' news → Q () { s with heap := h', toks := k' }) : wpAny M A (storeName (envOf cn sc_zlaw_rounded L a cd) (Str.ofString "way") v) Q E s := r_st F N (fun h' k' F' N' => h h' k' (by rw [fm_set ix_zlaw_rounded_way (by decide) rfl] at F'; exact F') N') rfl kl_zlaw_rounded_way
theorem ld_zlaw_rounded_found {Q : Value → Shared → Prop} (F : Fr h₀ L s.heap (fm nm_zlaw_rounded [o0, o1, o2, o3, some v, o5, o6, o7, o8, o9, o10])) (h : Q v s) : wpAny M A (eval (.Name (Str.ofString "found") pos) (envOf cn sc_zlaw_rounded L a cd)) Q E s := ld F ((fm_get ix_zlaw_rounded_found).trans rfl) h rfl kl_zlaw_rounded_found hd_found
theorem ldn_zlaw_rounded_found {Q : Value → Shared → Prop} (F : Fr h₀ L s.heap (fm nm_zlaw_rounded [o0, o1, o2, o3, some v, o5, o6, o7, o8, o9, o10])) (h : Q v s) : wpAny M A (loadName (envOf cn sc_zlaw_rounded L a cd) (Str.ofString "found")) Q E s := ldn F ((fm_get ix_zlaw_rounded_found).trans rfl) h rfl kl_zlaw_rounded_found
theorem st_zlaw_rounded_found {Q : Unit → Shared → Prop} (F : Fr h₀ L s.heap (fm nm_zlaw_rounded [o0, o1, o2, o3, o4, o5, o6, o7, o8, o9, o10])) (N : News h₀ L s.heap news) (h : ∀ h' k', Fr h₀ L h' (fm nm_zlaw_rounded [o0, o1, o2, o3, some v, o5, o6, o7, o8, o9, o10]) → News h₀ L h' news → Q () { s with heap := h', toks := k' }) : wpAny M A (storeName (envOf cn sc_zlaw_rounded L a cd) (Str.ofString "found") v) Q E s := r_st F N (fun h' k' F' N' => h h' k' (by rw [fm_set ix_zlaw_rounded_found (by decide) rfl] at F'; exact F') N') rfl kl_zlaw_rounded_found
theorem ld_zlaw_rounded_size {Q : Value → Shared → Prop} (F : Fr h₀ L s.heap (fm nm_zlaw_rounded [o0, o1, o2, o3, o4, some v, o6, o7, o8, o9, o10])) (h : Q v s) : wpAny M A (eval (.Name (Str.ofString "size") pos) (envOf cn sc_zlaw_rounded L a cd)) Q E s := ld F ((fm_get ix_zlaw_rounded_size).trans rfl) h rfl kl_zlaw_rounded_size hd_size
theorem ldn_zlaw_rounded_size {Q : Value → Shared → Prop} (F : Fr h₀ L s.heap (fm nm_zlaw_rounded [o0, o1, o2, o3, o4, some v, o6, o7, o8, o9, o10])) (h : Q v s) : wpAny M A (loadName (envOf cn sc_zlaw_rounded L a cd) (Str.ofString "size")) Q E s := ldn F ((fm_get ix_zlaw_rounded_size).trans rfl) h rfl kl_zlaw_rounded_size
theorem st_zlaw_rounded_size {Q : Unit → Shared → Prop} (F : Fr h₀ L s.heap (fm nm_zlaw_rounded [o0, o1, o2, o3, o4, o5, o6, o7, o8, o9, o10])) (N : News h₀ L s.heap news) (h : ∀ h' k', Fr h₀ L h' (fm nm_zlaw_rounded [o0, o1, o2, o3, o4, some v, o6, o7, o8, o9, o10]) → News h₀ L h' news → Q () { s with heap := h', toks := k' }) : wpAny M A (storeName (envOf cn sc_zlaw_rounded L a cd) (Str.ofString "size") v) Q E s := r_st F N (fun h' k' F' N' => h h' k' (by rw [fm_set ix_zlaw_rounded_size (by decide) rfl] at F'; exact F') N') rfl kl_zlaw_rounded_size
theorem ld_zlaw_rounded_minus {Q : Value → Shared → Prop} (F : Fr h₀ L s.heap (fm nm_zlaw_rounded [o0, o1, o2, o3, o4, o5, some v, o7, o8, o9, o10])) (h : Q v s) : wpAny M A (eval (.Name (Str.ofString "minus") pos) (envOf cn sc_zlaw_rounded L a cd)) Q E s := ld F ((fm_get ix_zlaw_rounded_minus).trans rfl) h rfl kl_zlaw_rounded_minus hd_minus
theorem ldn_zlaw_rounded_minus {Q : Value → Shared → Prop} (F : Fr h₀ L s.heap (fm nm_zlaw_rounded [o0, o1, o2, o3, o4, o5, some v, o7, o8, o9, o10])) (h : Q v s) : wpAny M A (loadName (envOf cn sc_zlaw_rounded L a cd) (Str.ofString "minus")) Q E s := ldn F ((fm_get ix_zlaw_rounded_minus).trans rfl) h rfl kl_zlaw_rounded_minus
theorem st_zlaw_rounded_minus {Q : Unit → Shared → Prop} (F : Fr h₀ L s.heap (fm nm_zlaw_rounded [o0, o1, o2, o3, o4, o5, o6, o7, o8, o9, o10])) (N : News h₀ L s.heap news) (h : ∀ h' k', Fr h₀ L h' (fm nm_zlaw_rounded [o0, o1, o2, o3, o4, o5, some v, o7, o8, o9, o10]) → News h₀ L h' news → Q () { s with heap := h', toks := k' }) : wpAny M A (storeName (envOf cn sc_zlaw_rounded L a cd) (Str.ofString "minus") v) Q E s := r_st F N (fun h' k' F' N' => h h' k' (by rw [fm_set ix_zlaw_rounded_minus (by decide) rfl] at F'; exact F') N') rfl kl_zlaw_rounded_minus
theorem ld_zlaw_rounded_whole {Q : Value → Shared → Prop} (F : Fr h₀ L s.heap (fm nm_zlaw_rounded [o0, o1, o2, o3, o4, o5, o6, some v, o8, o9, o10])) (h : Q v s) : wpAny M A (eval (.Name (Str.ofString "whole") pos) (envOf cn sc_zlaw_rounded L a cd)) Q E s := ld F ((fm_get ix_zlaw_rounded_whole).trans rfl) h rfl kl_zlaw_rounded_whole hd_whole
theorem ldn_zlaw_rounded_whole {Q : Value → Shared → Prop} (F : Fr h₀ L s.heap (fm nm_zlaw_rounded [o0, o1, o2, o3, o4, o5, o6, some v, o8, o9, o10])) (h : Q v s) : wpAny M A (loadName (envOf cn sc_zlaw_rounded L a cd) (Str.ofString "whole")) Q E s := ldn F ((fm_get ix_zlaw_rounded_whole).trans rfl) h rfl kl_zlaw_rounded_whole
theorem st_zlaw_rounded_whole {Q : Unit → Shared → Prop} (F : Fr h₀ L s.heap (fm nm_zlaw_rounded [o0, o1, o2, o3, o4, o5, o6, o7, o8, o9, o10])) (N : News h₀ L s.heap news) (h : ∀ h' k', Fr h₀ L h' (fm nm_zlaw_rounded [o0, o1, o2, o3, o4, o5, o6, some v, o8, o9, o10]) → News h₀ L h' news → Q () { s with heap := h', toks := k' }) : wpAny M A (storeName (envOf cn sc_zlaw_rounded L a cd) (Str.ofString "whole") v) Q E s := r_st F N (fun h' k' F' N' => h h' k' (by rw [fm_set ix_zlaw_rounded_whole (by decide) rfl] at F'; exact F') N') rfl kl_zlaw_rounded_whole
theorem ld_zlaw_rounded_deep {Q : Value → Shared → Prop} (F : Fr h₀ L s.heap (fm nm_zlaw_rounded [o0, o1, o2, o3, o4, o5, o6, o7, some v, o9, o10])) (h : Q v s) : wpAny M A (eval (.Name (Str.ofString "deep") pos) (envOf cn sc_zlaw_rounded L a cd)) Q E s := ld F ((fm_get ix_zlaw_rounded_deep).trans rfl) h rfl kl_zlaw_rounded_deep hd_deep
theorem ldn_zlaw_rounded_deep {Q : Value → Shared → Prop} (F : Fr h₀ L s.heap (fm nm_zlaw_rounded [o0, o1, o2, o3, o4, o5, o6, o7, some v, o9, o10])) (h : Q v s) : wpAny M A (loadName (envOf cn sc_zlaw_rounded L a cd) (Str.ofString "deep")) Q E s := ldn F ((fm_get ix_zlaw_rounded_deep).trans rfl) h rfl kl_zlaw_rounded_deep
theorem st_zlaw_rounded_deep {Q : Unit → Shared → Prop} (F : Fr h₀ L s.heap (fm nm_zlaw_rounded [o0, o1, o2, o3, o4, o5, o6, o7, o8, o9, o10])) (N : News h₀ L s.heap news) (h : ∀ h' k', Fr h₀ L h' (fm nm_zlaw_rounded [o0, o1, o2, o3, o4, o5, o6, o7, some v, o9, o10]) → News h₀ L h' news → Q () { s with heap := h', toks := k' }) : wpAny M A (storeName (envOf cn sc_zlaw_rounded L a cd) (Str.ofString "deep") v) Q E s := r_st F N (fun h' k' F' N' => h h' k' (by rw [fm_set ix_zlaw_rounded_deep (by decide) rfl] at F'; exact F') N') rfl kl_zlaw_rounded_deep
theorem ld_zlaw_rounded_rest {Q : Value → Shared → Prop} (F : Fr h₀ L s.heap (fm nm_zlaw_rounded [o0, o1, o2, o3, o4, o5, o6, o7, o8, some v, o10])) (h : Q v s) : wpAny M A (eval (.Name (Str.ofString "rest") pos) (envOf cn sc_zlaw_rounded L a cd)) Q E s := ld F ((fm_get ix_zlaw_rounded_rest).trans rfl) h rfl kl_zlaw_rounded_rest hd_rest
theorem ldn_zlaw_rounded_rest {Q : Value → Shared → Prop} (F : Fr h₀ L s.heap (fm nm_zlaw_rounded [o0, o1, o2, o3, o4, o5, o6, o7, o8, some v, o10])) (h : Q v s) : wpAny M A (loadName (envOf cn sc_zlaw_rounded L a cd) (Str.ofString "rest")) Q E s := ldn F ((fm_get ix_zlaw_rounded_rest).trans rfl) h rfl kl_zlaw_rounded_rest
theorem st_zlaw_rounded_rest {Q : Unit → Shared → Prop} (F : Fr h₀ L s.heap (fm nm_zlaw_rounded [o0, o1, o2, o3, o4, o5, o6, o7, o8, o9, o10])) (N : News h₀ L s.heap news) (h : ∀ h' k', Fr h₀ L h' (fm nm_zlaw_rounded [o0, o1, o2, o3, o4, o5, o6, o7, o8, some v, o10]) → News h₀ L h' news → Q () { s with heap := h', toks := k' }) : wpAny M A (storeName (envOf cn sc_zlaw_rounded L a cd) (Str.ofString "rest") v) Q E s := r_st F N (fun h' k' F' N' => h h' k' (by rw [fm_set ix_zlaw_rounded_rest (by decide) rfl] at F'; exact F') N') rfl kl_zlaw_rounded_rest
theorem ld_zlaw_rounded_is_more {Q : Value → Shared → Prop} (F : Fr h₀ L s.heap (fm nm_zlaw_rounded [o0, o1, o2, o3, o4, o5, o6, o7, o8, o9, some v])) (h : Q v s) : wpAny M A (eval (.Name (Str.ofString "is_more") pos) (envOf cn sc_zlaw_rounded L a cd)) Q E s := ld F ((fm_get ix_zlaw_rounded_is_more).trans rfl) h rfl kl_zlaw_rounded_is_more hd_is_more
theorem ldn_zlaw_rounded_is_more {Q : Value → Shared → Prop} (F : Fr h₀ L s.heap (fm nm_zlaw_rounded [o0, o1, o2, o3, o4, o5, o6, o7, o8, o9, some v])) (h : Q v s) : wpAny M A (loadName (envOf cn sc_zlaw_rounded L a cd) (Str.ofString "is_more")) Q E s := ldn F ((fm_get ix_zlaw_rounded_is_more).trans rfl) h rfl kl_zlaw_rounded_is_more
theorem st_zlaw_rounded_is_more {Q : Unit → Shared → Prop} (F : Fr h₀ L s.heap (fm nm_zlaw_rounded [o0, o1, o2, o3, o4, o5, o6, o7, o8, o9, o10])) (N : News h₀ L s.heap news) (h : ∀ h' k', Fr h₀ L h' (fm nm_zlaw_rounded [o0, o1, o2, o3, o4, o5, o6, o7, o8, o9, some v]) → News h₀ L h' news → Q () { s with heap := h', toks := k' }) : wpAny M A (storeName (envOf cn sc_zlaw_rounded L a cd) (Str.ofString "is_more") v) Q E s := r_st F N (fun h' k' F' N' => h h' k' (by rw [fm_set ix_zlaw_rounded_is_more (by decide) rfl] at F'; exact F') N') rfl kl_zlaw_rounded_is_more
end
end Mine

local macro_rules | `(tactic| walk_at "eval Name") => `(tactic| (
  k_here; with_reducible (first
   | (refine' ld_zlaw_rounded_over ?hF9 ?_; (case hF9 => assumption))
   | (refine' ld_zlaw_rounded_under ?hF9 ?_; (case hF9 => assumption))
   | (refine' ld_zlaw_rounded_bits ?hF9 ?_; (case hF9 => assumption))
   | (refine' ld_zlaw_rounded_way ?hF9 ?_; (case hF9 => assumption))
   | (refine' ld_zlaw_rounded_found ?hF9 ?_; (case hF9 => assumption))
   | (refine' ld_zlaw_rounded_size ?hF9 ?_; (case hF9 => assumption))
   | (refine' ld_zlaw_rounded_minus ?hF9 ?_; (case hF9 => assumption))
   | (refine' ld_zlaw_rounded_whole ?hF9 ?_; (case hF9 => assumption))
   | (refine' ld_zlaw_rounded_deep ?hF9 ?_; (case hF9 => assumption))
   | (refine' ld_zlaw_rounded_rest ?hF9 ?_; (case hF9 => assumption))
   | (refine' ld_zlaw_rounded_is_more ?hF9 ?_; (case hF9 => assumption))
   | (refine' bname bl_abs bv_abs bn_abs hd_abs ?hF9 ?hX9 ?hT9 rfl kl_zlaw_rounded_abs ?_; (case hF9 => assumption); (case hX9 => assumption); (case hT9 => assumption)))))
local macro_rules | `(tactic| walk_at "loadName") => `(tactic| (
  k_here; with_reducible (first
   | (refine' ldn_zlaw_rounded_over ?hF9 ?_; (case hF9 => assumption))
   | (refine' ldn_zlaw_rounded_under ?hF9 ?_; (case hF9 => assumption))
   | (refine' ldn_zlaw_rounded_bits ?hF9 ?_; (case hF9 => assumption))
   | (refine' ldn_zlaw_rounded_way ?hF9 ?_; (case hF9 => assumption))
   | (refine' ldn_zlaw_rounded_found ?hF9 ?_; (case hF9 => assumption))
   | (refine' ldn_zlaw_rounded_size ?hF9 ?_; (case hF9 => assumption))
   | (refine' ldn_zlaw_rounded_minus ?hF9 ?_; (case hF9 => assumption))
   | (refine' ldn_zlaw_rounded_whole ?hF9 ?_; (case hF9 => assumption))
   | (refine' ldn_zlaw_rounded_deep ?hF9 ?_; (case hF9 => assumption))
   | (refine' ldn_zlaw_rounded_rest ?hF9 ?_; (case hF9 => assumption))
   | (refine' ldn_zlaw_rounded_is_more ?hF9 ?_; (case hF9 => assumption)))))
local macro_rules | `(tactic| walk_at "storeName") => `(tactic| (
  k_here; with_reducible (first
   | (refine' st_zlaw_rounded_over ?hF9 ?hN9 ?_; (case hF9 => assumption); (case hN9 => assumption); intro _ _ _ _; (try dsimp only); (try k_sweep))
   | (refine' st_zlaw_rounded_under ?hF9 ?hN9 ?_; (case hF9 => assumption); (case hN9 => assumption); intro _ _ _ _; (try dsimp only); (try k_sweep))
   | (refine' st_zlaw_rounded_bits ?hF9 ?hN9 ?_; (case hF9 => assumption); (case hN9 => assumption); intro _ _ _ _; (try dsimp only); (try k_sweep))
   | (refine' st_zlaw_rounded_way ?hF9 ?hN9 ?_; (case hF9 => assumption); (case hN9 => assumption); intro _ _ _ _; (try dsimp only); (try k_sweep))
   | (refine' st_zlaw_rounded_found ?hF9 ?hN9 ?_; (case hF9 => assumption); (case hN9 => assumption); intro _ _ _ _; (try dsimp only); (try k_sweep))
   | (refine' st_zlaw_rounded_size ?hF9 ?hN9 ?_; (case hF9 => assumption); (case hN9 => assumption); intro _ _ _ _; (try dsimp only); (try k_sweep))
   | (refine' st_zlaw_rounded_minus ?hF9 ?hN9 ?_; (case hF9 => assumption); (case hN9 => assumption); intro _ _ _ _; (try dsimp only); (try k_sweep))
   | (refine' st_zlaw_rounded_whole ?hF9 ?hN9 ?_; (case hF9 => assumption); (case hN9 => assumption); intro _ _ _ _; (try dsimp only); (try k_sweep))
   | (refine' st_zlaw_rounded_deep ?hF9 ?hN9 ?_; (case hF9 => assumption); (case hN9 => assumption); intro _ _ _ _; (try dsimp only); (try k_sweep))
   | (refine' st_zlaw_rounded_rest ?hF9 ?hN9 ?_; (case hF9 => assumption); (case hN9 => assumption); intro _ _ _ _; (try dsimp only); (try k_sweep))
   | (refine' st_zlaw_rounded_is_more ?hF9 ?hN9 ?_; (case hF9 => assumption); (case hN9 => assumption); intro _ _ _ _; (try dsimp only); (try k_sweep)))))
set_option hygiene false in
local macro_rules | `(tactic| walk_at "M base") => `(tactic| (
  (rename Fr _ _ _ _ => F1);
  (replace F1 := base_zlaw_rounded F1)))

namespace Mine
section
variable {prog : Program} {w : World} {A : Around} {E : Value → Shared → Prop} {s : Shared} {env : Env}
/-- a while by what holds between its turns and a measure -/
theorem W_while {test : Expr} {body : List Stmt} {pos : Pos} {Q : Flow → Shared → Prop} (I : Nat → Shared → Prop) (n : Nat) (h0 : I n s)
    (turn : ∀ n s, I n s → wpAny (model prog w) A (isTrue test env (eval test env)) (fun b s₁ => if b then wpAny (model prog w) A (execs body env) (fun f s₂ => Hid (f = .next ∧ ∃ m, m < n ∧ I m s₂)) (fun _ _ => False) s₁ else Q .next s₁) (fun _ _ => False) s) :
    wpAny (model prog w) A (exec (.While test body [] pos) env) Q E s :=
  wpAny_While (codeAny_whileLoop I (fun n s hI => wpAny_mono (turn n s hI) (fun b s₂ h => by
    cases b
    · exact wpAny_execs_nil h
    · exact wpAny_mono h (fun f s₃ q => by have q2 := q.out; obtain ⟨rfl, q3⟩ := q2; exact q3) fun _ _ q => q.elim) fun _ _ q => q.elim) n h0)
end
section
variable {prog : Program} {w : World} {A : Around} {E : Value → Shared → Prop} {s : Shared} {Q : Value → Shared → Prop} {a b : Nat} {n : Int} {t u : Tok}
theorem n_fdiv (hb : 0 < b) (hl : bl (b : Int) ≤ 8000) (h : ∀ t' k', Q (.int ((a / b : Nat) : Int) t') { s with toks := k' }) : wpAny (model prog w) A (binaryOp .FloorDiv (.int (a : Int) t) (.int (b : Int) u)) Q E s :=
  floordiv_int (by omega) (by rw [Int.fdiv_eq_ediv_of_nonneg _ (by omega), ← Int.natCast_ediv]; exact h _ _) (Or.inl (PyProof.noPylong_of_log2 (log2_of_bl hl)))
theorem n_mod (hb : 0 < b) (h : ∀ t' k', Q (.int ((a % b : Nat) : Int) t') { s with toks := k' }) : wpAny (model prog w) A (binaryOp .Mod (.int (a : Int) t) (.int (b : Int) u)) Q E s :=
  PyProof.Rows.mod_int' (by omega) (by rw [Int.fmod_eq_emod_of_nonneg _ (by omega), ← Int.natCast_emod]; exact h _ _)
theorem n_mod2 (h : ∀ t' k', Q (.int ((a % 2 : Nat) : Int) t') { s with toks := k' }) : wpAny (model prog w) A (binaryOp .Mod (.int (a : Int) t) (.int 2 u)) Q E s := n_mod (b := 2) (by decide) h
theorem n_half (h : ∀ t' k', Q (.int ((a / 2 : Nat) : Int) t') { s with toks := k' }) : wpAny (model prog w) A (binaryOp .FloorDiv (.int (a : Int) t) (.int 2 u)) Q E s := n_fdiv (b := 2) (by decide) (by decide) h
theorem n_dbl (hl : bl (a : Int) ≤ 8000) (h : ∀ t' k', Q (.int ((a * 2 : Nat) : Int) t') { s with toks := k' }) : wpAny (model prog w) A (binaryOp .Mult (.int (a : Int) t) (.int 2 u)) Q E s :=
  r_mulB (by omega) (by decide) fun v t' k' e _ => by rw [e.out]; exact h t' k'
theorem n_twice (hl : bl (a : Int) ≤ 8000) (h : ∀ t' k', Q (.int ((2 * a : Nat) : Int) t') { s with toks := k' }) : wpAny (model prog w) A (binaryOp .Mult (.int 2 t) (.int (a : Int) u)) Q E s :=
  r_mulB (by decide) (by omega) fun v t' k' e _ => by rw [e.out]; exact h t' k'
theorem n_shl (h0 : 0 ≤ n) (h1 : n ≤ 100) (h : ∀ t' k', Q (.int ((2 ^ n.toNat : Nat) : Int) t') { s with toks := k' }) : wpAny (model prog w) A (binaryOp .LShift (.int 1 t) (.int n u)) Q E s :=
  r_shl1 h0 (by omega) fun v t' k' e => by
    have : shl 1 n = ((2 ^ n.toNat : Nat) : Int) := by unfold shl; simp
    rw [e.out, this]; exact h t' k'
theorem n_shr (h : ∀ t' k', Q (.int ((a / 2 ^ b : Nat) : Int) t') { s with toks := k' }) : wpAny (model prog w) A (binaryOp .RShift (.int (a : Int) t) (.int (b : Int) u)) Q E s :=
  r_shr (by omega) fun v t' k' e => by rw [e.out, shr_nat]; exact h t' k'
theorem n_abs {x : Int} (h : ∀ t' k', Q (.int ((x.natAbs : Nat) : Int) t') { s with toks := k' }) : wpAny (model prog w) A (call (.builtin "abs") [.int x t]) Q E s :=
  call_abs_int fun t' k' => by
    have e : (if x < 0 then -x else x) = ((x.natAbs : Nat) : Int) := by split <;> omega
    rw [e]; exact h t' k'
end
end Mine
local macro_rules | `(tactic| walk_at "call builtin:abs") => `(tactic| (k_here; (refine n_abs ?_); intro _ _; (try dsimp only)))
local macro_rules | `(tactic| walk_at "binaryOp LShift int int") => `(tactic| (k_here; (refine n_shl (by omega) (by omega) ?_); intro _ _; (try dsimp only)))
local macro_rules | `(tactic| walk_at "binaryOp RShift int int") => `(tactic| (k_here; (refine n_shr ?_); intro _ _; (try dsimp only)))
local macro_rules | `(tactic| walk_at "binaryOp FloorDiv int int") => `(tactic| (k_here; first | (refine n_half ?_) | (refine n_fdiv (by assumption) (by omega) ?_); intro _ _; (try dsimp only)))
local macro_rules | `(tactic| walk_at "binaryOp Mod int int") => `(tactic| (k_here; first | (refine n_mod2 ?_) | (refine n_mod (by assumption) ?_); intro _ _; (try dsimp only)))
local macro_rules | `(tactic| walk_at "binaryOp Mult int int") => `(tactic| (k_here; first | (refine n_dbl (by omega) ?_) | (refine n_twice (by omega) ?_); intro _ _; (try dsimp only)))
namespace Mine
theorem nat_lt_of_div {W U P : Nat} (hU : 0 < U) (h : W / U < P) : W < U * P := by
  rw [Nat.mul_comm]; exact (Nat.div_lt_iff_lt_mul hU).mp h
theorem bl_dbl {a : Nat} {k : Int} (h : bl (a : Int) ≤ k) (h0 : 0 ≤ k) : bl ((a * 2 : Nat) : Int) ≤ k + 1 := by
  obtain ⟨n, rfl⟩ := Int.eq_ofNat_of_zero_le h0
  have := bl_nat.mp h
  exact bl_nat.mpr (by rw [Nat.pow_succ]; omega)
theorem bl_le_mono {a b : Nat} {k : Int} (h : a ≤ b) (hb : bl (b : Int) ≤ k) : bl (a : Int) ≤ k := Int.le_trans (bl_mono (by omega) (by omega)) hb
section
variable {sg : Int} {q r U : Nat}
theorem up_n1 (h : (U : Int) < ((2 * r : Nat) : Int)) : true = upW sg (Str.ofString "n") q r U := by
  unfold upW; rw [if_pos rfl, decide_eq_true (Int.ofNat_lt.mp h)]; rfl
theorem up_n2 (h1 : ¬ (U : Int) < ((2 * r : Nat) : Int)) (h2 : ((2 * r : Nat) : Int) = (U : Int)) : decide (((q % 2 : Nat) : Int) = 1) = upW sg (Str.ofString "n") q r U := by
  unfold upW; rw [if_pos rfl, decide_eq_false (fun h => h1 (Int.ofNat_lt.mpr h)), decide_eq_true (Int.ofNat_inj.mp h2), Bool.false_or, Bool.true_and]
  exact decide_eq_decide.mpr (by omega)
theorem up_n3 (h1 : ¬ (U : Int) < ((2 * r : Nat) : Int)) (h2 : ((2 * r : Nat) : Int) ≠ (U : Int)) : false = upW sg (Str.ofString "n") q r U := by
  unfold upW; rw [if_pos rfl, decide_eq_false (fun h => h1 (Int.ofNat_lt.mpr h)), decide_eq_false (fun h => h2 (by rw [h]))]; rfl
theorem ne_fn : (Str.ofString "f") ≠ (Str.ofString "n") := by decide +kernel
theorem ne_cn : (Str.ofString "c") ≠ (Str.ofString "n") := by decide +kernel
theorem ne_un : (Str.ofString "u") ≠ (Str.ofString "n") := by decide +kernel
theorem ne_dn : (Str.ofString "d") ≠ (Str.ofString "n") := by decide +kernel
theorem ne_fu : (Str.ofString "f") ≠ (Str.ofString "u") := by decide +kernel
theorem ne_fc : (Str.ofString "f") ≠ (Str.ofString "c") := by decide +kernel
theorem ne_cu : (Str.ofString "c") ≠ (Str.ofString "u") := by decide +kernel
theorem ne_cf : (Str.ofString "c") ≠ (Str.ofString "f") := by decide +kernel
theorem ne_du : (Str.ofString "d") ≠ (Str.ofString "u") := by decide +kernel
theorem ne_dc : (Str.ofString "d") ≠ (Str.ofString "c") := by decide +kernel
theorem ne_df : (Str.ofString "d") ≠ (Str.ofString "f") := by decide +kernel
theorem up_0 {rnd : Str} (h : ¬ 0 < (r : Int)) (hn : rnd ≠ Str.ofString "n") : false = upW sg rnd q r U := by
  unfold upW; rw [if_neg hn, decide_eq_false (by omega)]; rfl
theorem up_f1 (h : 0 < (r : Int)) : decide (sg = 1) = upW sg (Str.ofString "f") q r U := by
  unfold upW; rw [if_neg ne_fn, decide_eq_true (by omega : 0 < r), decide_eq_false ne_fu, decide_eq_false ne_fc]; simp
theorem up_c1 (h : 0 < (r : Int)) (hs : sg = 0) : true = upW sg (Str.ofString "c") q r U := by
  unfold upW; rw [if_neg ne_cn, decide_eq_true (by omega : 0 < r), decide_eq_false ne_cu, decide_eq_true hs]; simp
theorem up_c2 (h : 0 < (r : Int)) (hs : sg ≠ 0) : false = upW sg (Str.ofString "c") q r U := by
  unfold upW; rw [if_neg ne_cn, decide_eq_true (by omega : 0 < r), decide_eq_false ne_cu, decide_eq_false hs, decide_eq_false ne_cf]; simp
theorem up_u1 (h : 0 < (r : Int)) : true = upW sg (Str.ofString "u") q r U := by
  unfold upW; rw [if_neg ne_un, decide_eq_true (by omega : 0 < r)]; simp
theorem up_d1 : false = upW sg (Str.ofString "d") q r U := by
  unfold upW; rw [if_neg ne_dn, decide_eq_false ne_du, decide_eq_false ne_dc, decide_eq_false ne_df]; simp
end
theorem l1_step {N U : Nat} {bits : Int} (hU : 0 < U) (hb : 1 ≤ bits) (h : ((2 ^ bits.toNat : Nat) : Int) ≤ ((N / U : Nat) : Int)) : N / (U * 2) < N / U ∧ U * 2 ≤ N := by
  have h1 : 2 ^ bits.toNat ≤ N / U := Int.ofNat_le.mp h
  have h2 : 2 ^ 1 ≤ 2 ^ bits.toNat := Nat.pow_le_pow_right (by decide) (by omega)
  have h3 : 2 ≤ N / U := by omega
  refine ⟨?_, ?_⟩
  · rw [← Nat.div_div_eq_div_mul]; omega
  · have := (Nat.le_div_iff_mul_le hU).mp h3
    omega
theorem two_bits {bits : Int} (hb : 1 ≤ bits) : 2 ^ bits.toNat = 2 * 2 ^ (bits - 1).toNat := by
  rw [show bits.toNat = (bits - 1).toNat + 1 from by omega, Nat.pow_succ, Nat.mul_comm]
theorem l2_step {W U : Nat} {bits : Int} (hU : 0 < U) (hW : 0 < W) (hb : 1 ≤ bits) (h : ((W / U : Nat) : Int) < ((2 ^ (bits - 1).toNat : Nat) : Int)) : U * 2 ^ bits.toNat - W * 2 < U * 2 ^ bits.toNat - W ∧ W * 2 / U < 2 ^ bits.toNat := by
  have h1 : W / U < 2 ^ (bits - 1).toNat := Int.ofNat_lt.mp h
  have h2 := nat_lt_of_div hU h1
  rw [two_bits hb]
  have h3 : U * (2 * 2 ^ (bits - 1).toNat) = 2 * (U * 2 ^ (bits - 1).toNat) := by ac_rfl
  rw [h3]
  refine ⟨by omega, (Nat.div_lt_iff_lt_mul hU).mpr ?_⟩
  rw [Nat.mul_comm _ U, h3]; omega
theorem l2_bl {W U : Nat} {bits k : Int} (hU : 0 < U) (hb : bits ≤ 60) (h : W / U < 2 ^ bits.toNat) (hk : bl (U : Int) ≤ k) : bl (W : Int) ≤ k + 60 := by
  have h1 := nat_lt_of_div hU h
  have h2 : 2 ^ bits.toNat ≤ 2 ^ 60 := Nat.pow_le_pow_right (by decide) (by omega)
  have h3 : U * 2 ^ bits.toNat ≤ 2 ^ 60 * U := by rw [Nat.mul_comm]; exact Nat.mul_le_mul_right _ h2
  have h4 := bl_mul_pow U 60 hU
  exact bl_le_mono (b := 2 ^ 60 * U) (by omega) (by omega)
theorem l2_key {N D W U i j : Nat} {d : Int} (hW : W = N * 2 ^ i) (hU : U = D * 2 ^ j) (hd : d = (j : Int) - i) : W * D * 2 ^ d.toNat = N * U * 2 ^ (-d).toNat := by
  subst hW hU
  have e : i + d.toNat = j + (-d).toNat := by omega
  calc N * 2 ^ i * D * 2 ^ d.toNat = N * D * 2 ^ (i + d.toNat) := by rw [Nat.pow_add]; ac_rfl
    _ = N * (D * 2 ^ j) * 2 ^ (-d).toNat := by rw [e, Nat.pow_add]; ac_rfl
/-- what _law_rounded answers -/
def RndRet (over under bits : Int) (way : Str) (news : List (Addr × Obj)) (r : Value) (ne : List (Addr × Obj)) : Prop :=
  ∃ a u1 u2 u3 u4 sg m e c, r = .ref a ∧ ne = (a, { cls := .type "tuple", data := .seq #[.int sg u1, .int m u2, .int e u3, .int c u4] }) :: news ∧ (∀ p ∈ news, p.1 < a) ∧
    ((over = 0 ∧ sg = 0 ∧ m = 0 ∧ e = 0 ∧ c = 0) ∨ (over ≠ 0 ∧ sg = sgF over ∧ Rd (sgF over) over.natAbs under.natAbs bits way m e c))
set_option maxHeartbeats 40000000 in
theorem c_rounded (over under bits : Int) (way : Str) (t1 t2 t3 t4 : Tok) (news : List (Addr × Obj)) (hU : 0 < under) (b1 : bl over ≤ 1000) (b2 : bl under ≤ 1000) (hp1 : 1 ≤ bits) (hp2 : bits ≤ 60) (hw : WayOk way) :
   Ctr 146 [.int over t1, .int under t2, .int bits t3, .str way t4] 8 news (RndRet over under bits way news) (fun _ => False) := by
  obtain ⟨D, rfl⟩ := Int.eq_ofNat_of_zero_le (Int.le_of_lt hU)
  walk_at "M enter"
  walk_at "M base"
  refine A_cutR 2 (fun s' => ∃ h1 k1 u1 u2 u3 o1 o2 o3 o4, s' = { s with heap := h1, toks := k1 } ∧ over ≠ 0 ∧
    Fr g' L' h1 (fm nm_zlaw_rounded [some (.int over t1), some (.int (D : Int) t2), some (.int bits t3), some (.str way t4), o1, o2, some (.int (sgF over) u1), some (.int (over.natAbs : Int) u2), some (.int 0 u3), o3, o4]) ∧ News g' L' h1 news) ?_ ?_
  · dsimp only [List.take]
    k_steps
    · exact hret _ _ _ _ (by with_reducible assumption) (by with_reducible assumption) ⟨_, _, _, _, _, _, _, _, _, rfl, rfl, by assumption, Or.inl ⟨by assumption, rfl, rfl, rfl, rfl⟩⟩
    · exact Hid.mk ⟨_, _, _, _, _, _, _, _, _, rfl, by assumption, (by rw [show sgF over = 1 from if_pos (by assumption)]; assumption), cb_drop (by with_reducible assumption) (fun p hp => .tail _ hp)⟩
    · exact Hid.mk ⟨_, _, _, _, _, _, _, _, _, rfl, by assumption, (by rw [show sgF over = 0 from if_neg (by assumption)]; assumption), cb_drop (by with_reducible assumption) (fun p hp => .tail _ hp)⟩
  · dsimp only [List.drop]
    clear N' F1
    rintro _ ⟨h1, k1, u1, u2, u3, o1, o2, o3, o4, rfl, hov, F2, N2⟩
    generalize hN : over.natAbs = N at F2
    have hN0 : 0 < N := by omega
    have hD0 : 0 < D := by omega
    have bN : bl (N : Int) ≤ 1000 := by rw [← hN, ← absF_nat, bl_absF]; exact b1
    refine A_cut 1 (fun s' => ∃ h1 k1 t2 u3 o1 o2 o3 o4, ∃ U j : Nat, s' = { s with heap := h1, toks := k1 } ∧
      Fr g' L' h1 (fm nm_zlaw_rounded [some (.int over t1), some (.int (U : Int) t2), some (.int bits t3), some (.str way t4), o1, o2, some (.int (sgF over) u1), some (.int (N : Int) u2), some (.int (j : Int) u3), o3, o4]) ∧ News g' L' h1 news ∧
      U = D * 2 ^ j ∧ bl (U : Int) ≤ 1000 ∧ N / U < 2 ^ bits.toNat) ?_ ?_
    · dsimp only [List.take]
      refine wpAny_execs_cons (W_while (fun n s' => ∃ h1 k1 t2 u3 o1 o2 o3 o4, ∃ U j : Nat, s' = { s with heap := h1, toks := k1 } ∧
        Fr g' L' h1 (fm nm_zlaw_rounded [some (.int over t1), some (.int (U : Int) t2), some (.int bits t3), some (.str way t4), o1, o2, some (.int (sgF over) u1), some (.int (N : Int) u2), some (.int (j : Int) u3), o3, o4]) ∧ News g' L' h1 news ∧
        U = D * 2 ^ j ∧ bl (U : Int) ≤ 1000 ∧ n = N / U) (N / D) ⟨_, _, _, _, _, _, _, _, D, 0, rfl, F2, N2, by simp, b2, rfl⟩ ?_)
      rintro n _ ⟨h1, k1, t2, u3, o1, o2, o3, o4, U, j, rfl, F3, N3, hUj, hbU, rfl⟩
      have hU0 : 0 < U := by rw [hUj]; exact Nat.mul_pos hD0 (Nat.two_pow_pos j)
      clear F2 N2
      k_steps
      · obtain ⟨q1, q2⟩ := l1_step hU0 hp1 (by assumption)
        exact Hid.mk ⟨rfl, N / (U * 2), q1, _, _, _, _, _, _, _, _, U * 2, j + 1, rfl, (by rw [Int.natCast_succ]; assumption), cb_drop (by with_reducible assumption) (fun p hp => .tail _ hp), (by rw [hUj, Nat.pow_succ, Nat.mul_assoc]), bl_le_mono q2 bN, rfl⟩
      · exact Hid.mk ⟨rfl, _, _, _, _, _, _, _, _, U, j, rfl, by assumption, by with_reducible assumption, hUj, hbU, by have := (by assumption : ¬ ((2 ^ bits.toNat : Nat) : Int) ≤ ((N / U : Nat) : Int)); omega⟩
    · dsimp only [List.drop]
      clear F2 N2
      rintro _ ⟨h1, k1, t2, u3, o1, o2, o3, o4, U, j, rfl, F3, N3, hUj, hbU, hlt⟩
      have hU0 : 0 < U := by rw [hUj]; exact Nat.mul_pos hD0 (Nat.two_pow_pos j)
      refine A_cut 1 (fun s' => ∃ h1 k1 u2 u3 o1 o2 o3 o4, ∃ W : Nat, ∃ d : Int, s' = { s with heap := h1, toks := k1 } ∧
        Fr g' L' h1 (fm nm_zlaw_rounded [some (.int over t1), some (.int (U : Int) t2), some (.int bits t3), some (.str way t4), o1, o2, some (.int (sgF over) u1), some (.int (W : Int) u2), some (.int d u3), o3, o4]) ∧ News g' L' h1 news ∧
        W * D * 2 ^ d.toNat = N * U * 2 ^ (-d).toNat ∧ 2 ^ (bits - 1).toNat ≤ W / U ∧ W / U < 2 ^ bits.toNat) ?_ ?_
      · dsimp only [List.take]
        refine wpAny_execs_cons (W_while (fun n s' => ∃ h1 k1 u2 u3 o1 o2 o3 o4, ∃ W i : Nat, ∃ d : Int, s' = { s with heap := h1, toks := k1 } ∧
          Fr g' L' h1 (fm nm_zlaw_rounded [some (.int over t1), some (.int (U : Int) t2), some (.int bits t3), some (.str way t4), o1, o2, some (.int (sgF over) u1), some (.int (W : Int) u2), some (.int d u3), o3, o4]) ∧ News g' L' h1 news ∧
          W = N * 2 ^ i ∧ d = (j : Int) - i ∧ W / U < 2 ^ bits.toNat ∧ n = U * 2 ^ bits.toNat - W) (U * 2 ^ bits.toNat - N) ⟨_, _, _, _, _, _, _, _, N, 0, _, rfl, F3, N3, by simp, by omega, hlt, rfl⟩ ?_)
        rintro n _ ⟨h1, k1, u2, u3, o1, o2, o3, o4, W, i, d, rfl, F4, N4, hWi, hdi, hW1, rfl⟩
        have hW0 : 0 < W := by rw [hWi]; exact Nat.mul_pos hN0 (Nat.two_pow_pos i)
        have hbW := l2_bl hU0 hp2 hW1 hbU
        clear F3 N3
        k_steps
        · obtain ⟨q1, q2⟩ := l2_step hU0 hW0 hp1 (by assumption)
          exact Hid.mk ⟨rfl, _, q1, _, _, _, _, _, _, _, _, W * 2, i + 1, _, rfl, by assumption, cb_drop (by with_reducible assumption) (fun p hp => .tail _ hp), (by rw [hWi, Nat.pow_succ, Nat.mul_assoc]), by omega, q2, rfl⟩
        · exact Hid.mk ⟨rfl, _, _, _, _, _, _, _, _, W, d, rfl, by assumption, by with_reducible assumption, l2_key hWi hUj hdi, (by have := (by assumption : ¬ ((W / U : Nat) : Int) < ((2 ^ (bits - 1).toNat : Nat) : Int)); omega), hW1⟩
      · dsimp only [List.drop]
        clear F3 N3 hlt
        rintro _ ⟨h1, k1, u2, u3, o1, o2, o3, o4, W, d, rfl, F4, N4, hkey, hlo, hhi⟩
        have hbW := l2_bl hU0 hp2 hhi hbU
        refine A_cut 1 (fun s' => ∃ h1 k1 v1 v2 o2 o4, s' = { s with heap := h1, toks := k1 } ∧
          Fr g' L' h1 (fm nm_zlaw_rounded [some (.int over t1), some (.int (U : Int) t2), some (.int bits t3), some (.str way t4), some (.int ((W / U : Nat) : Int) v1), o2, some (.int (sgF over) u1), some (.int (W : Int) u2), some (.int d u3), some (.int ((W % U : Nat) : Int) v2), o4]) ∧ News g' L' h1 news) ?_ ?_
        · dsimp only [List.take]
          k_steps
          exact Hid.mk ⟨rfl, _, _, _, _, _, _, rfl, by assumption, cb_drop (by with_reducible assumption) (fun p hp => .tail _ hp)⟩
        · dsimp only [List.drop]
          clear F4 N4
          rintro _ ⟨h1, k1, v1, v2, o2, o4, rfl, F5, N5⟩
          have hbR : bl ((W % U : Nat) : Int) ≤ 1000 := bl_le_mono (Nat.le_of_lt (Nat.mod_lt _ hU0)) hbU
          refine A_cut 1 (fun s' => ∃ h1 k1 o2 bm, s' = { s with heap := h1, toks := k1 } ∧
            Fr g' L' h1 (fm nm_zlaw_rounded [some (.int over t1), some (.int (U : Int) t2), some (.int bits t3), some (.str way t4), some (.int ((W / U : Nat) : Int) v1), o2, some (.int (sgF over) u1), some (.int (W : Int) u2), some (.int d u3), some (.int ((W % U : Nat) : Int) v2), some (.bool bm)]) ∧ News g' L' h1 news ∧
            bm = upW (sgF over) way (W / U) (W % U) U) ?_ ?_
          · dsimp only [List.take]
            generalize W / U = q at *
            generalize W % U = r at *
            rcases hw with rfl | rfl | rfl | rfl | rfl
            all_goals k_steps
            all_goals refine Hid.mk ⟨rfl, _, _, _, _, rfl, by assumption, by with_reducible assumption, ?_⟩
            all_goals first
              | exact up_n1 (by assumption) | exact up_n2 (by assumption) (by assumption) | exact up_n3 (by assumption) (by assumption)
              | exact (decide_eq_true (by assumption)).trans (up_n1 (by assumption)) | exact (decide_eq_false (by assumption)).trans (up_n3 (by assumption) (by assumption))
              | exact (decide_eq_false (by assumption)).trans (up_0 (by assumption) ne_fn) | exact (decide_eq_false (by assumption)).trans (up_0 (by assumption) ne_cn) | exact (decide_eq_false (by assumption)).trans (up_0 (by assumption) ne_un) | exact (decide_eq_true (by assumption)).trans (up_c1 (by assumption) (by assumption)) | exact (decide_eq_true (by assumption)).trans (up_u1 (by assumption))
              | exact (decide_eq_false (by assumption)).trans up_d1
              | exact up_f1 (by assumption) | exact up_c1 (by assumption) (by assumption) | exact up_c2 (by assumption) (by assumption) | exact up_u1 (by assumption) | exact up_d1
              | exact up_0 (by assumption) ne_fn | exact up_0 (by assumption) ne_cn | exact up_0 (by assumption) ne_un
              | fail
          · dsimp only [List.drop]
            clear F5 N5
            rintro _ ⟨h1, k1, o2, bm, rfl, F6, N6, hbm⟩
            refine A_cut 1 (fun s' => ∃ h1 k1 v1 o2, ∃ x : Nat, s' = { s with heap := h1, toks := k1 } ∧
              Fr g' L' h1 (fm nm_zlaw_rounded [some (.int over t1), some (.int (U : Int) t2), some (.int bits t3), some (.str way t4), some (.int (x : Int) v1), o2, some (.int (sgF over) u1), some (.int (W : Int) u2), some (.int d u3), some (.int ((W % U : Nat) : Int) v2), some (.bool bm)]) ∧ News g' L' h1 news ∧
              x = W / U + if bm = true then 1 else 0) ?_ ?_
            · dsimp only [List.take]
              cases bm
              all_goals k_steps
              · exact Hid.mk ⟨rfl, _, _, _, _, W / U, rfl, by assumption, by with_reducible assumption, rfl⟩
              · exact Hid.mk ⟨rfl, _, _, _, _, W / U + 1, rfl, (by rw [Int.natCast_succ]; assumption), by with_reducible assumption, rfl⟩
            · dsimp only [List.drop]
              clear F6 N6
              rintro _ ⟨h1, k1, v1, o2, x, rfl, F7, N7, hx⟩
              rw [hbm] at hx
              have hp0 := Nat.two_pow_pos (bits - 1).toNat
              have hx0 : 0 < x := by omega
              have hbx : bl (x : Int) ≤ 2000 := by
                have h1 : bl ((W / U : Nat) : Int) ≤ 1060 := bl_le_mono (Nat.div_le_self _ _) hbW
                have hq0 : 0 < W / U := by omega
                have h2 : bl ((x : Nat) : Int) ≤ bl ((W / U * 2 : Nat) : Int) := bl_mono (by omega) (by rw [hx]; split <;> omega)
                have h3 := bl_dbl h1 (by decide)
                omega
              refine A_cut 1 (fun s' => ∃ h1 k1 v1 u3 o2, ∃ M t : Nat, s' = { s with heap := h1, toks := k1 } ∧
                Fr g' L' h1 (fm nm_zlaw_rounded [some (.int over t1), some (.int (U : Int) t2), some (.int bits t3), some (.str way t4), some (.int (M : Int) v1), o2, some (.int (sgF over) u1), some (.int (W : Int) u2), some (.int (d + t) u3), some (.int ((W % U : Nat) : Int) v2), some (.bool bm)]) ∧ News g' L' h1 news ∧
                x = 2 ^ t * M ∧ M % 2 = 1) ?_ ?_
              · dsimp only [List.take]
                refine wpAny_execs_cons (W_while (fun n s' => ∃ h1 k1 v1 u3 o2, ∃ M t : Nat, ∃ e : Int, s' = { s with heap := h1, toks := k1 } ∧
                  Fr g' L' h1 (fm nm_zlaw_rounded [some (.int over t1), some (.int (U : Int) t2), some (.int bits t3), some (.str way t4), some (.int (M : Int) v1), o2, some (.int (sgF over) u1), some (.int (W : Int) u2), some (.int e u3), some (.int ((W % U : Nat) : Int) v2), some (.bool bm)]) ∧ News g' L' h1 news ∧
                  x = 2 ^ t * M ∧ e = d + t ∧ n = M) x ⟨_, _, _, _, _, x, 0, _, rfl, F7, N7, by simp, by simp, rfl⟩ ?_)
                rintro n _ ⟨h1, k1, v1, u3, o2, M, t, e, rfl, F8, N8, hM, he, hnM⟩
                subst he
                clear F7 N7
                have hM0 : 0 < M := by
                  rcases Nat.eq_zero_or_pos M with h | h
                  · rw [h, Nat.mul_zero] at hM; omega
                  · exact h
                k_steps
                · have hev := (by assumption : ((M % 2 : Nat) : Int) = 0)
                  exact Hid.mk ⟨rfl, M / 2, (by omega), _, _, _, _, _, M / 2, t + 1, _, rfl, by assumption, cb_drop (by with_reducible assumption) (fun p hp => .tail _ hp), (by rw [hM, Nat.pow_succ, Nat.mul_assoc]; congr 1; omega), by omega, rfl⟩
                · have hev := (by assumption : ((M % 2 : Nat) : Int) ≠ 0)
                  exact Hid.mk ⟨rfl, _, _, _, _, _, M, t, rfl, by assumption, by with_reducible assumption, hM, by omega⟩
              · dsimp only [List.drop]
                clear F7 N7
                rintro _ ⟨h1, k1, v1, u3, o2, M, t, rfl, F8, N8, hM, hodd⟩
                have hbM : bl (M : Int) ≤ 2000 := bl_le_mono (b := x) (by rw [hM]; exact Nat.le_mul_of_pos_left _ (Nat.two_pow_pos t)) hbx
                refine A_cut 2 (fun s' => ∃ h1 k1 v3, s' = { s with heap := h1, toks := k1 } ∧
                  Fr g' L' h1 (fm nm_zlaw_rounded [some (.int over t1), some (.int (U : Int) t2), some (.int bits t3), some (.str way t4), some (.int (M : Int) v1), some (.int (bl (M : Int)) v3), some (.int (sgF over) u1), some (.int (W : Int) u2), some (.int (d + t) u3), some (.int ((W % U : Nat) : Int) v2), some (.bool bm)]) ∧ News g' L' h1 news) ?_ ?_
                · dsimp only [List.take]
                  refine A_cut 1 (fun s' => ∃ h1 k1 v3, s' = { s with heap := h1, toks := k1 } ∧
                    Fr g' L' h1 (fm nm_zlaw_rounded [some (.int over t1), some (.int (U : Int) t2), some (.int bits t3), some (.str way t4), some (.int (M : Int) v1), some (.int ((0 : Nat) : Int) v3), some (.int (sgF over) u1), some (.int (W : Int) u2), some (.int (d + t) u3), some (.int ((W % U : Nat) : Int) v2), some (.bool bm)]) ∧ News g' L' h1 news) ?_ ?_
                  · dsimp only [List.take]
                    k_steps
                    exact Hid.mk ⟨rfl, _, _, _, rfl, by assumption, by with_reducible assumption⟩
                  dsimp only [List.drop]
                  clear F8 N8
                  rintro _ ⟨h1, k1, v3, rfl, F8, N8⟩
                  refine wpAny_execs_cons (W_while (fun n s' => ∃ h1 k1 v3, ∃ k : Nat, s' = { s with heap := h1, toks := k1 } ∧
                    Fr g' L' h1 (fm nm_zlaw_rounded [some (.int over t1), some (.int (U : Int) t2), some (.int bits t3), some (.str way t4), some (.int (M : Int) v1), some (.int (k : Int) v3), some (.int (sgF over) u1), some (.int (W : Int) u2), some (.int (d + t) u3), some (.int ((W % U : Nat) : Int) v2), some (.bool bm)]) ∧ News g' L' h1 news ∧
                    (k : Int) ≤ bl (M : Int) ∧ (n : Int) = bl (M : Int) - k) (bl (M : Int)).toNat ⟨_, _, _, 0, rfl, F8, N8, bl_nonneg _, by have := bl_nonneg (M : Int); omega⟩ ?_)
                  rintro n _ ⟨h1, k1, v3, k, rfl, F9, N9, hk, hn⟩
                  clear F8 N8
                  k_steps
                  · have hkk : (k : Int) < bl (M : Int) := by
                      have h0 := (by assumption : 0 < ((M / 2 ^ k : Nat) : Int))
                      refine bl_gt_of_le ?_
                      rcases Nat.lt_or_ge M (2 ^ k) with h | h
                      · rw [Nat.div_eq_of_lt h] at h0; exact absurd h0 (by decide)
                      · exact h
                    exact Hid.mk ⟨rfl, n - 1, by omega, _, _, _, k + 1, rfl, (by rw [Int.natCast_succ]; assumption), by with_reducible assumption, by omega, by omega⟩
                  · have hkk : bl (M : Int) = (k : Int) := by
                      have h0 := (by assumption : ¬ 0 < ((M / 2 ^ k : Nat) : Int))
                      have h1 : M < 2 ^ k := by
                        rcases Nat.lt_or_ge M (2 ^ k) with h | h
                        · exact h
                        · have := Nat.div_pos h (Nat.two_pow_pos k); omega
                      have := bl_le_of_lt h1
                      omega
                    exact Hid.mk ⟨rfl, _, _, _, rfl, (by rw [hkk]; assumption), by with_reducible assumption⟩
                · dsimp only [List.drop]
                  clear F8 N8
                  rintro _ ⟨h1, k1, v3, rfl, F9, N9⟩
                  k_steps
                  exact hret _ _ _ _ (by with_reducible assumption) (by with_reducible assumption) ⟨_, _, _, _, _, _, _, _, _, rfl, rfl, by assumption, Or.inr ⟨hov, rfl, W, U, d, t, M, hU0, (by rw [hN]; exact hkey), (by rw [show bits.toNat - 1 = (bits - 1).toNat from by omega]; exact hlo), hhi, (by rw [← hx]; exact hM), hodd, rfl, rfl, rfl⟩⟩
end Mine
end
--CON
set_option hygiene false in
local macro_rules | `(tactic| walk_at "call ref") => `(tactic| (
  k_here; (with_reducible show wpAny _ _ (call (Value.ref 146) _) _ _ _);
  (refine' Ctr.use (c_rounded _ _ _ _ _ _ _ _ _ ?ca ?c1 ?c2 ?c3 ?c4 ?c5) ?cB ?cF ?cX ?cN ?cT ?cK ?cD ?cU (fun _ _ _ _ _ h => h.elim) ?_);
  (case ca => first | assumption | omega); (case c1 => first | assumption | omega); (case c2 => first | assumption | omega); (case c3 => first | assumption | omega); (case c4 => first | assumption | omega); (case c5 => assumption); walk_at "M use";
  intro r9 ne9 h9 k9 F9 N9 hr9; (try unfold Mine.RndRet at hr9); obtain ⟨a9, u19, u29, u39, u49, sg9, m9, e9, c9, rfl, rfl, l9, i9⟩ := hr9; (try dsimp only)))
--END

section
namespace Mine
theorem hd_numbers : (Str.ofString "numbers" == ("__debug__" : Str)) = false := by decide +kernel
theorem hd_script : (Str.ofString "script" == ("__debug__" : Str)) = false := by decide +kernel
theorem hd_sum : (Str.ofString "sum" == ("__debug__" : Str)) = false := by decide +kernel
theorem bl_sum (P : Params) : nsIn (Mine.hd.heap_39 P) mainGlobals (Str.ofString "sum") = some none := by kernel_rfl!
theorem bv_sum : bootBuiltins (Str.ofString "sum") = some (.builtin "sum") := by boot_by_name
theorem bn_sum : (Str.ofString "sum") ≠ ("__name__" : Str) := by decide +kernel
abbrev sc_zlaw_state : Scope := { kind := .function, names := [(Str.ofString "script", .local), (Str.ofString "numbers", .local), (Str.ofString "sum", .globalImplicit), (Str.ofString "len", .globalImplicit)], isGenerator := false, isCoroutine := false, more := [(Str.ofString "fast", (Const.str "script")), (Str.ofString "fast", (Const.str "number")), (Str.ofString "fast", (Const.str "numbers"))] }
theorem kl_zlaw_state_script {cn : Str} {L a : Addr} {cd : Value} : (envOf cn sc_zlaw_state L a cd).kindOf (Str.ofString "script") = some .local := by kernel_rfl!
theorem kl_zlaw_state_numbers {cn : Str} {L a : Addr} {cd : Value} : (envOf cn sc_zlaw_state L a cd).kindOf (Str.ofString "numbers") = some .local := by kernel_rfl!
theorem kl_zlaw_state_sum {cn : Str} {L a : Addr} {cd : Value} : (envOf cn sc_zlaw_state L a cd).kindOf (Str.ofString "sum") = some .globalImplicit := by kernel_rfl!
theorem kl_zlaw_state_len {cn : Str} {L a : Addr} {cd : Value} : (envOf cn sc_zlaw_state L a cd).kindOf (Str.ofString "len") = some .globalImplicit := by kernel_rfl!
def nm_zlaw_state : List Str := [Str.ofString "script", Str.ofString "numbers"]
theorem ix_zlaw_state_script : nm_zlaw_state.idxOf (Str.ofString "script") = 0 := by decide +kernel
theorem ix_zlaw_state_numbers : nm_zlaw_state.idxOf (Str.ofString "numbers") = 1 := by decide +kernel
theorem nd_zlaw_state : ([Str.ofString "script"] : List Str).Nodup := by decide +kernel
section
variable {M : Model} {A : Around} {E : Value → Shared → Prop} {s : Shared} {cn : Str} {L a : Addr} {cd : Value} {h₀ : Heap} {news : List (Addr × Obj)} {v : Value} {pos : Pos} {o0 o1 : Option Value}
theorem base_zlaw_state {h : Heap} {v0 : Value} (F : Fr h₀ L h (fun y => List.lookup y (List.zip [Str.ofString "script"] [v0]).reverse)) : Fr h₀ L h (fm nm_zlaw_state [some v0, none]) := by
  rw [fm_base (ns₂ := [Str.ofString "numbers"]) (k := 1) nd_zlaw_state rfl] at F
  exact F
theorem ld_zlaw_state_script {Q : Value → Shared → Prop} (F : Fr h₀ L s.heap (fm nm_zlaw_state [some v, o1])) (h : Q v s) : wpAny M A (eval (.Name (Str.ofString "script") pos) (envOf cn sc_zlaw_state L a cd)) Q E s := ld F ((fm_get ix_zlaw_state_script).trans rfl) h rfl kl_zlaw_state_script hd_script
theorem ldn_zlaw_state_script {Q : Value → Shared → Prop} (F : Fr h₀ L s.heap (fm nm_zlaw_state [some v, o1])) (h : Q v s) : wpAny M A (loadName (envOf cn sc_zlaw_state L a cd) (Str.ofString "script")) Q E s := ldn F ((fm_get ix_zlaw_state_script).trans rfl) h rfl kl_zlaw_state_script
theorem st_zlaw_state_script {Q : Unit → Shared → Prop} (F : Fr h₀ L s.heap (fm nm_zlaw_state [o0, o1])) (N : News h₀ L s.heap news) (h : ∀ h' k', Fr h₀ L h' (fm nm_zlaw_state [some v, o1]) → News h₀ L h' news → Q () { s with heap := h', toks := k' }) : wpAny M A (storeName (envOf cn sc_zlaw_state L a cd) (Str.ofString "script") v) Q E s := r_st F N (fun h' k' F' N' => h h' k' (by rw [fm_set ix_zlaw_state_script (by decide) rfl] at F'; exact F') N') rfl kl_zlaw_state_script
theorem ld_zlaw_state_numbers {Q : Value → Shared → Prop} (F : Fr h₀ L s.heap (fm nm_zlaw_state [o0, some v])) (h : Q v s) : wpAny M A (eval (.Name (Str.ofString "numbers") pos) (envOf cn sc_zlaw_state L a cd)) Q E s := ld F ((fm_get ix_zlaw_state_numbers).trans rfl) h rfl kl_zlaw_state_numbers hd_numbers
theorem ldn_zlaw_state_numbers {Q : Value → Shared → Prop} (F : Fr h₀ L s.heap (fm nm_zlaw_state [o0, some v])) (h : Q v s) : wpAny M A (loadName (envOf cn sc_zlaw_state L a cd) (Str.ofString "numbers")) Q E s := ldn F ((fm_get ix_zlaw_state_numbers).trans rfl) h rfl kl_zlaw_state_numbers
theorem st_zlaw_state_numbers {Q : Unit → Shared → Prop} (F : Fr h₀ L s.heap (fm nm_zlaw_state [o0, o1])) (N : News h₀ L s.heap news) (h : ∀ h' k', Fr h₀ L h' (fm nm_zlaw_state [o0, some v]) → News h₀ L h' news → Q () { s with heap := h', toks := k' }) : wpAny M A (storeName (envOf cn sc_zlaw_state L a cd) (Str.ofString "numbers") v) Q E s := r_st F N (fun h' k' F' N' => h h' k' (by rw [fm_set ix_zlaw_state_numbers (by decide) rfl] at F'; exact F') N') rfl kl_zlaw_state_numbers
end
end Mine

local macro_rules | `(tactic| walk_at "eval Name") => `(tactic| (
  k_here; with_reducible (first
   | (refine' ld_zlaw_state_script ?hF9 ?_; (case hF9 => assumption))
   | (refine' ld_zlaw_state_numbers ?hF9 ?_; (case hF9 => assumption))
   | (refine' bname bl_sum bv_sum bn_sum hd_sum ?hF9 ?hX9 ?hT9 rfl kl_zlaw_state_sum ?_; (case hF9 => assumption); (case hX9 => assumption); (case hT9 => assumption))
   | (refine' bname bl_len bv_len bn_len hd_len ?hF9 ?hX9 ?hT9 rfl kl_zlaw_state_len ?_; (case hF9 => assumption); (case hX9 => assumption); (case hT9 => assumption)))))
local macro_rules | `(tactic| walk_at "loadName") => `(tactic| (
  k_here; with_reducible (first
   | (refine' ldn_zlaw_state_script ?hF9 ?_; (case hF9 => assumption))
   | (refine' ldn_zlaw_state_numbers ?hF9 ?_; (case hF9 => assumption)))))
local macro_rules | `(tactic| walk_at "storeName") => `(tactic| (
  k_here; with_reducible (first
   | (refine' st_zlaw_state_script ?hF9 ?hN9 ?_; (case hF9 => assumption); (case hN9 => assumption); intro _ _ _ _; (try dsimp only); (try k_sweep))
   | (refine' st_zlaw_state_numbers ?hF9 ?hN9 ?_; (case hF9 => assumption); (case hN9 => assumption); intro _ _ _ _; (try dsimp only); (try k_sweep)))))
set_option hygiene false in
local macro_rules | `(tactic| walk_at "M base") => `(tactic| (
  (rename Fr _ _ _ _ => F1);
  (replace F1 := base_zlaw_state F1)))

namespace Mine
/-- as Ctr, for a def that reads a list of the caller's caller -/
def CtrS (sc : Addr) (vs : List Value) (f : Addr) (sz : Nat) (news : List (Addr × Obj)) (Ret : Value → List (Addr × Obj) → Prop) : Prop :=
  ∀ (w : World) (mean : ExcName → Option Value) (mg mb : Str → Option Value) (dp un : Nat) (gd : Option (List Code)) (cn : Str) (cs : Scope) (a : Addr) (ccd : Value) (cl : List (Str × Addr)) (outer : List Env) (A₀ : Around) (base h₀ : Heap) (L : Addr) (m : Str → Option Value) (s : Shared) (Q E : Value → Shared → Prop),
    Below A₀ base outer h₀ → Fr h₀ L s.heap m → (Mine.hd.heap_39 w.params).In h₀ → News h₀ L s.heap news →
    Top Mine.hd.view_39 (looseW Mine.hd.view_39
      [Str.ofString "round_fast", Str.ofString "fzero", Str.ofString "fone", Str.ofString "ften", Str.ofString "fnan",
        Str.ofString "finf", Str.ofString "fninf", Str.ofString "shifts_down", Str.ofString "from_man_exp",
        Str.ofString "from_int", Str.ofString "from_rational", Str.ofString "mpf_pos", Str.ofString "mpf_mul",
        Str.ofString "mpf_div", Str.ofString "reciprocal_rnd", Str.ofString "mpf_pow_int",
        Str.ofString "str_to_man_exp", Str.ofString "special_str", Str.ofString "from_str"]) mean mg mb h₀ →
    cs.kind = .function → dp + sz < recursionLimit → un + 8 * sz < cLine → h₀.IsList sc vs.toArray →
    (∀ r news' h' tk', Fr h₀ L h' m → News h₀ L h' news' → Ret r news' → Q r { s with heap := h', toks := tk' }) →
    wpAny (model PySem.Challenge.rw_bw0028_01.row.prog w) (ktrTop dp un gd cn cs L a ccd cl outer) (call (.ref f) [.ref sc]) Q E s
/-- what _law_state answers -/
def StRet (news : List (Addr × Obj)) (r : Value) (ne : List (Addr × Obj)) : Prop :=
  ∃ sp np vs n seed ta ts, r = .ref sp ∧ ne = (sp, stO 0 ta np seed ts) :: (np, lsN vs n) :: news ∧ Sts sp np vs ((np, lsN vs n) :: news) ∧ 0 ≤ seed ∧ seed < 7877
theorem fmod_range (a : Int) : 0 ≤ a.fmod 1000003 ∧ a.fmod 1000003 < 1000003 := ⟨fmod_lo a (by decide), fmod_hi a (by decide)⟩
theorem sum_range : ∀ (l : List Int), (∀ k ∈ l, 0 ≤ k ∧ k < 1000003) → 0 ≤ l.sum ∧ l.sum ≤ 1000003 * (l.length : Int)
  | [], _ => by simp
  | x :: r, h => by
    have h1 := h x (List.mem_cons_self ..)
    have h2 := sum_range r fun k hk => h k (List.mem_cons_of_mem _ hk)
    rw [List.sum_cons, List.length_cons]
    omega
section
variable {prog : Program} {w : World} {A : Around} {E : Value → Shared → Prop} {s : Shared} {Q : Value → Shared → Prop} {a k : Int} {t u : Tok}
theorem r_mulC (h0 : 0 ≤ a) (h1 : a ≤ 1000000000) (h2 : 0 ≤ k) (h3 : k ≤ 1000000) (h : ∀ t' k', Q (.int (a * k) t') { s with toks := k' }) : wpAny (model prog w) A (binaryOp .Mult (.int a t) (.int k u)) Q E s :=
  r_mulB (by have := bl_mono h0 h1; have e : bl 1000000000 = 30 := by decide
             omega) (by have := bl_mono h2 h3; have e : bl 1000000 = 20 := by decide
                        omega) fun v t' k' e _ => by rw [e.out]; exact h t' k'
theorem r_mod7 (h : ∀ v t' k', 0 ≤ v → v < 7877 → Q (.int v t') { s with toks := k' }) : wpAny (model prog w) A (binaryOp .Mod (.int a t) (.int 7877 u)) Q E s :=
  PyProof.Rows.mod_int' (by decide) (h _ _ _ (fmod_lo a (by decide)) (fmod_hi a (by decide)))
end
end Mine
local macro_rules | `(tactic| walk_at "call builtin:sum") => `(tactic| (k_here; (refine sumK (by with_unfolding_all rfl) (by assumption) (by with_reducible assumption) hlN hiN ?_); intro _ _ _ _ _; (try dsimp only)))
local macro_rules | `(tactic| walk_at "call builtin:len") => `(tactic| (k_here; (refine len_list (News.isList (by with_reducible assumption) (.head _)) (by omega) ?_); (try dsimp only)))
local macro_rules | `(tactic| walk_at "binaryOp Mult int int") => `(tactic| (k_here; (refine r_mulC (by omega) (by omega) (by omega) (by omega) ?_); intro _ _; (try dsimp only)))
local macro_rules | `(tactic| walk_at "binaryOp Mod int int") => `(tactic| (k_here; (refine r_mod7 ?_); intro _ _ _ _ _; (try dsimp only)))
set_option hygiene false in
local macro_rules | `(tactic| walk_at "newList") => `(tactic| (k_here; k_dflt (refine' newList_K ?k1 ?k2 ?_; (case k1 => with_reducible assumption); (case k2 => with_reducible assumption)); intro l' h' F' N' l1'; (try dsimp only)))
namespace Mine
set_option maxHeartbeats 40000000 in
theorem c_state (sc : Addr) (vs : List Value) (ns : List Int) (news : List (Addr × Obj)) (hi : IntsAre vs ns) (hn : ns.length ≤ 63) :
    CtrS sc vs 132 8 news (StRet news) := by
  unfold CtrS
  k_fill
  intro w mean mg mb dp un gd cn cs a ccd cl outer A₀ base h₀ L m s Q E B F X N T hk hd hu hl hret
  refine wpAny_call ?_
  walk_at "M code"
  walk_at "M base"
  have hlg : g'.IsList sc vs.toArray := hl.at fun o e => FG'.keep sc o e
  refine A_cut 1 (fun s' => ∃ h1 k1 np ws ks n, s' = { s with heap := h1, toks := k1 } ∧
    Fr g' L' h1 (fm nm_zlaw_state [some (.ref sc), some (.ref np)]) ∧ News g' L' h1 ((np, lsN ws n) :: news) ∧ IntsAre ws.toList ks ∧ (∀ k ∈ ks, 0 ≤ k ∧ k < 1000003) ∧ ks.length ≤ 24 ∧ ∀ p ∈ news, p.1 ≠ np) ?_ ?_
  · dsimp only [List.take]
    k_steps
    rename NewPlain _ _ _ _ => hP
    rename Fr _ _ _ _ => FF
    rw [fm_set ix_zlaw_state_numbers (by decide) rfl] at FF
    obtain ⟨n9, N9⟩ := made_enters hP FF (by with_reducible assumption) (by assumption)
    have hC := CarriedAll.intsOf (by assumption)
    refine Hid.mk ⟨rfl, _, _, _, _, _, n9, rfl, FF, fun p hp => N9 p ?_, hC, ?_, ?_, fun p hp => hP.2 p (.tail _ hp)⟩
    · rcases List.mem_cons.mp hp with e | hp
      · rw [e]; exact .head _
      · exact .tail _ (.tail _ hp)
    · intro k hk'
      obtain ⟨x, _, rfl⟩ := List.mem_map.mp hk'
      exact fmod_range x
    · rw [List.length_map]
      refine Nat.le_trans (List.length_filter_le _ _) ?_
      rw [List.length_take]; omega
  · dsimp only [List.drop]
    clear N' F1
    rintro _ ⟨h1, k1, np, ws, ks, n, rfl, F2, N2, hws, hks, hlen, hnp⟩
    have hsz : ws.size = ks.length := by rw [← Array.length_toList]; exact hws.length
    obtain ⟨s1, s2⟩ := sum_range ks hks
    have hiN : IntsAre ws.toList ks := hws
    have hlN : h1.IsList np ws.toList.toArray := by rw [Array.toArray_toList]; exact News.isList N2 (.head _)
    k_steps
    rename News h₀ L _ (_ :: (np, _) :: news) => N9
    have hlt := l1'
    exact hret _ _ _ _ (by with_reducible assumption) N9 ⟨_, np, ws, n, _, _, _, rfl, rfl, ⟨fun p hp => Nat.ne_of_lt (hlt p hp), ⟨n, .head _⟩, ⟨ks, hws, hks⟩, by omega⟩, (by first | assumption | exact fmod_lo _ (by decide)), (by first | assumption | exact fmod_hi _ (by decide))⟩
theorem CtrS.use {sc : Addr} {vs : List Value} {f : Addr} {sz : Nat} {news : List (Addr × Obj)} {Ret : Value → List (Addr × Obj) → Prop}
    {w : World} {mean : ExcName → Option Value} {mg mb : Str → Option Value} {dp un : Nat} {gd : Option (List Code)} {cn : Str} {cs : Scope} {a : Addr} {ccd : Value} {cl : List (Str × Addr)} {outer : List Env} {A₀ : Around} {base h₀ : Heap} {L : Addr} {m : Str → Option Value} {s : Shared} {Q E : Value → Shared → Prop}
    (C : CtrS sc vs f sz news Ret)
    (B : Below A₀ base outer h₀) (F : Fr h₀ L s.heap m) (X : (Mine.hd.heap_39 w.params).In h₀) (N : News h₀ L s.heap news)
    (T : Top Mine.hd.view_39 (looseW Mine.hd.view_39
      [Str.ofString "round_fast", Str.ofString "fzero", Str.ofString "fone", Str.ofString "ften", Str.ofString "fnan",
        Str.ofString "finf", Str.ofString "fninf", Str.ofString "shifts_down", Str.ofString "from_man_exp",
        Str.ofString "from_int", Str.ofString "from_rational", Str.ofString "mpf_pos", Str.ofString "mpf_mul",
        Str.ofString "mpf_div", Str.ofString "reciprocal_rnd", Str.ofString "mpf_pow_int",
        Str.ofString "str_to_man_exp", Str.ofString "special_str", Str.ofString "from_str"]) mean mg mb h₀)
    (hk : cs.kind = .function) (hd : dp + sz < recursionLimit) (hu : un + 8 * sz < cLine) (hl : h₀.IsList sc vs.toArray)
    (hret : ∀ r news' h' tk', Fr h₀ L h' m → News h₀ L h' news' → Ret r news' → Q r { s with heap := h', toks := tk' }) :
    wpAny (model PySem.Challenge.rw_bw0028_01.row.prog w) (ktrTop dp un gd cn cs L a ccd cl outer) (call (.ref f) [.ref sc]) Q E s :=
  C w mean mg mb dp un gd cn cs a ccd cl outer A₀ base h₀ L m s Q E B F X N T hk hd hu hl hret
end Mine
end

section
namespace Mine
theorem hd__law_number : (Str.ofString "_law_number" == ("__debug__" : Str)) = false := by decide +kernel
theorem hd__law_refused : (Str.ofString "_law_refused" == ("__debug__" : Str)) = false := by decide +kernel
theorem hd__law_rounded : (Str.ofString "_law_rounded" == ("__debug__" : Str)) = false := by decide +kernel
theorem hd__law_state : (Str.ofString "_law_state" == ("__debug__" : Str)) = false := by decide +kernel
theorem hd_is_minus : (Str.ofString "is_minus" == ("__debug__" : Str)) = false := by decide +kernel
theorem hd_spoilt : (Str.ofString "spoilt" == ("__debug__" : Str)) = false := by decide +kernel
theorem hd_told : (Str.ofString "told" == ("__debug__" : Str)) = false := by decide +kernel
theorem hd_word : (Str.ofString "word" == ("__debug__" : Str)) = false := by decide +kernel
theorem gl__law_state (P : Params) : nsIn (Mine.hd.heap_39 P) mainGlobals (Str.ofString "_law_state") = some (some (.ref 132)) := by kernel_rfl!
theorem gl__law_number (P : Params) : nsIn (Mine.hd.heap_39 P) mainGlobals (Str.ofString "_law_number") = some (some (.ref 179)) := by kernel_rfl!
theorem gl__law_refused (P : Params) : nsIn (Mine.hd.heap_39 P) mainGlobals (Str.ofString "_law_refused") = some (some (.ref 186)) := by kernel_rfl!
theorem gl__law_rounded (P : Params) : nsIn (Mine.hd.heap_39 P) mainGlobals (Str.ofString "_law_rounded") = some (some (.ref 146)) := by kernel_rfl!
abbrev sc_law : Scope := { kind := .function, names := [(Str.ofString "script", .local), (Str.ofString "state", .local), (Str.ofString "turn", .local), (Str.ofString "text", .local), (Str.ofString "over", .local), (Str.ofString "under", .local), (Str.ofString "is_minus", .local), (Str.ofString "bits", .local), (Str.ofString "way", .local), (Str.ofString "spoilt", .local), (Str.ofString "word", .local), (Str.ofString "told", .local), (Str.ofString "_law_state", .globalImplicit), (Str.ofString "range", .globalImplicit), (Str.ofString "_law_number", .globalImplicit), (Str.ofString "_law_draw", .globalImplicit), (Str.ofString "_law_refused", .globalImplicit), (Str.ofString "from_str", .globalImplicit), (Str.ofString "_law_rounded", .globalImplicit), (Str.ofString "finf", .globalImplicit), (Str.ofString "fninf", .globalImplicit), (Str.ofString "fnan", .globalImplicit)], isGenerator := false, isCoroutine := false, more := [] }
theorem kl_law_script {cn : Str} {L a : Addr} {cd : Value} : (envOf cn sc_law L a cd).kindOf (Str.ofString "script") = some .local := by kernel_rfl!
theorem kl_law_state {cn : Str} {L a : Addr} {cd : Value} : (envOf cn sc_law L a cd).kindOf (Str.ofString "state") = some .local := by kernel_rfl!
theorem kl_law_turn {cn : Str} {L a : Addr} {cd : Value} : (envOf cn sc_law L a cd).kindOf (Str.ofString "turn") = some .local := by kernel_rfl!
theorem kl_law_text {cn : Str} {L a : Addr} {cd : Value} : (envOf cn sc_law L a cd).kindOf (Str.ofString "text") = some .local := by kernel_rfl!
theorem kl_law_over {cn : Str} {L a : Addr} {cd : Value} : (envOf cn sc_law L a cd).kindOf (Str.ofString "over") = some .local := by kernel_rfl!
theorem kl_law_under {cn : Str} {L a : Addr} {cd : Value} : (envOf cn sc_law L a cd).kindOf (Str.ofString "under") = some .local := by kernel_rfl!
theorem kl_law_is_minus {cn : Str} {L a : Addr} {cd : Value} : (envOf cn sc_law L a cd).kindOf (Str.ofString "is_minus") = some .local := by kernel_rfl!
theorem kl_law_bits {cn : Str} {L a : Addr} {cd : Value} : (envOf cn sc_law L a cd).kindOf (Str.ofString "bits") = some .local := by kernel_rfl!
theorem kl_law_way {cn : Str} {L a : Addr} {cd : Value} : (envOf cn sc_law L a cd).kindOf (Str.ofString "way") = some .local := by kernel_rfl!
theorem kl_law_spoilt {cn : Str} {L a : Addr} {cd : Value} : (envOf cn sc_law L a cd).kindOf (Str.ofString "spoilt") = some .local := by kernel_rfl!
theorem kl_law_word {cn : Str} {L a : Addr} {cd : Value} : (envOf cn sc_law L a cd).kindOf (Str.ofString "word") = some .local := by kernel_rfl!
theorem kl_law_told {cn : Str} {L a : Addr} {cd : Value} : (envOf cn sc_law L a cd).kindOf (Str.ofString "told") = some .local := by kernel_rfl!
theorem kl_law__law_state {cn : Str} {L a : Addr} {cd : Value} : (envOf cn sc_law L a cd).kindOf (Str.ofString "_law_state") = some .globalImplicit := by kernel_rfl!
theorem kl_law_range {cn : Str} {L a : Addr} {cd : Value} : (envOf cn sc_law L a cd).kindOf (Str.ofString "range") = some .globalImplicit := by kernel_rfl!
theorem kl_law__law_number {cn : Str} {L a : Addr} {cd : Value} : (envOf cn sc_law L a cd).kindOf (Str.ofString "_law_number") = some .globalImplicit := by kernel_rfl!
theorem kl_law__law_draw {cn : Str} {L a : Addr} {cd : Value} : (envOf cn sc_law L a cd).kindOf (Str.ofString "_law_draw") = some .globalImplicit := by kernel_rfl!
theorem kl_law__law_refused {cn : Str} {L a : Addr} {cd : Value} : (envOf cn sc_law L a cd).kindOf (Str.ofString "_law_refused") = some .globalImplicit := by kernel_rfl!
theorem kl_law_from_str {cn : Str} {L a : Addr} {cd : Value} : (envOf cn sc_law L a cd).kindOf (Str.ofString "from_str") = some .globalImplicit := by kernel_rfl!
theorem kl_law__law_rounded {cn : Str} {L a : Addr} {cd : Value} : (envOf cn sc_law L a cd).kindOf (Str.ofString "_law_rounded") = some .globalImplicit := by kernel_rfl!
theorem kl_law_finf {cn : Str} {L a : Addr} {cd : Value} : (envOf cn sc_law L a cd).kindOf (Str.ofString "finf") = some .globalImplicit := by kernel_rfl!
theorem kl_law_fninf {cn : Str} {L a : Addr} {cd : Value} : (envOf cn sc_law L a cd).kindOf (Str.ofString "fninf") = some .globalImplicit := by kernel_rfl!
theorem kl_law_fnan {cn : Str} {L a : Addr} {cd : Value} : (envOf cn sc_law L a cd).kindOf (Str.ofString "fnan") = some .globalImplicit := by kernel_rfl!
def nm_law : List Str := [Str.ofString "script", Str.ofString "state", Str.ofString "turn", Str.ofString "word", Str.ofString "told", Str.ofString "text", Str.ofString "spoilt", Str.ofString "over", Str.ofString "under", Str.ofString "is_minus", Str.ofString "bits", Str.ofString "way"]
theorem ix_law_script : nm_law.idxOf (Str.ofString "script") = 0 := by decide +kernel
theorem ix_law_state : nm_law.idxOf (Str.ofString "state") = 1 := by decide +kernel
theorem ix_law_turn : nm_law.idxOf (Str.ofString "turn") = 2 := by decide +kernel
theorem ix_law_word : nm_law.idxOf (Str.ofString "word") = 3 := by decide +kernel
theorem ix_law_told : nm_law.idxOf (Str.ofString "told") = 4 := by decide +kernel
theorem ix_law_text : nm_law.idxOf (Str.ofString "text") = 5 := by decide +kernel
theorem ix_law_spoilt : nm_law.idxOf (Str.ofString "spoilt") = 6 := by decide +kernel
theorem ix_law_over : nm_law.idxOf (Str.ofString "over") = 7 := by decide +kernel
theorem ix_law_under : nm_law.idxOf (Str.ofString "under") = 8 := by decide +kernel
theorem ix_law_is_minus : nm_law.idxOf (Str.ofString "is_minus") = 9 := by decide +kernel
theorem ix_law_bits : nm_law.idxOf (Str.ofString "bits") = 10 := by decide +kernel
theorem ix_law_way : nm_law.idxOf (Str.ofString "way") = 11 := by decide +kernel
theorem nd_law : ([Str.ofString "script"] : List Str).Nodup := by decide +kernel
section
variable {M : Model} {A : Around} {E : Value → Shared → Prop} {s : Shared} {cn : Str} {L a : Addr} {cd : Value} {h₀ : Heap} {news : List (Addr × Obj)} {v : Value} {pos : Pos} {o0 o1 o2 o3 o4 o5 o6 o7 o8 o9 o10 o11 : Option Value}
theorem base_law {h : Heap} {v0 : Value} (F : Fr h₀ L h (fun y => List.lookup y (List.zip [Str.ofString "script"] [v0]).reverse)) : Fr h₀ L h (fm nm_law [some v0, none, none, none, none, none, none, none, none, none, none, none]) := by
  rw [fm_base (ns₂ := [Str.ofString "state", Str.ofString "turn", Str.ofString "word", Str.ofString "told", Str.ofString "text", Str.ofString "spoilt", Str.ofString "over", Str.ofString "under", Str.ofString "is_minus", Str.ofString "bits", Str.ofString "way"]) (k := 11) nd_law rfl] at F
  exact F
theorem ld_law_script {Q : Value → Shared → Prop} (F : Fr h₀ L s.heap (fm nm_law [some v, o1, o2, o3, o4, o5, o6, o7, o8, o9, o10, o11])) (h : Q v s) : wpAny M A (eval (.Name (Str.ofString "script") pos) (envOf cn sc_law L a cd)) Q E s := ld F ((fm_get ix_law_script).trans rfl) h rfl kl_law_script hd_script
theorem ldn_law_script {Q : Value → Shared → Prop} (F : Fr h₀ L s.heap (fm nm_law [some v, o1, o2, o3, o4, o5, o6, o7, o8, o9, o10, o11])) (h : Q v s) : wpAny M A (loadName (envOf cn sc_law L a cd) (Str.ofString "script")) Q E s := ldn F ((fm_get ix_law_script).trans rfl) h rfl kl_law_script
theorem st_law_script {Q : Unit → Shared → Prop} (F : Fr h₀ L s.heap (fm nm_law [o0, o1, o2, o3, o4, o5, o6, o7, o8, o9, o10, o11])) (N : News h₀ L s.heap news) (h : ∀ h' k', Fr h₀ L h' (fm nm_law [some v, o1, o2, o3, o4, o5, o6, o7, o8, o9, o10, o11]) → News h₀ L h' news → Q () { s with heap := h', toks := k' }) : wpAny M A (storeName (envOf cn sc_law L a cd) (Str.ofString "script") v) Q E s := r_st F N (fun h' k' F' N' => h h' k' (by rw [fm_set ix_law_script (by decide) rfl] at F'; exact F') N') rfl kl_law_script
theorem ld_law_state {Q : Value → Shared → Prop} (F : Fr h₀ L s.heap (fm nm_law [o0, some v, o2, o3, o4, o5, o6, o7, o8, o9, o10, o11])) (h : Q v s) : wpAny M A (eval (.Name (Str.ofString "state") pos) (envOf cn sc_law L a cd)) Q E s := ld F ((fm_get ix_law_state).trans rfl) h rfl kl_law_state hd_state
theorem ldn_law_state {Q : Value → Shared → Prop} (F : Fr h₀ L s.heap (fm nm_law [o0, some v, o2, o3, o4, o5, o6, o7, o8, o9, o10, o11])) (h : Q v s) : wpAny M A (loadName (envOf cn sc_law L a cd) (Str.ofString "state")) Q E s := ldn F ((fm_get ix_law_state).trans rfl) h rfl kl_law_state
theorem st_law_state {Q : Unit → Shared → Prop} (F : Fr h₀ L s.heap (fm nm_law [o0, o1, o2, o3, o4, o5, o6, o7, o8, o9, o10, o11])) (N : News h₀ L s.heap news) (h : ∀ h' k', Fr h₀ L h' (fm nm_law [o0, some v, o2, o3, o4, o5, o6, o7, o8, o9, o10, o11]) → News h₀ L h' news → Q () { s with heap := h', toks := k' }) : wpAny M A (storeName (envOf cn sc_law L a cd) (Str.ofString "state") v) Q E s := r_st F N (fun h' k' F' N' => h h' k' (by rw [fm_set ix_law_state (by decide) rfl] at F'; exact F') N') rfl kl_law_state
theorem ld_law_turn {Q : Value → Shared → Prop} (F : Fr h₀ L s.heap (fm nm_law [o0, o1, some v, o3, o4, o5, o6, o7, o8, o9, o10, o11])) (h : Q v s) : wpAny M A (eval (.Name (Str.ofString "turn") pos) (envOf cn sc_law L a cd)) Q E s := ld F ((fm_get ix_law_turn).trans rfl) h rfl kl_law_turn hd_turn
theorem ldn_law_turn {Q : Value → Shared → Prop} (F : Fr h₀ L s.heap (fm nm_law [o0, o1, some v, o3, o4, o5, o6, o7, o8, o9, o10, o11])) (h : Q v s) : wpAny M A (loadName (envOf cn sc_law L a cd) (Str.ofString "turn")) Q E s := ldn F ((fm_get ix_law_turn).trans rfl) h rfl kl_law_turn
theorem st_law_turn {Q : Unit → Shared → Prop} (F : Fr h₀ L s.heap (fm nm_law [o0, o1, o2, o3, o4, o5, o6, o7, o8, o9, o10, o11])) (N : News h₀ L s.heap news) (h : ∀ h' k', Fr h₀ L h' (fm nm_law [o0, o1, some v, o3, o4, o5, o6, o7, o8, o9, o10, o11]) → News h₀ L h' news → Q () { s with heap := h', toks := k' }) : wpAny M A (storeName (envOf cn sc_law L a cd) (Str.ofString "turn") v) Q E s := r_st F N (fun h' k' F' N' => h h' k' (by rw [fm_set ix_law_turn (by decide) rfl] at F'; exact F') N') rfl kl_law_turn
theorem ld_law_word {Q : Value → Shared → Prop} (F : Fr h₀ L s.heap (fm nm_law [o0, o1, o2, some v, o4, o5, o6, o7, o8, o9, o10, o11])) (h : Q v s) : wpAny M A (eval (.Name (Str.ofString "word") pos) (envOf cn sc_law L a cd)) Q E s := ld F ((fm_get ix_law_word).trans rfl) h rfl kl_law_word hd_word
theorem ldn_law_word {Q : Value → Shared → Prop} (F : Fr h₀ L s.heap (fm nm_law [o0, o1, o2, some v, o4, o5, o6, o7, o8, o9, o10, o11])) (h : Q v s) : wpAny M A (loadName (envOf cn sc_law L a cd) (Str.ofString "word")) Q E s := ldn F ((fm_get ix_law_word).trans rfl) h rfl kl_law_word
theorem st_law_word {Q : Unit → Shared → Prop} (F : Fr h₀ L s.heap (fm nm_law [o0, o1, o2, o3, o4, o5, o6, o7, o8, o9, o10, o11])) (N : News h₀ L s.heap news) (h : ∀ h' k', Fr h₀ L h' (fm nm_law [o0, o1, o2, some v, o4, o5, o6, o7, o8, o9, o10, o11]) → News h₀ L h' news → Q () { s with heap := h', toks := k' }) : wpAny M A (storeName (envOf cn sc_law L a cd) (Str.ofString "word") v) Q E s := r_st F N (fun h' k' F' N' => h h' k' (by rw [fm_set ix_law_word (by decide) rfl] at F'; exact F') N') rfl kl_law_word
theorem ld_law_told {Q : Value → Shared → Prop} (F : Fr h₀ L s.heap (fm nm_law [o0, o1, o2, o3, some v, o5, o6, o7, o8, o9, o10, o11])) (h : Q v s) : wpAny M A (eval (.Name (Str.ofString "told") pos) (envOf cn sc_law L a cd)) Q E s := ld F ((fm_get ix_law_told).trans rfl) h rfl kl_law_told hd_told
theorem ldn_law_told {Q : Value → Shared → Prop} (F : Fr h₀ L s.heap (fm nm_law [o0, o1, o2, o3, some v, o5, o6, o7, o8, o9, o10, o11])) (h : Q v s) : wpAny M A (loadName (envOf cn sc_law L a cd) (Str.ofString "told")) Q E s := ldn F ((fm_get ix_law_told).trans rfl) h rfl kl_law_told
theorem st_law_told {Q : Unit → Shared → Prop} (F : Fr h₀ L s.heap (fm nm_law [o0, o1, o2, o3, o4, o5, o6, o7, o8, o9, o10, o11])) (N : News h₀ L s.heap news) (h : ∀ h' k', Fr h₀ L h' (fm nm_law [o0, o1, o2, o3, some v, o5, o6, o7, o8, o9, o10, o11]) → News h₀ L h' news → Q () { s with heap := h', toks := k' }) : wpAny M A (storeName (envOf cn sc_law L a cd) (Str.ofString "told") v) Q E s := r_st F N (fun h' k' F' N' => h h' k' (by rw [fm_set ix_law_told (by decide) rfl] at F'; exact F') N') rfl kl_law_told
theorem ld_law_text {Q : Value → Shared → Prop} (F : Fr h₀ L s.heap (fm nm_law [o0, o1, o2, o3, o4, some v, o6, o7, o8, o9, o10, o11])) (h : Q v s) : wpAny M A (eval (.Name (Str.ofString "text") pos) (envOf cn sc_law L a cd)) Q E s := ld F ((fm_get ix_law_text).trans rfl) h rfl kl_law_text hd_text
theorem ldn_law_text {Q : Value → Shared → Prop} (F : Fr h₀ L s.heap (fm nm_law [o0, o1, o2, o3, o4, some v, o6, o7, o8, o9, o10, o11])) (h : Q v s) : wpAny M A (loadName (envOf cn sc_law L a cd) (Str.ofString "text")) Q E s := ldn F ((fm_get ix_law_text).trans rfl) h rfl kl_law_text
theorem st_law_text {Q : Unit → Shared → Prop} (F : Fr h₀ L s.heap (fm nm_law [o0, o1, o2, o3, o4, o5, o6, o7, o8, o9, o10, o11])) (N : News h₀ L s.heap news) (h : ∀ h' k', Fr h₀ L h' (fm nm_law [o0, o1, o2, o3, o4, some v, o6, o7, o8, o9, o10, o11]) → News h₀ L h' news → Q () { s with heap := h', toks := k' }) : wpAny M A (storeName (envOf cn sc_law L a cd) (Str.ofString "text") v) Q E s := r_st F N (fun h' k' F' N' => h h' k' (by rw [fm_set ix_law_text (by decide) rfl] at F'; exact F') N') rfl kl_law_text
theorem ld_law_spoilt {Q : Value → Shared → Prop} (F : Fr h₀ L s.heap (fm nm_law [o0, o1, o2, o3, o4, o5, some v, o7, o8, o9, o10, o11])) (h : Q v s) : wpAny M A (eval (.Name (Str.ofString "spoilt") pos) (envOf cn sc_law L a cd)) Q E s := ld F ((fm_get ix_law_spoilt).trans rfl) h rfl kl_law_spoilt hd_spoilt
theorem ldn_law_spoilt {Q : Value → Shared → Prop} (F : Fr h₀ L s.heap (fm nm_law [o0, o1, o2, o3, o4, o5, some v, o7, o8, o9, o10, o11])) (h : Q v s) : wpAny M A (loadName (envOf cn sc_law L a cd) (Str.ofString "spoilt")) Q E s := ldn F ((fm_get ix_law_spoilt).trans rfl) h rfl kl_law_spoilt
theorem st_law_spoilt {Q : Unit → Shared → Prop} (F : Fr h₀ L s.heap (fm nm_law [o0, o1, o2, o3, o4, o5, o6, o7, o8, o9, o10, o11])) (N : News h₀ L s.heap news) (h : ∀ h' k', Fr h₀ L h' (fm nm_law [o0, o1, o2, o3, o4, o5, some v, o7, o8, o9, o10, o11]) → News h₀ L h' news → Q () { s with heap := h', toks := k' }) : wpAny M A (storeName (envOf cn sc_law L a cd) (Str.ofString "spoilt") v) Q E s := r_st F N (fun h' k' F' N' => h h' k' (by rw [fm_set ix_law_spoilt (by decide) rfl] at F'; exact F') N') rfl kl_law_spoilt
theorem ld_law_over {Q : Value → Shared → Prop} (F : Fr h₀ L s.heap (fm nm_law [o0, o1, o2, o3, o4, o5, o6, some v, o8, o9, o10, o11])) (h : Q v s) : wpAny M A (eval (.Name (Str.ofString "over") pos) (envOf cn sc_law L a cd)) Q E s := ld F ((fm_get ix_law_over).trans rfl) h rfl kl_law_over hd_over
theorem ldn_law_over {Q : Value → Shared → Prop} (F : Fr h₀ L s.heap (fm nm_law [o0, o1, o2, o3, o4, o5, o6, some v, o8, o9, o10, o11])) (h : Q v s) : wpAny M A (loadName (envOf cn sc_law L a cd) (Str.ofString "over")) Q E s := ldn F ((fm_get ix_law_over).trans rfl) h rfl kl_law_over
theorem st_law_over {Q : Unit → Shared → Prop} (F : Fr h₀ L s.heap (fm nm_law [o0, o1, o2, o3, o4, o5, o6, o7, o8, o9, o10, o11])) (N : News h₀ L s.heap news) (h : ∀ h' k', Fr h₀ L h' (fm nm_law [o0, o1, o2, o3, o4, o5, o6, some v, o8, o9, o10, o11]) → News h₀ L h' news → Q () { s with heap := h', toks := k' }) : wpAny M A (storeName (envOf cn sc_law L a cd) (Str.ofString "over") v) Q E s := r_st F N (fun h' k' F' N' => h h' k' (by rw [fm_set ix_law_over (by decide) rfl] at F'; exact F') N') rfl kl_law_over
theorem ld_law_under {Q : Value → Shared → Prop} (F : Fr h₀ L s.heap (fm nm_law [o0, o1, o2, o3, o4, o5, o6, o7, some v, o9, o10, o11])) (h : Q v s) : wpAny M A (eval (.Name (Str.ofString "under") pos) (envOf cn sc_law L a cd)) Q E s := ld F ((fm_get ix_law_under).trans rfl) h rfl kl_law_under hd_under
theorem ldn_law_under {Q : Value → Shared → Prop} (F : Fr h₀ L s.heap (fm nm_law [o0, o1, o2, o3, o4, o5, o6, o7, some v, o9, o10, o11])) (h : Q v s) : wpAny M A (loadName (envOf cn sc_law L a cd) (Str.ofString "under")) Q E s := ldn F ((fm_get ix_law_under).trans rfl) h rfl kl_law_under
theorem st_law_under {Q : Unit → Shared → Prop} (F : Fr h₀ L s.heap (fm nm_law [o0, o1, o2, o3, o4, o5, o6, o7, o8, o9, o10, o11])) (N : News h₀ L s.heap news) (h : ∀ h' k', Fr h₀ L h' (fm nm_law [o0, o1, o2, o3, o4, o5, o6, o7, some v, o9, o10, o11]) → News h₀ L h' news → Q () { s with heap := h', toks := k' }) : wpAny M A (storeName (envOf cn sc_law L a cd) (Str.ofString "under") v) Q E s := r_st F N (fun h' k' F' N' => h h' k' (by rw [fm_set ix_law_under (by decide) rfl] at F'; exact F') N') rfl kl_law_under
theorem ld_law_is_minus {Q : Value → Shared → Prop} (F : Fr h₀ L s.heap (fm nm_law [o0, o1, o2, o3, o4, o5, o6, o7, o8, some v, o10, o11])) (h : Q v s) : wpAny M A (eval (.Name (Str.ofString "is_minus") pos) (envOf cn sc_law L a cd)) Q E s := ld F ((fm_get ix_law_is_minus).trans rfl) h rfl kl_law_is_minus hd_is_minus
theorem ldn_law_is_minus {Q : Value → Shared → Prop} (F : Fr h₀ L s.heap (fm nm_law [o0, o1, o2, o3, o4, o5, o6, o7, o8, some v, o10, o11])) (h : Q v s) : wpAny M A (loadName (envOf cn sc_law L a cd) (Str.ofString "is_minus")) Q E s := ldn F ((fm_get ix_law_is_minus).trans rfl) h rfl kl_law_is_minus
theorem st_law_is_minus {Q : Unit → Shared → Prop} (F : Fr h₀ L s.heap (fm nm_law [o0, o1, o2, o3, o4, o5, o6, o7, o8, o9, o10, o11])) (N : News h₀ L s.heap news) (h : ∀ h' k', Fr h₀ L h' (fm nm_law [o0, o1, o2, o3, o4, o5, o6, o7, o8, some v, o10, o11]) → News h₀ L h' news → Q () { s with heap := h', toks := k' }) : wpAny M A (storeName (envOf cn sc_law L a cd) (Str.ofString "is_minus") v) Q E s := r_st F N (fun h' k' F' N' => h h' k' (by rw [fm_set ix_law_is_minus (by decide) rfl] at F'; exact F') N') rfl kl_law_is_minus
theorem ld_law_bits {Q : Value → Shared → Prop} (F : Fr h₀ L s.heap (fm nm_law [o0, o1, o2, o3, o4, o5, o6, o7, o8, o9, some v, o11])) (h : Q v s) : wpAny M A (eval (.Name (Str.ofString "bits") pos) (envOf cn sc_law L a cd)) Q E s := ld F ((fm_get ix_law_bits).trans rfl) h rfl kl_law_bits hd_bits
theorem ldn_law_bits {Q : Value → Shared → Prop} (F : Fr h₀ L s.heap (fm nm_law [o0, o1, o2, o3, o4, o5, o6, o7, o8, o9, some v, o11])) (h : Q v s) : wpAny M A (loadName (envOf cn sc_law L a cd) (Str.ofString "bits")) Q E s := ldn F ((fm_get ix_law_bits).trans rfl) h rfl kl_law_bits
theorem st_law_bits {Q : Unit → Shared → Prop} (F : Fr h₀ L s.heap (fm nm_law [o0, o1, o2, o3, o4, o5, o6, o7, o8, o9, o10, o11])) (N : News h₀ L s.heap news) (h : ∀ h' k', Fr h₀ L h' (fm nm_law [o0, o1, o2, o3, o4, o5, o6, o7, o8, o9, some v, o11]) → News h₀ L h' news → Q () { s with heap := h', toks := k' }) : wpAny M A (storeName (envOf cn sc_law L a cd) (Str.ofString "bits") v) Q E s := r_st F N (fun h' k' F' N' => h h' k' (by rw [fm_set ix_law_bits (by decide) rfl] at F'; exact F') N') rfl kl_law_bits
theorem ld_law_way {Q : Value → Shared → Prop} (F : Fr h₀ L s.heap (fm nm_law [o0, o1, o2, o3, o4, o5, o6, o7, o8, o9, o10, some v])) (h : Q v s) : wpAny M A (eval (.Name (Str.ofString "way") pos) (envOf cn sc_law L a cd)) Q E s := ld F ((fm_get ix_law_way).trans rfl) h rfl kl_law_way hd_way
theorem ldn_law_way {Q : Value → Shared → Prop} (F : Fr h₀ L s.heap (fm nm_law [o0, o1, o2, o3, o4, o5, o6, o7, o8, o9, o10, some v])) (h : Q v s) : wpAny M A (loadName (envOf cn sc_law L a cd) (Str.ofString "way")) Q E s := ldn F ((fm_get ix_law_way).trans rfl) h rfl kl_law_way
theorem st_law_way {Q : Unit → Shared → Prop} (F : Fr h₀ L s.heap (fm nm_law [o0, o1, o2, o3, o4, o5, o6, o7, o8, o9, o10, o11])) (N : News h₀ L s.heap news) (h : ∀ h' k', Fr h₀ L h' (fm nm_law [o0, o1, o2, o3, o4, o5, o6, o7, o8, o9, o10, some v]) → News h₀ L h' news → Q () { s with heap := h', toks := k' }) : wpAny M A (storeName (envOf cn sc_law L a cd) (Str.ofString "way") v) Q E s := r_st F N (fun h' k' F' N' => h h' k' (by rw [fm_set ix_law_way (by decide) rfl] at F'; exact F') N') rfl kl_law_way
end
end Mine

local macro_rules | `(tactic| walk_at "eval Name") => `(tactic| (
  k_here; with_reducible (first
   | (refine' ld_law_script ?hF9 ?_; (case hF9 => assumption))
   | (refine' ld_law_state ?hF9 ?_; (case hF9 => assumption))
   | (refine' ld_law_turn ?hF9 ?_; (case hF9 => assumption))
   | (refine' ld_law_word ?hF9 ?_; (case hF9 => assumption))
   | (refine' ld_law_told ?hF9 ?_; (case hF9 => assumption))
   | (refine' ld_law_text ?hF9 ?_; (case hF9 => assumption))
   | (refine' ld_law_spoilt ?hF9 ?_; (case hF9 => assumption))
   | (refine' ld_law_over ?hF9 ?_; (case hF9 => assumption))
   | (refine' ld_law_under ?hF9 ?_; (case hF9 => assumption))
   | (refine' ld_law_is_minus ?hF9 ?_; (case hF9 => assumption))
   | (refine' ld_law_bits ?hF9 ?_; (case hF9 => assumption))
   | (refine' ld_law_way ?hF9 ?_; (case hF9 => assumption))
   | (refine' gname gl__law_state hd__law_state ?hF9 ?hX9 ?hT9 rfl kl_law__law_state ?_; (case hF9 => assumption); (case hX9 => assumption); (case hT9 => assumption))
   | (refine' bname bl_range bv_range bn_range hd_range ?hF9 ?hX9 ?hT9 rfl kl_law_range ?_; (case hF9 => assumption); (case hX9 => assumption); (case hT9 => assumption))
   | (refine' gname gl__law_number hd__law_number ?hF9 ?hX9 ?hT9 rfl kl_law__law_number ?_; (case hF9 => assumption); (case hX9 => assumption); (case hT9 => assumption))
   | (refine' gname gl__law_draw hd__law_draw ?hF9 ?hX9 ?hT9 rfl kl_law__law_draw ?_; (case hF9 => assumption); (case hX9 => assumption); (case hT9 => assumption))
   | (refine' gname gl__law_refused hd__law_refused ?hF9 ?hX9 ?hT9 rfl kl_law__law_refused ?_; (case hF9 => assumption); (case hX9 => assumption); (case hT9 => assumption))
   | (refine' gname gl_from_str hd_from_str ?hF9 ?hX9 ?hT9 rfl kl_law_from_str ?_; (case hF9 => assumption); (case hX9 => assumption); (case hT9 => assumption))
   | (refine' gname gl__law_rounded hd__law_rounded ?hF9 ?hX9 ?hT9 rfl kl_law__law_rounded ?_; (case hF9 => assumption); (case hX9 => assumption); (case hT9 => assumption))
   | (refine' gname gl_finf hd_finf ?hF9 ?hX9 ?hT9 rfl kl_law_finf ?_; (case hF9 => assumption); (case hX9 => assumption); (case hT9 => assumption))
   | (refine' gname gl_fninf hd_fninf ?hF9 ?hX9 ?hT9 rfl kl_law_fninf ?_; (case hF9 => assumption); (case hX9 => assumption); (case hT9 => assumption))
   | (refine' gname gl_fnan hd_fnan ?hF9 ?hX9 ?hT9 rfl kl_law_fnan ?_; (case hF9 => assumption); (case hX9 => assumption); (case hT9 => assumption)))))
local macro_rules | `(tactic| walk_at "loadName") => `(tactic| (
  k_here; with_reducible (first
   | (refine' ldn_law_script ?hF9 ?_; (case hF9 => assumption))
   | (refine' ldn_law_state ?hF9 ?_; (case hF9 => assumption))
   | (refine' ldn_law_turn ?hF9 ?_; (case hF9 => assumption))
   | (refine' ldn_law_word ?hF9 ?_; (case hF9 => assumption))
   | (refine' ldn_law_told ?hF9 ?_; (case hF9 => assumption))
   | (refine' ldn_law_text ?hF9 ?_; (case hF9 => assumption))
   | (refine' ldn_law_spoilt ?hF9 ?_; (case hF9 => assumption))
   | (refine' ldn_law_over ?hF9 ?_; (case hF9 => assumption))
   | (refine' ldn_law_under ?hF9 ?_; (case hF9 => assumption))
   | (refine' ldn_law_is_minus ?hF9 ?_; (case hF9 => assumption))
   | (refine' ldn_law_bits ?hF9 ?_; (case hF9 => assumption))
   | (refine' ldn_law_way ?hF9 ?_; (case hF9 => assumption)))))
local macro_rules | `(tactic| walk_at "storeName") => `(tactic| (
  k_here; with_reducible (first
   | (refine' st_law_script ?hF9 ?hN9 ?_; (case hF9 => assumption); (case hN9 => assumption); intro _ _ _ _; (try dsimp only); (try k_sweep))
   | (refine' st_law_state ?hF9 ?hN9 ?_; (case hF9 => assumption); (case hN9 => assumption); intro _ _ _ _; (try dsimp only); (try k_sweep))
   | (refine' st_law_turn ?hF9 ?hN9 ?_; (case hF9 => assumption); (case hN9 => assumption); intro _ _ _ _; (try dsimp only); (try k_sweep))
   | (refine' st_law_word ?hF9 ?hN9 ?_; (case hF9 => assumption); (case hN9 => assumption); intro _ _ _ _; (try dsimp only); (try k_sweep))
   | (refine' st_law_told ?hF9 ?hN9 ?_; (case hF9 => assumption); (case hN9 => assumption); intro _ _ _ _; (try dsimp only); (try k_sweep))
   | (refine' st_law_text ?hF9 ?hN9 ?_; (case hF9 => assumption); (case hN9 => assumption); intro _ _ _ _; (try dsimp only); (try k_sweep))
   | (refine' st_law_spoilt ?hF9 ?hN9 ?_; (case hF9 => assumption); (case hN9 => assumption); intro _ _ _ _; (try dsimp only); (try k_sweep))
   | (refine' st_law_over ?hF9 ?hN9 ?_; (case hF9 => assumption); (case hN9 => assumption); intro _ _ _ _; (try dsimp only); (try k_sweep))
   | (refine' st_law_under ?hF9 ?hN9 ?_; (case hF9 => assumption); (case hN9 => assumption); intro _ _ _ _; (try dsimp only); (try k_sweep))
   | (refine' st_law_is_minus ?hF9 ?hN9 ?_; (case hF9 => assumption); (case hN9 => assumption); intro _ _ _ _; (try dsimp only); (try k_sweep))
   | (refine' st_law_bits ?hF9 ?hN9 ?_; (case hF9 => assumption); (case hN9 => assumption); intro _ _ _ _; (try dsimp only); (try k_sweep))
   | (refine' st_law_way ?hF9 ?hN9 ?_; (case hF9 => assumption); (case hN9 => assumption); intro _ _ _ _; (try dsimp only); (try k_sweep)))))
set_option hygiene false in
local macro_rules | `(tactic| walk_at "M base") => `(tactic| (
  (rename Fr _ _ _ _ => F1);
  (replace F1 := base_law F1)))

set_option hygiene false in
local macro_rules | `(tactic| walk_at "call ref") => `(tactic| (
  k_here; (with_reducible show wpAny _ _ (call (Value.ref 132) _) _ _ _);
  (refine' CtrS.use (c_state _ _ _ _ hI hlen) ?cB ?cF ?cX ?cN ?cT ?cK ?cD ?cU hL ?_);
  (case cN => with_reducible assumption);
  (case cB => k_asm); (case cF => k_asm); (case cX => k_asm); (case cT => k_asm); (case cK => first | exact rfl | assumption);
  (case cD => decide); (case cU => decide);
  intro r9 ne9 h9 k9 F9 N9 hr9; unfold Mine.StRet at hr9; (obtain ⟨sp9, np9, vs9, n9, seed9, ta9, ts9, rfl, rfl, hS9, q9, z9⟩ := hr9); (try dsimp only)))
set_option hygiene false in
local macro_rules | `(tactic| walk_at "pyIter ref") => `(tactic| (k_here; (refine c_iter (n := 3) (by assumption) (by with_reducible assumption) (by assumption) (by rfl) (by rfl) ?_); intro I9 h9 F9 N9 l9; (try dsimp only)))
namespace Mine
theorem CtrL.useK {f : Addr} {vs : List Value} {news : List (Addr × Obj)} {Ret : Value → List (Addr × Obj) → Prop} {w : World} {mean : ExcName → Option Value} {mg mb : Str → Option Value} {cn : Str} {cs : Scope} {a : Addr} {ccd : Value} {h₀ : Heap} {L : Addr} {m : Str → Option Value} {s : Shared} {Q E : Value → Shared → Prop}
    (C : CtrL f vs news Ret) (B : Below callerA h₀ [] h₀) (F : Fr h₀ L s.heap m) (X : (Mine.hd.heap_39 w.params).In h₀) (N : News h₀ L s.heap news)
    (T : Top Mine.hd.view_39 (looseW Mine.hd.view_39
      [Str.ofString "round_fast", Str.ofString "fzero", Str.ofString "fone", Str.ofString "ften", Str.ofString "fnan",
        Str.ofString "finf", Str.ofString "fninf", Str.ofString "shifts_down", Str.ofString "from_man_exp",
        Str.ofString "from_int", Str.ofString "from_rational", Str.ofString "mpf_pos", Str.ofString "mpf_mul",
        Str.ofString "mpf_div", Str.ofString "reciprocal_rnd", Str.ofString "mpf_pow_int",
        Str.ofString "str_to_man_exp", Str.ofString "special_str", Str.ofString "from_str"]) mean mg mb h₀)
    (hk : cs.kind = .function) (hret : ∀ r news' h' tk', Fr h₀ L h' m → News h₀ L h' news' → Ret r news' → Q r { s with heap := h', toks := tk' }) :
    wpC (model PySem.Challenge.rw_bw0028_01.row.prog w) (ktrTop (callerA.depth + 1) (callerA.units + 3) callerA.guards cn cs L a ccd [] []) (call (.ref f) vs) Q E s :=
  C w mean mg mb cn cs a ccd h₀ L m s Q E B F X N T hk hret
section
variable {prog : Program} {w : World} {A : Around} {E : Value → Shared → Prop} {s : Shared} {Q : Value → Shared → Prop}
theorem t_neSame {x y : Str} {t u : Tok} (h : x = y) (hq : Q (.bool false) s) : wpAny (model prog w) A (compareOp .NotEq (.str x t) (.str y u)) Q E s := by
  subst h
  refine PySem.P.ne_str ?_
  have e : (x.cps.toList != x.cps.toList) = false := by simp
  rw [e]; exact hq
theorem sg_eq {n d o U : Int} (hd : 0 < d) (hU : 0 < U) (h : n * U = o * d) : sgF n = sgF o := by
  unfold sgF
  by_cases h1 : n < 0
  · have h2 : n * U < 0 := Int.mul_neg_of_neg_of_pos h1 hU
    rw [if_pos h1, if_pos]
    rcases Int.lt_or_le o 0 with h3 | h3
    · exact h3
    · have := Int.mul_nonneg h3 (Int.le_of_lt hd); omega
  · have h2 : 0 ≤ n * U := Int.mul_nonneg (by omega) (Int.le_of_lt hU)
    rw [if_neg h1, if_neg]
    intro h3
    have := Int.mul_neg_of_neg_of_pos h3 hd; omega
theorem rv_sub {n d bits : Int} {way : Str} {news ne : List (Addr × Obj)} {r : Value} (v : RvRet n d bits way news r ne) : ∀ p ∈ news, p ∈ ne := by
  obtain ⟨_, ⟨_, _, h⟩ | ⟨_, _, _, _, _, _, _, _, _, _, h, _⟩⟩ := v
  · rw [h]; exact fun p hp => hp
  · rw [h]; exact fun p hp => List.mem_cons_of_mem _ hp
theorem t_cmp {h₀ : Heap} {L : Addr} {m : Str → Option Value} (F : Fr h₀ L s.heap m) (X : (Mine.hd.heap_39 w.params).In h₀) {news ne : List (Addr × Obj)} {a9 : Addr} {sg9 m9 e9 c9 : Int} {u1 u2 u3 u4 : Tok}
    (N : News h₀ L s.heap ((a9, { cls := .type "tuple", data := .seq #[.int sg9 u1, .int m9 u2, .int e9 u3, .int c9 u4] }) :: ne)) {n d o U bits : Int} {way : Str} {r : Value} (v : RvRet n d bits way news r ne)
    (i : o = 0 ∧ sg9 = 0 ∧ m9 = 0 ∧ e9 = 0 ∧ c9 = 0 ∨ o ≠ 0 ∧ sg9 = sgF o ∧ Rd (sgF o) o.natAbs U.natAbs bits way m9 e9 c9) (hd : 0 < d) (hU : 0 < U) (heq : n * U = o * d) (hb : 1 ≤ bits) (hu : A.units + 64 < cLine) (h : Q (.bool false) s) :
    wpAny (model prog w) A (compareOp .NotEq r (.ref a9)) Q E s := by
  have I9 : I4 s.heap a9 sg9 m9 e9 c9 := i4_news N (.head _)
  obtain ⟨_, ⟨hn, rfl, _⟩ | ⟨hn, a, t1, t2, t3, t4, mm, e, c, rfl, hne, _, hrd⟩⟩ := v
  · subst hn
    rcases i with ⟨_, rfl, rfl, rfl, rfl⟩ | ⟨h0, _⟩
    · exact r_ne4 (i4_22 F X) I9 hu (by simpa using h)
    · rw [Int.zero_mul] at heq
      rcases Int.mul_eq_zero.mp heq.symm with q | q
      · exact absurd q h0
      · omega
  · rcases i with ⟨h0, _⟩ | ⟨h0, rfl, hrd'⟩
    · rw [h0, Int.zero_mul] at heq
      rcases Int.mul_eq_zero.mp heq with q | q
      · exact absurd q hn
      · omega
    · have hs := sg_eq hd hU heq
      rw [hs] at hrd
      obtain ⟨rfl, rfl, rfl⟩ := rd_one hb hrd hrd' (by omega) (by omega) (by omega) (by rw [← Int.natAbs_mul, ← Int.natAbs_mul, heq])
      refine r_ne4 (i4_news N (by rw [hne]; exact .tail _ (.head _))) I9 hu ?_
      simpa [hs] using h
theorem ref_val {o : Option (Int × Int)} (h : o = none) : refT o = Str.ofString "value" := by rw [h]; rfl
theorem ref_not {o : Option (Int × Int)} {n : Int} (h : o = some (n, 0)) : refT o = Str.ofString "nothing" := by rw [h]; rfl
end
theorem lit_x1 : Tl 1 (Str.ofString "x") [120] := Tl.lit (Str.ofString "x") [120] rfl rfl
theorem lit_s1 : Tl 2 (Str.ofString " 1") [32, 49] := Tl.lit (Str.ofString " 1") [32, 49] rfl rfl
theorem lit_dd : Tl 2 (Str.ofString "..") [46, 46] := Tl.lit (Str.ofString "..") [46, 46] rfl rfl
theorem lit_23 : Tl 4 (Str.ofString "/2/3") [47, 50, 47, 51] := Tl.lit (Str.ofString "/2/3") [47, 50, 47, 51] rfl rfl
theorem lit_mi : Tl 1 (Str.ofString "-") [45] := Tl.lit (Str.ofString "-") [45] rfl rfl
theorem lit_g1 : Tl 1 (Str.ofString "g") [103] := Tl.lit (Str.ofString "g") [103] rfl rfl
theorem lit_ss : Tl 2 (Str.ofString "  ") [32, 32] := Tl.lit (Str.ofString "  ") [32, 32] rfl rfl
theorem lit_sp : Tl 1 (Str.ofString " ") [32] := Tl.lit (Str.ofString " ") [32] rfl rfl
theorem spoilt_g {b : Int} {t r : List Nat} {y : Str} {n : Nat} (hT : Tx b t) (hy : Tl n y (r ++ [103])) (hn : n ≤ 250) (hr : ∀ c ∈ r, c ∈ t ∨ c = 122) : Spoilt y :=
  ⟨_, hy.mono hn, ref_g fun c hc => (hr c hc).imp (hT.ok c) id⟩
theorem spoilt_nil : Spoilt (Str.ofString "") := ⟨[], ⟨rfl, by decide, by decide⟩, ref_nil⟩
theorem sts_more {sp np I : Addr} {xs : Array Value} {o : Obj} {rest : List (Addr × Obj)} (h : Sts sp np xs rest) (hI : I ≠ sp) : Sts sp np xs ((I, o) :: rest) :=
  ⟨fun p hp => (List.mem_cons.mp hp).elim (fun e => by rw [e]; exact hI) (h.ne p), h.mem.imp fun _ q => List.mem_cons_of_mem _ q, h.are, h.sz⟩
theorem news_swap {h₀ h : Heap} {L : Addr} {p q : Addr × Obj} {rest : List (Addr × Obj)} (N : News h₀ L h (p :: q :: rest)) : News h₀ L h (q :: p :: rest) := by
  intro r hr
  refine N r ?_
  rcases List.mem_cons.mp hr with e | hr
  · rw [e]; exact .tail _ (.head _)
  · rcases List.mem_cons.mp hr with e | hr
    · rw [e]; exact .head _
    · exact .tail _ (.tail _ hr)
end Mine
local macro_rules | `(tactic| walk_at "compareOp NotEq str str") => `(tactic| (k_here; first | (refine t_neSame (ref_val (by assumption)) ?_; try dsimp only) | (refine t_neSame (ref_not (by assumption)) ?_; try dsimp only)))
set_option hygiene false in
local macro_rules | `(tactic| walk_at "C") => `(tactic| first
  | ((with_reducible show wpC _ _ (isTrue (Expr.Compare (Expr.Call (Expr.Name _ _) _ _ _) [_] [_] _) _ _) _ _ _); refine C_isTrue_Compare ?_)
  | ((with_reducible show wpC _ _ (eval (Expr.Call (Expr.Name (Str.ofString "_law_rounded") _) _ _ _) _) _ _ _); refine wpC_of ?_)
  | ((with_reducible show wpC _ _ (call (Value.ref 186) _) _ _ _);
     (refine' CtrL.useK (c_ref _ _ _ _ _ _ _ _ _ ?cp ?cq ?cr ?cs ?cw) ?cB ?cF ?cX ?cN ?cT ?cK ?_);
     (case cp => assumption); (case cq => assumption); (case cr => first | assumption | omega); (case cs => first | assumption | omega); (case cw => assumption);
     (case cB => k_asm); (case cF => k_asm); (case cX => k_asm); (case cN => k_asm); (case cT => k_asm); (case cK => first | exact rfl | assumption);
     intro r9 ne9 h9 k9 F9 N9 hr9; obtain ⟨rfl, t9, rfl⟩ := hr9; (try dsimp only)))
local macro_rules | `(tactic| walk_at "M drop") => `(tactic| first
  | with_reducible assumption
  | exact fun p hp => (by with_reducible assumption : News _ _ _ (_ :: (_, stO _ _ _ _ _) :: _)) p (.tail _ hp)
  | exact fun p hp => (by with_reducible assumption : News _ _ _ (_ :: _ :: (_, stO _ _ _ _ _) :: _)) p (.tail _ (.tail _ hp)))
set_option hygiene false in
local macro_rules | `(tactic| walk_at "newList") => `(tactic| (k_here; k_dflt (refine' newList_K ?k1 ?k2 ?_; (case k1 => with_reducible assumption); (case k2 => with_reducible assumption)); intro l' h' F' N' l1'; (try dsimp only)))
local macro_rules | `(tactic| walk_at "binaryOp Add str str") => `(tactic| (k_here; first
  | (refine t_addP lit_x1 (by assumption) (by decide) (by assumption) (by decide) ?_; intro _ _ _ _ _; try dsimp only)
  | (refine t_addP lit_mi (by assumption) (by decide) (by assumption) (by decide) ?_; intro _ _ _ _ _; try dsimp only)
  | (refine t_addP lit_ss (by assumption) (by decide) (by assumption) (by decide) ?_; intro _ _ _ _ _; try dsimp only)
  | (refine t_addP (by assumption) lit_s1 (by assumption) (by decide) (by decide) ?_; intro _ _ _ _ _; try dsimp only)
  | (refine t_addP (by assumption) lit_dd (by assumption) (by decide) (by decide) ?_; intro _ _ _ _ _; try dsimp only)
  | (refine t_addP (by assumption) lit_23 (by assumption) (by decide) (by decide) ?_; intro _ _ _ _ _; try dsimp only)
  | (refine t_addP (by assumption) lit_mi (by assumption) (by decide) (by decide) ?_; intro _ _ _ _ _; try dsimp only)
  | (refine t_addP (by assumption) lit_sp (by assumption) (by decide) (by decide) ?_; intro _ _ _ _ _; try dsimp only)
  | (refine t_add (by assumption) lit_g1 (by decide) ?_; intro _ _ _ _; try dsimp only)
  | (refine t_add lit_mi (by assumption) (by decide) ?_; intro _ _ _ _; try dsimp only)
  | (refine t_add lit_ss (by assumption) (by decide) ?_; intro _ _ _ _; try dsimp only)
  | (refine t_add (by assumption) lit_sp (by decide) ?_; intro _ _ _ _; try dsimp only)))
local macro_rules | `(tactic| walk_at "call builtin:str.replace") => `(tactic| (k_here; (try dsimp only [List.cons_append, List.nil_append]); (refine t_replace1 (by assumption) (by decide) (Nat.succ_ne_zero _) (Nat.succ_ne_zero _) (Nat.ne_of_lt (Nat.lt_succ_self _)) ?_); intro _ _ _ _ _ _; (try dsimp only)))
set_option hygiene false in
local macro_rules | `(tactic| walk_at "subscriptTail") => `(tactic| (k_here; (with_reducible show wpAny _ _ (subscriptTail _ _ (Value.ref _) (Value.int _ _)) _ _ _); (refine item3 (fun y => ∃ l0, Tl 250 y l0 ∧ FsOk l0 t) (News.isList (by with_reducible assumption) (.head _)) (by assumption) (by assumption) ⟨_, Tl.mono hx (by decide), hok.at hst.1⟩ ⟨32 :: 32 :: m, Tl.mono (by assumption) (by decide), hok.at hst.2.1⟩ ⟨m ++ [32], Tl.mono (by assumption) (by decide), hok.at hst.2.2⟩ ?_); intro y9 ty9 hy9; (try dsimp only)))
set_option hygiene false in
local macro_rules | `(tactic| walk_at "subscriptTail") => `(tactic| (k_here; (with_reducible show wpAny _ _ (subscriptTail _ _ (Value.ref _) (Value.int _ _)) _ _ _); (refine item7 Spoilt (News.isList (by with_reducible assumption) (.head _)) (by assumption) (by assumption) ⟨_, Tl.mono (by assumption) (by decide), ref_x hT⟩ ⟨_, Tl.mono (by assumption) (by decide), ref_1 hT⟩ ⟨_, Tl.mono (by assumption) (by decide), ref_dots hT⟩ ⟨_, Tl.mono (by assumption) (by decide), ref_23 hT⟩ ⟨_, Tl.mono (by assumption) (by decide), ref_minus hT⟩ (spoilt_g hT (by assumption) (by decide) (by assumption)) spoilt_nil ?_); intro y9 ty9 hy9; (try dsimp only)))
local macro_rules | `(tactic| walk_at "call builtin:str.upper") => `(tactic| (k_here; (try dsimp only [List.cons_append, List.nil_append]); (refine t_upper (by assumption) (by decide) ?_); intro _ _ _ _; (try dsimp only)))
namespace Mine
set_option maxHeartbeats 40000000 in
theorem law_holds : PySem.Challenge.rw_bw0028_01.Holds := by
  refine Mine.hd ?_
  k_fill
  intro w s₀ s₁ mg mb G Y fa o pm cd doc dV kV ho hd hcd hD hmg hg args vals as hpre hlay hrd hwl hlo
  have KX := kIn_of Y
  have X := (Ground.X G).1
  have V := (Ground.X G).2
  refine Ground.open G ?_
  intro T B D TE TW
  try (refine guard_noD D (by decide +kernel) ?_; clear D)
  obtain ⟨_, _, M⟩ := bmod_of_top T
  have TA := at_of_top T
  clear hmg
  have he := Dflts.none hD rfl
  subst he
  have K1 : Below callerA s₁.heap [] s₁.heap := below_caller (Top.heap T)
  have key : ∀ (sc : Addr) (vs : List Value) (ns : List Int), s₁.heap.IsList sc vs.toArray → IntsAre vs ns → ns.length ≤ 63 →
      wpC (model Challenge.rw_bw0028_01.row.prog w) callerA (call (Value.ref fa) [Value.ref sc]) (fun v s' => Hid (v = .bool true ∧ ∃ h' k' m', s' = { s₁ with heap := h', toks := k' } ∧ Fr s₁.heap s₁.heap.objs.size h' m')) (fun _ _ => False) s₁ := by
    clear V B TE TW M X hD G Y TA hpre hlay hrd hwl hlo
    intro sc vs ns hL hI hlen
    refine wpC_call ?_
    k_dflt (refine' codeC_call_def ?r1 ho hd ?r2 hcd ?r3 ?r4 ?r5 ?r6 ?_ ?r8 ?r9 ?r10)
    (case r1 => (show callerA.depth < recursionLimit; decide)); (case r2 => exact T.nolimit); (case r3 => exact rfl)
    (case r4 => k_dflt (first | exact BindsTo.of_eq rfl | exact binds_K (by k_in) rfl (by k_is) rfl rfl rfl))
    (case r5 => (show ∀ x ∈ sc_law.names, x.2 ≠ .cell; k_dflt decide)); (case r6 => k_dflt (exact locs rfl)); (case r8 => exact rfl); (case r9 => exact rfl); (case r10 => exact rfl)
    intro h₁ hns hk₁
    have F1 : Fr s₁.heap s₁.heap.objs.size h₁ _ := ⟨hns, hk₁, Nat.le_refl _⟩
    clear hns
    have N1 : News s₁.heap s₁.heap.objs.size h₁ [] := News.nil
    (try dsimp only)
    (try k_fold)
    walk_at "M base"
    clear hd hcd ho hk₁
    show wpC _ (callerA.deeper (envOf (Str.ofString "law") sc_law s₁.heap.objs.size fa cd)) (execs _ (envOf (Str.ofString "law") sc_law s₁.heap.objs.size fa cd)) _ _ _
    have eA : callerA.deeper (envOf (Str.ofString "law") sc_law s₁.heap.objs.size fa cd) = ktrTop (callerA.depth + 1) (callerA.units + 3) callerA.guards (Str.ofString "law") sc_law s₁.heap.objs.size fa cd [] [] := rfl
    rw [eA]
    refine C_cut 1 (fun s' => ∃ h1 k1 sp np xs n seed ta ts, s' = { s₁ with heap := h1, toks := k1 } ∧
      Fr s₁.heap s₁.heap.objs.size h1 (fm nm_law [some (.ref sc), some (.ref sp), none, none, none, none, none, none, none, none, none, none]) ∧
      News s₁.heap s₁.heap.objs.size h1 ((sp, stO 0 ta np seed ts) :: [(np, lsN xs n)]) ∧ Sts sp np xs [(np, lsN xs n)] ∧ 0 ≤ seed ∧ seed < 7877) ?_ ?_
    · dsimp only [List.take]
      refine wpC_of ?_
      k_steps
      exact Hid.mk ⟨rfl, _, _, _, _, _, _, _, _, _, rfl, by assumption, by with_reducible assumption, hS9, q9, z9⟩
    dsimp only [List.drop]
    rintro _ ⟨h1, k1, sp, np, xs, n, seed, ta, ts, rfl, F2, N2, hS, q2, q3⟩
    clear F1 N1
    have hat : (0 : Int) ≤ 0 := Int.le_refl 0
    obtain ⟨at0, hat0, N2⟩ : ∃ at0 : Int, 0 ≤ at0 ∧ News s₁.heap s₁.heap.objs.size h1 ((sp, stO at0 ta np seed ts) :: [(np, lsN xs n)]) := ⟨0, Int.le_refl 0, N2⟩
    refine C_cut 1 (fun s' => ∃ h1 k1 at0 seed ta ts o2 o3 o4 o5 o6 o7 o8 o9 o10 o11, s' = { s₁ with heap := h1, toks := k1 } ∧
      Fr s₁.heap s₁.heap.objs.size h1 (fm nm_law [some (.ref sc), some (.ref sp), o2, o3, o4, o5, o6, o7, o8, o9, o10, o11]) ∧
      News s₁.heap s₁.heap.objs.size h1 ((sp, stO at0 ta np seed ts) :: [(np, lsN xs n)]) ∧ 0 ≤ at0 ∧ 0 ≤ seed ∧ seed < 7877) ?_ ?_
    · dsimp only [List.take]
      refine C_execs_cons (C_For ?_)
      k_steps
      refine C_forR (fun m news => ∃ at0 seed ta ts o2 o3 o4 o5 o6 o7 o8 o9 o10 o11, m = fm nm_law [some (.ref sc), some (.ref sp), o2, o3, o4, o5, o6, o7, o8, o9, o10, o11] ∧ news = (sp, stO at0 ta np seed ts) :: [(np, lsN xs n)] ∧ 0 ≤ at0 ∧ 0 ≤ seed ∧ seed < 7877) (by with_unfolding_all rfl) ?turn ?done (by intro _; rfl) 3 _ _ _ _ _ ⟨_, _, _, _, _, _, _, _, _, _, _, _, _, _, rfl, rfl, hat0, q2, q3⟩ F9 N9 l9
      case done =>
        rintro m news h2 k2 ⟨at1, seed1, ta1, ts1, o2, o3, o4, o5, o6, o7, o8, o9, o10, o11, rfl, rfl, p1, p2, p3⟩ F3 N3
        exact C_execs_nil (Hid.mk ⟨rfl, _, _, _, _, _, _, _, _, _, _, _, _, _, _, _, _, rfl, F3, N3, p1, p2, p3⟩)
      rintro a left m news h2 k2 t ⟨at1, seed1, ta1, ts1, o2, o3, o4, o5, o6, o7, o8, o9, o10, o11, rfl, rfl, p1, p2, p3⟩ F3 N3 hI
      clear N2 F9 N9 l9 hat0 q2 q3
      refine wpAny_assign_Name ?_
      k_steps
      rename News _ _ _ _ => N4
      replace N4 := news_swap N4
      have hS4 : Sts sp np xs ((I9, itR (a + 1) left) :: [(np, lsN xs n)]) := sts_more hS (fun e => hI _ (.head _) e.symm)
      (try clear N3); (try clear F3)
      refine wpC_mono (Q := fun f s₃ => Hid (f = .next ∧ ∃ h2 k2 at1 seed1 ta1 ts1 o2 o3 o4 o5 o6 o7 o8 o9 o10 o11, s₃ = { s₁ with heap := h2, toks := k2 } ∧
        Fr s₁.heap s₁.heap.objs.size h2 (fm nm_law [some (.ref sc), some (.ref sp), o2, o3, o4, o5, o6, o7, o8, o9, o10, o11]) ∧
        News s₁.heap s₁.heap.objs.size h2 ((sp, stO at1 ta1 np seed1 ts1) :: (I9, itR (a + 1) left) :: [(np, lsN xs n)]) ∧ 0 ≤ at1 ∧ 0 ≤ seed1 ∧ seed1 < 7877)) (E := fun _ _ => False) ?_ ?_ (fun _ _ q => q)
      · generalize (I9, itR (a + 1) left) :: [(np, lsN xs n)] = rest at N4 hS4
        refine C_cut 1 (fun s' => ∃ h1 k1 x tx V tv U tu l at1 seed1 ta1 ts1 o2 o3 o4 o6 o9 o10 o11, s' = { s₁ with heap := h1, toks := k1 } ∧
          Fr s₁.heap s₁.heap.objs.size h1 (fm nm_law [some (.ref sc), some (.ref sp), o2, o3, o4, some (.str x tx), o6, some (.int V tv), some (.int U tu), o9, o10, o11]) ∧
          News s₁.heap s₁.heap.objs.size h1 ((sp, stO at1 ta1 np seed1 ts1) :: rest) ∧ 0 ≤ at1 ∧ 0 ≤ seed1 ∧ seed1 < 7877 ∧ Tl 60 x l ∧ NumT l V U) ?_ ?_
        · dsimp only [List.take]
          refine wpC_of ?_
          k_steps
          rename News _ _ _ ((p9, _) :: _) => N5
          exact Hid.mk ⟨rfl, _, _, _, _, _, _, _, _, _, _, _, _, _, _, _, _, _, _, _, _, rfl, by assumption, fun p hp => N5 p (.tail _ hp), by assumption, by assumption, by assumption, hx9, hn9⟩
        dsimp only [List.drop]
        clear N4 p1 p2 p3 hI
        rintro _ ⟨h1, k1, x, tx, V, tv, U, tu, l, at1, seed1, ta1, ts1, o2, o3, o4, o6, o9, o10, o11, rfl, F5, N5, p1, p2, p3, hx, hnum⟩
        refine C_cut 1 (fun s' => ∃ h1 k1 mi bits tb way tw at1 seed1 ta1 ts1, s' = { s₁ with heap := h1, toks := k1 } ∧
          Fr s₁.heap s₁.heap.objs.size h1 (fm nm_law [some (.ref sc), some (.ref sp), o2, o3, o4, some (.str x tx), o6, some (.int V tv), some (.int U tu), some (.bool mi), some (.int bits tb), some (.str way tw)]) ∧
          News s₁.heap s₁.heap.objs.size h1 ((sp, stO at1 ta1 np seed1 ts1) :: rest) ∧ 0 ≤ at1 ∧ 0 ≤ seed1 ∧ seed1 < 7877 ∧ 1 ≤ bits ∧ bits ≤ 60 ∧ WayOk way) ?_ ?_
        · dsimp only [List.take]
          refine wpC_of ?_
          k_steps
          rename News _ _ _ (_ :: (sp, _) :: rest) => N6
          exact Hid.mk ⟨rfl, _, _, _, _, _, _, _, _, _, _, _, rfl, by assumption, fun p hp => N6 p (.tail _ hp), by assumption, by assumption, by assumption, by omega, by omega, way_item (by assumption) (by assumption)⟩
        dsimp only [List.drop]
        clear N5 F5 p1 p2 p3
        rintro _ ⟨h1, k1, mi, bits, tb, way, tw, at1, seed1, ta1, ts1, rfl, F6, N6, p1, p2, p3, hb1, hb2, hw⟩
        obtain ⟨⟨b, hT⟩, hok, nn, dd, hfs, hsame⟩ := num_ok hnum mi
        obtain ⟨⟨hV0, hbV⟩, hU0, hbU⟩ := num_bounds hnum
        have ht0 : 0 < (sgL mi ++ l).length := by
          obtain ⟨c, hc, _⟩ := hT.dig
          exact List.length_pos_of_mem hc
        refine C_cut 1 (fun s' => ∃ h1 k1 x tx, s' = { s₁ with heap := h1, toks := k1 } ∧
          Fr s₁.heap s₁.heap.objs.size h1 (fm nm_law [some (.ref sc), some (.ref sp), o2, o3, o4, some (.str x tx), o6, some (.int V tv), some (.int U tu), some (.bool mi), some (.int bits tb), some (.str way tw)]) ∧
          News s₁.heap s₁.heap.objs.size h1 ((sp, stO at1 ta1 np seed1 ts1) :: rest) ∧ Tl 61 x (sgL mi ++ l)) ?_ ?_
        · dsimp only [List.take]
          refine wpC_of ?_
          cases mi
          all_goals k_steps
          · exact Hid.mk ⟨rfl, _, _, _, _, rfl, by assumption, by with_reducible assumption, hx.mono (by decide)⟩
          · exact Hid.mk ⟨rfl, _, _, _, _, rfl, by assumption, by with_reducible assumption, (by assumption : Tl (1 + 60) _ ([45] ++ l))⟩
        dsimp only [List.drop]
        clear N6 F6 hx hnum
        rintro _ ⟨h1, k1, x, tx, rfl, F7, N7, hx⟩
        generalize sgL mi ++ l = t at hx hT hok hfs ht0
        refine C_cut 1 (fun s' => ∃ h1 k1 y ty at1 seed1 ta1 ts1, s' = { s₁ with heap := h1, toks := k1 } ∧
          Fr s₁.heap s₁.heap.objs.size h1 (fm nm_law [some (.ref sc), some (.ref sp), o2, o3, o4, some (.str x tx), some (.str y ty), some (.int V tv), some (.int U tu), some (.bool mi), some (.int bits tb), some (.str way tw)]) ∧
          News s₁.heap s₁.heap.objs.size h1 ((sp, stO at1 ta1 np seed1 ts1) :: rest) ∧ 0 ≤ at1 ∧ 0 ≤ seed1 ∧ seed1 < 7877 ∧ Spoilt y) ?_ ?_
        · dsimp only [List.take]
          refine wpC_of ?_
          k_steps
          rename News _ _ _ (_ :: (sp, _) :: rest) => N8
          exact Hid.mk ⟨rfl, _, _, _, _, _, _, _, _, rfl, by assumption, fun p hp => N8 p (.tail _ hp), by assumption, by assumption, by assumption, hy9⟩
        dsimp only [List.drop]
        clear N7 F7 p1 p2 p3
        rintro _ ⟨h1, k1, y, ty, at1, seed1, ta1, ts1, rfl, F8, N8, p1, p2, p3, r, hy, hr1, hr2⟩
        refine C_cut 1 (fun s' => ∃ h1 k1, s' = { s₁ with heap := h1, toks := k1 } ∧
          Fr s₁.heap s₁.heap.objs.size h1 (fm nm_law [some (.ref sc), some (.ref sp), o2, o3, o4, some (.str x tx), some (.str y ty), some (.int V tv), some (.int U tu), some (.bool mi), some (.int bits tb), some (.str way tw)]) ∧
          News s₁.heap s₁.heap.objs.size h1 ((sp, stO at1 ta1 np seed1 ts1) :: rest)) ?_ ?_
        · dsimp only [List.take]
          walk_at "C steps"
          exact Hid.mk ⟨rfl, _, _, rfl, by assumption, by with_reducible assumption⟩
        dsimp only [List.drop]
        clear N8 F8 hy hr1 hr2
        rintro _ ⟨h1, k1, rfl, F9, N9⟩
        refine C_cut 1 (fun s' => ∃ h1 k1 x tx m at1 seed1 ta1 ts1, s' = { s₁ with heap := h1, toks := k1 } ∧
          Fr s₁.heap s₁.heap.objs.size h1 (fm nm_law [some (.ref sc), some (.ref sp), o2, o3, o4, some (.str x tx), some (.str y ty), some (.int V tv), some (.int U tu), some (.bool mi), some (.int bits tb), some (.str way tw)]) ∧
          News s₁.heap s₁.heap.objs.size h1 ((sp, stO at1 ta1 np seed1 ts1) :: rest) ∧ 0 ≤ at1 ∧ 0 ≤ seed1 ∧ seed1 < 7877 ∧ Tl 61 x m ∧ (m = t ∨ m = t.map up1)) ?_ ?_
        · dsimp only [List.take]
          refine wpC_of ?_
          k_steps
          · exact Hid.mk ⟨rfl, _, _, _, _, _, _, _, _, _, rfl, by assumption, by with_reducible assumption, by assumption, by assumption, by assumption, (by assumption : Tl 61 _ (t.map up1)), Or.inr rfl⟩
          · exact Hid.mk ⟨rfl, _, _, _, _, _, _, _, _, _, rfl, by assumption, by with_reducible assumption, by assumption, by assumption, by assumption, hx, Or.inl rfl⟩
        dsimp only [List.drop]
        clear N9 F9 p1 p2 p3 hx
        rintro _ ⟨h1, k1, x, tx, m, at1, seed1, ta1, ts1, rfl, F10, N10, p1, p2, p3, hx, hm⟩
        have hst := tx_st hT hm
        refine C_cut 1 (fun s' => ∃ h1 k1 x tx l0 at1 seed1 ta1 ts1, s' = { s₁ with heap := h1, toks := k1 } ∧
          Fr s₁.heap s₁.heap.objs.size h1 (fm nm_law [some (.ref sc), some (.ref sp), o2, o3, o4, some (.str x tx), some (.str y ty), some (.int V tv), some (.int U tu), some (.bool mi), some (.int bits tb), some (.str way tw)]) ∧
          News s₁.heap s₁.heap.objs.size h1 ((sp, stO at1 ta1 np seed1 ts1) :: rest) ∧ 0 ≤ at1 ∧ 0 ≤ seed1 ∧ seed1 < 7877 ∧ Tl 250 x l0 ∧ FsOk l0 t) ?_ ?_
        · dsimp only [List.take]
          refine wpC_of ?_
          k_steps
          obtain ⟨l0, hl0, hk0⟩ := hy9
          rename News _ _ _ (_ :: (sp, _) :: rest) => N11
          exact Hid.mk ⟨rfl, _, _, _, _, l0, _, _, _, _, rfl, by assumption, fun p hp => N11 p (.tail _ hp), by assumption, by assumption, by assumption, hl0, hk0⟩
        dsimp only [List.drop]
        clear N10 F10 p1 p2 p3 hx hm hst
        rintro _ ⟨h1, k1, x, tx, l0, at1, seed1, ta1, ts1, rfl, F11, N11, p1, p2, p3, hx, hok0⟩
        by_cases hU : U = 0
        · subst hU
          have hd0 := hsame.zero rfl
          subst hd0
          walk_at "C steps"
          exact Hid.mk ⟨rfl, _, _, _, _, _, _, _, _, _, _, _, _, _, _, _, _, rfl, by assumption, by with_reducible assumption, p1, p2, p3⟩
        · obtain ⟨hd0, heq⟩ := hsame.pos hU
          have hU1 : 0 < U := by omega
          have hbV' : bl (-V) ≤ 1000 := by rw [bl_neg]; exact hbV
          cases mi
          all_goals walk_at "C steps"
          all_goals (rename fsF (baseOf t) t = some (n9, _) => i8; rw [hfs] at i8; cases i8)
          all_goals refine t_cmp (by assumption) (by assumption) (by with_reducible assumption) v9 i9 hd0 hU1 heq hb1 (by dsimp only; decide) ?_
          all_goals walk_at "C steps"
          all_goals (have hsub := rv_sub v9; rename News _ _ _ (_ :: ne9) => N12)
          all_goals exact Hid.mk ⟨rfl, _, _, _, _, _, _, _, _, _, _, _, _, _, _, _, _, rfl, by assumption, fun p hp => N12 p (.tail _ (hsub p hp)), p1, p2, p3⟩
      · intro f s₃ q
        obtain ⟨rfl, h2, k2, at1, seed1, ta1, ts1, o2, o3, o4, o5, o6, o7, o8, o9, o10, o11, rfl, F5, N5, p1, p2, p3⟩ := q.out
        exact Hid.mk ⟨h2, k2, _, _, rfl, F5, news_swap N5, (fun p hp => (List.mem_cons.mp hp).elim (fun e => by have hh := hI _ (List.Mem.head _); rw [e]; exact hh) fun hp => hI p (.tail _ hp)), _, _, _, _, _, _, _, _, _, _, _, _, _, _, rfl, rfl, p1, p2, p3⟩
    dsimp only [List.drop]
    clear N2 hat0 q2 q3
    rintro _ ⟨h1, k1, at1, seed1, ta1, ts1, o2, o3, o4, o5, o6, o7, o8, o9, o10, o11, rfl, F5, N5, p1, p2, p3⟩
    refine C_cut 1 (fun s' => ∃ h1 k1 k tk at1 seed1 ta1 ts1, s' = { s₁ with heap := h1, toks := k1 } ∧
      Fr s₁.heap s₁.heap.objs.size h1 (fm nm_law [some (.ref sc), some (.ref sp), o2, some (.int k tk), o4, o5, o6, o7, o8, o9, o10, o11]) ∧
      News s₁.heap s₁.heap.objs.size h1 ((sp, stO at1 ta1 np seed1 ts1) :: [(np, lsN xs n)]) ∧ 0 ≤ k ∧ k < 7) ?_ ?_
    · dsimp only [List.take]
      refine wpC_of ?_
      k_steps
      exact Hid.mk ⟨rfl, _, _, _, _, _, _, _, _, rfl, by assumption, by with_reducible assumption, by assumption, by assumption⟩
    dsimp only [List.drop]
    clear N5 F5 p1 p2 p3
    rintro _ ⟨h1, k1, k, tk, at1, seed1, ta1, ts1, rfl, F6, N6, hk0, hk7⟩
    have hk : k = 0 ∨ k = 1 ∨ k = 2 ∨ k = 3 ∨ k = 4 ∨ k = 5 ∨ k = 6 := by omega
    refine wpC_of ?_
    rcases hk with rfl | rfl | rfl | rfl | rfl | rfl | rfl
    all_goals k_steps
    all_goals first
      | exact Hid.mk ⟨by first | rfl | (congr 1; decide) | simp, _, _, _, rfl, by assumption⟩
      | fail
  wrow_args hpre hlay hrd hwl hlo
  rename Heap.IsList _ _ _ => hL
  rename IntsAre _ _ => hI
  rename ¬ _ < _ => hlen
  dsimp only
  refine wpC_mono (Q := fun v s' => Hid (v = .bool true ∧ ∃ h' k' m', s' = { s₁ with heap := h', toks := k' } ∧ Fr s₁.heap s₁.heap.objs.size h' m')) (E := fun _ _ => False) ?main ?ends (fun _ _ q => q.elim)
  case ends =>
    intro v s' q
    obtain ⟨rfl, h', k', m', rfl, F'⟩ := q.out
    refine GoodW.toG ?_
    have N' : News s₁.heap s₁.heap.objs.size h' [] := News.nil
    wrow_close
  exact key _ _ _ hL hI (by omega)
end Mine
end

set_option maxRecDepth 100000 in
theorem PySem.Challenge.cw_bw0028_01_holds : PySem.Challenge.rw_bw0028_01.Holds :=
  Mine.law_holds
