import PyProof.Rows.All
import Wide.All
import OpenK.AllK
import Wide.FinOn
import Flt.RightMore
import Flt.RightSqrt
import PyProof.FloatFits
import Flt.Mod
import KE.KIntText
import PyProof.Rows.StrSplitCount
import PySem.Challenge.RW_ny0075_01
set_option Elab.async false
set_option compiler.extract_closed false
section
open PySem PySem.W PyProof.Rows PySem.Calls
open PySem.Sem (wp)
set_option maxRecDepth 100000
namespace Mine
/-- somewhere on the stack stands the claim's own caller -/
noncomputable def HasC (Γ : Ctx) : Prop := Γ.code.isCaller = true ∨ (Γ.below.any fun x => x.1.isCaller) = true
noncomputable def HasB (Γ : Ctx) : Prop := (Γ.below.any fun x => x.1.isCaller) = true
theorem HasC.enter {Γ : Ctx} (h : HasC Γ) (c : Code) (hd : Option Value) (p : Pos) : HasB (Γ.enter c hd p) := by
  show (((Γ.code, p) :: Γ.below).any fun x => x.1.isCaller) = true
  rw [List.any_cons]
  rcases h with h | h
  · rw [h]; rfl
  · rw [h]; exact Bool.or_true _
/-- as wpAny, under the claim's caller -/
noncomputable def wpC {α : Type} (M : Model) (A : Around) (t : Sem α) (Q : α → Shared → Prop) (E : Value → Shared → Prop) (s : Shared) : Prop :=
  ∀ Γ p, Γ.In A → HasC Γ → wp M Γ t (fun a _ s' => Q a s') (fun e _ s' => E e s') p s
noncomputable def codeC (M : Model) (A : Around) (c : Code) (R : Result → Shared → Prop) (s : Shared) : Prop :=
  ∀ Γ p, Γ.code = c → Γ.Below A → HasB Γ → wpCode M Γ R p s
section
variable {α β : Type} {M : Model} {A : Around} {E : Value → Shared → Prop} {s : Shared}
theorem wpC.of {t : Sem α} {Q : α → Shared → Prop} (h : wpAny M A t Q E s) : wpC M A t Q E s := fun Γ p hΓ _ => h Γ p hΓ
theorem codeC.of {c : Code} {R : Result → Shared → Prop} (h : codeAny M A c R s) : codeC M A c R s := fun Γ p hc hΓ _ => h Γ p hc hΓ
theorem wpC.mono {t : Sem α} {Q Q' : α → Shared → Prop} {E' : Value → Shared → Prop} (h : wpC M A t Q E s) (hQ : ∀ a s, Q a s → Q' a s) (hE : ∀ e s, E e s → E' e s) : wpC M A t Q' E' s :=
  fun Γ p hΓ hC => Sem.wp_mono M Γ t (fun a _ s => hQ a s) (fun e _ s => hE e s) p s (h Γ p hΓ hC)
theorem wpC.bind {m : Sem α} {f : α → Sem β} {Q : β → Shared → Prop} (h : wpC M A m (fun a s' => wpC M A (f a) Q E s') E s) : wpC M A (m >>= f) Q E s := fun Γ p hΓ hC => by
  rw [Sem.wp_bind']
  exact Sem.wp_mono M Γ m (fun a p' s' h' => h' Γ p' hΓ hC) (fun _ _ _ h' => h') p s (h Γ p hΓ hC)
theorem wpC.pure {a : α} {Q : α → Shared → Prop} (h : Q a s) : wpC M A (pure a) Q E s := fun _ _ _ _ => h
/-- a part that needs no caller, then one that does -/
theorem wpC.andThen {m : Sem α} {f : α → Sem β} {Q : β → Shared → Prop} (h : wpAny M A m (fun a s' => wpC M A (f a) Q E s') E s) : wpC M A (m >>= f) Q E s := (wpC.of h).bind
theorem wpC.attempt {m : Sem α} {Q : Except Value α → Shared → Prop} (h : wpC M A m (fun a => Q (.ok a)) (fun e => Q (.error e)) s) : wpC M A m.attempt Q E s :=
  fun Γ p hΓ hC => by rw [Sem.wp_attempt]; exact h Γ p hΓ hC
theorem wpC.onRaise {m : Sem α} {k : Value → Sem Unit} {Q : α → Shared → Prop} (h : wpC M A m Q (fun _ _ => False) s) : wpC M A (m.onRaise k) Q E s := fun Γ p hΓ hC => by
  rw [Sem.wp_onRaise]
  exact Sem.wp_mono M Γ m (fun _ _ _ h' => h') (fun _ _ _ h' => h'.elim) p s (h Γ p hΓ hC)
theorem wpC.holding {vs : List Value} {m : Sem α} {Q : α → Shared → Prop} (h : wpC M A m Q E s) : wpC M A (holding vs m) Q E s :=
  fun Γ p hΓ hC => by rw [Sem.wp_holding]; exact h Γ p hΓ hC
theorem wpC.run {c : Code} {h : Option Value} {Q : Flow → Shared → Prop} (hc : codeC M (A.mark h) c (fun r s' => match r with | .ok f => Q f s' | .error e => E e s') s) (hnb : h ≠ some byPass) : wpC M A (run c h) Q E s :=
  fun Γ p hΓ hC => by rw [Sem.wp_run]; exact hc _ p rfl (hΓ.enter c h p hnb) (hC.enter c h p)
theorem wpC.runValue {c : Code} {Q : Value → Shared → Prop} (hc : codeC M A c (fun r s' => match r with | .ok (.ret v) => Q v s' | .ok _ => False | .error e => E e s') s) : wpC M A (runValue c) Q E s :=
  fun Γ p hΓ hC => by rw [Sem.wp_runValue]; exact hc _ p rfl (hΓ.enter c none p (by intro x; cases x)) (hC.enter c none p)
theorem wpC.call {f : Value} {pos : List Value} {kw : List (Str × Value)} {Q : Value → Shared → Prop}
    (hc : codeC M A (.call f ⟨pos, kw⟩) (fun r s' => match r with | .ok (.ret v) => Q v s' | .ok _ => False | .error e => E e s') s) : wpC M A (PySem.call f pos kw) Q E s := wpC.runValue hc
theorem codeC.mono {c : Code} {R R' : Result → Shared → Prop} (h : codeC M A c R s) (hR : ∀ r s, R r s → R' r s) : codeC M A c R' s :=
  fun Γ p hc hΓ hB => wpCode_mono hR (h Γ p hc hΓ hB)
theorem codeC.tree {c : Code} {R : Result → Shared → Prop}
    (h : wpC M (A.under c) (M.den c) (fun fin s' => match fin with | .done f => R (.ok f) s' | .again c' => c'.quiet = true ∧ codeC M A c' R s') (fun e s' => R (.error e) s') s) : codeC M A c R s := fun Γ p hc hΓ hB => by
  rw [wpCode_iff_wp, hc]
  refine Sem.wp_mono M Γ _ (fun fin p' s' h' => ?_) (fun _ _ _ h' => h') p s (h Γ p (hc ▸ hΓ.in) (.inr hB))
  cases fin with
  | done f => exact h'
  | again c' => exact ⟨h'.1, h'.2 (Γ.goto c') p' rfl (hΓ.goto c') hB⟩
/-- the code itself is known too -/
theorem codeC.own {c : Code} {R : Result → Shared → Prop}
    (h : ∀ Γ p, Γ.code = c → Γ.Below A → HasB Γ → wp M Γ (M.den c) (fun fin p' s' => match fin with | .done f => R (.ok f) s' | .again c' => c'.quiet = true ∧ codeC M A c' R s') (fun e _ s' => R (.error e) s') p s) : codeC M A c R s := fun Γ p hc hΓ hB => by
  rw [wpCode_iff_wp, hc]
  refine Sem.wp_mono M Γ _ (fun fin p' s' h' => ?_) (fun _ _ _ h' => h') p s (h Γ p hc hΓ hB)
  cases fin with
  | done f => exact h'
  | again c' => exact ⟨h'.1, h'.2 (Γ.goto c') p' rfl (hΓ.goto c') hB⟩
theorem codeC.loop {c : Code} {R : Result → Shared → Prop} (hq : c.quiet = true) (I : Nat → Shared → Prop)
    (turn : ∀ n s, I n s → wpC M (A.under c) (M.den c)
      (fun fin s' => match fin with
        | .done f => R (.ok f) s'
        | .again c' => (c' = c ∧ ∃ m, m < n ∧ I m s') ∨ (c'.quiet = true ∧ codeC M A c' R s')) (fun e s' => R (.error e) s') s)
    (n : Nat) (h : I n s) : codeC M A c R s := by
  induction n using Nat.strongRecOn generalizing s with
  | ind n ih =>
    refine codeC.tree ((turn n s h).mono (fun fin s' hf => ?_) fun _ _ h' => h')
    cases fin with
    | done f => exact hf
    | again c' =>
      rcases hf with ⟨e, m, hm, hI⟩ | hf
      · exact ⟨e ▸ hq, e ▸ ih m hm hI⟩
      · exact hf
end
end Mine
end
section
open PySem PySem.W PyProof.Rows PySem.Calls
open PySem.Sem (wp)
set_option maxRecDepth 100000
namespace Mine
/-- a thread under the claim's caller ends as wpC says -/
theorem ends_C {prog : Program} {w : World} {t : Sem Fin} {s : Shared} {R : Result → Shared → Prop} (hreg : s.asleep)
    (h : wpC (model prog w) callerA t (fun fin s' => ∃ f, fin = .done f ∧ (R (.ok f) s' ∧ leftWithCleanup s'.gens = false)) (fun e s' => R (.error e) s' ∧ leftWithCleanup s'.gens = false) s) :
    ∃ n r s' s'', runN (denote table) prog w n s ⟨t, .builtin "claim.caller" {}, default, []⟩ = .halted (outcomeOf r) s' ∧
      schedN (denote table) prog w n (.single s ⟨t, .builtin "claim.caller" {}, default, []⟩) = .halted (outcomeOf r) s' ∧ s'.forget = s''.forget ∧ R r s'' := by
  have h1 := h ⟨.builtin "claim.caller" {}, none, none, [], none⟩ default caller_in (.inl rfl)
  obtain ⟨n, r, sa, sb, ha, hb, hf, hR⟩ := wp_halts_full (M := model prog w) (R := R) hreg (Sem.wp_mono _ _ _ (fun fin _ s' hx => by obtain ⟨f, rfl, hf⟩ := hx; exact hf) (fun _ _ _ hx => hx) _ _ h1)
  exact ⟨n, r, sb, sa, hb, ha, hf, hR⟩
/-- the walk that is wanted: as the library's WalkO, under the claim's caller alone -/
noncomputable abbrev WalkC (q : Program) (loose : List Str) (XP : (Str → Option Value) → Heap → Prop) (YP : World → Heap → Prop) (r : RowW) (d : DefRec) (kwd : List (Str × Expr)) : Prop :=
  ∀ (w : World) (s₀ s₁ : Shared) (mg mb : Str → Option Value), Ground q loose r.records XP w s₀ mg mb s₁.heap → YP w s₁.heap → ∀ (a : Addr) (o : Obj) (pm cd doc dV kV : Value), s₁.heap.get? a = some o →
    o.data = .func { docDef d.name d.params d.body d.scope pm cd doc with defaults := dV, kwdefaults := kV } → s₁.heap.CodeRec cd d.name → Dflts mg s₁.heap d.params kwd dV kV → mg d.name = some (.ref a) → s₁.gens = #[] →
    ∀ (args : List WData) (vals : List Value) (as : List Addr), r.claim.pre args = true → WData.layableAll args = true → ReadsAllW r.records (classAt s₀.heap) s₁.heap vals args as → WellAll w.params s₁.heap vals args → (∀ a ∈ as, (a == sysModules) = false) →
      wpC (model r.prog w) callerA (PySem.call (.ref a) vals) (fun v s' => GoodWG r.claim (classAt s₀.heap) (ExcName.means s₀.heap) args s₁ (.ok (.ret v)) s')
        (fun e s' => GoodWG r.claim (classAt s₀.heap) (ExcName.means s₀.heap) args s₁ (.error e) s') s₁
/-- the head, its walk under the claim's caller -/
theorem PySem.W.holds_open {r : OpenRow} {q : Program} {loose : List Str} {Xt : Shared → Bool} {XP : (Str → Option Value) → Heap → Prop} {α : Type} {Yf : Shared → α} {Ya : World → α} {YP : World → Heap → Prop} {d : DefRec} {kwd : List (Str × Expr)} {N : Nat}
    (left : LeftO r.prog q loose Xt Yf Ya N) (hY : ∀ w s, Yf s = Ya w → YP w s.heap) (hYk : ∀ w h h', YP w h → (∀ b o, h.get? b = some o → h'.get? b = some o) → YP w h')
    (hX : ∀ s, Xt s = true → XP (s.heap.nsMap mainGlobals) s.heap) (hXk : ∀ mg h h', XP mg h → (∀ b o, h.get? b = some o → h'.get? b = some o) → XP mg h')
    (hdef : defOf q r.name = some (d, kwd)) (hp : r.prog.theDef r.name = some (d.params, d.body, d.scope)) (hk : kwWritten? d.params.kwonlyargs d.params.kw_defaults = some kwd) (hRf : ∀ s, Xt s = true → RecFacts r.records s.heap) (hwr : (!r.writes || r.records.isEmpty) = true)
    (k1 : r.wellSaid = true) (ok : (chainsOk q && opensWell r.prog && (frees r.toRowW && r.within.isEmpty)) = true) (hb : r.prog.bare) (hw : r.toRowW.promised)
    (walk : WalkC q loose XP YP r.toRowW d kwd) : r.Holds := by
  have ok1 := Bool.and_eq_true_iff.mp ok
  have ok2 := Bool.and_eq_true_iff.mp ok1.1
  have ok3 := Bool.and_eq_true_iff.mp ok1.2
  have fp := frees_parts ok3.1
  have hwi : r.toRowW.claim.within = [] := List.isEmpty_iff.mp ok3.2
  refine ⟨k1, hw, ⟨⟨hb, ok2.2, ?_⟩, hw.witness, fun w => ⟨(left.behind hX ok2.1 w).1, fun sA hA => ?_⟩⟩⟩
  · show r.makers.map _ = []
    rw [fp.2.2.2.2]; rfl
  obtain ⟨s₀, hfe, hg0, s, hT, hz, hgz, hg, GG, y⟩ := (left.behind (XP := fun mg h => XP mg h ∧ RecFacts r.records h) (fun s hs => ⟨hX s hs, hRf s hs⟩) ok2.1 w).2 sA hA
  have G0 : Ground q loose [] XP w s (s.heap.nsMap mainGlobals) (s.heap.nsMap builtinsNs) s.heap := ⟨GG.T, GG.B, GG.D, GG.TE, GG.TD, GG.W, GG.X.1, GG.cls, GG.has, GG.apart, GG.once, GG.K⟩
  have RF := GG.X.2
  have hgs : s.gens = #[] := Array.eq_empty_of_size_eq_zero (beq_iff_eq.mp hgz)
  have G : Ground q loose r.records XP w s _ _ s.heap := RF.ground G0
  refine ⟨s₀, hfe, hg0, s, hT, fun n hn => ?_, RF.1, RF.2.1, fun args hpre hlay ord hord => ?_⟩
  · have e : n = r.name := by split at hn <;> simp_all
    rw [e]
    exact pinned_of_view hg G0 hdef hp hk
  obtain ⟨⟨vs, s₁⟩, hlaid⟩ := Option.isSome_iff_exists.mp (layAllW_isSome (P := w.params) (ord := ord) G.has args r.args s (pre_splitW hpre).1)
  have keeps := layAllW_keeps _ _ _ hlaid
  have hal := layAllW_rest _ _ _ hlaid
  obtain ⟨as, hrd, hin, hold⟩ := reads_layAllW hord _ _ _ hlaid hlay s₁.heap (fun _ _ e => e)
  have L : Laid r.records w s s₁ args vs as := ⟨⟨ord, hord, hlaid⟩, hrd, hin, hold, keeps, hal.1.trans hgs, hal.2.2.1⟩
  have G₁ := G.keeps hXk keeps
  obtain ⟨a, o, pm, cd, doc, dV, kV, h1, h2, h3, h4, h5⟩ := G₁.fn hdef
  have hc := walk w s s₁ _ _ G₁ (hYk _ _ _ (hY w s y) keeps) a o pm cd doc dV kV h2 h3 h4 h5 (defOf_name hdef ▸ h1) L.gens args vs as hpre hlay L.reads L.well (L.low G.low)
  have hi := ident_freeW (r := r.toRowW) fp.2.1 fp.2.2.1 fp.2.2.2.1
  have fin : ∀ res s', GoodWG r.toRowW.claim (classAt s.heap) (ExcName.means s.heap) args s₁ res s' →
      (r.toRowW.claim.Ends s args vs s₁ res s' ∧ s'.os = s.os ∧ (r.writes = true → namesKept r.prog r.keeps s.heap s'.heap ∧ ∀ x ∈ r.records, ∀ a, classAt s.heap x.1 = some a → recordClass s'.heap a x.1 (x.2.map (·.1)) = true)) ∧ leftWithCleanup s'.gens = false := by
    intro res s' g
    have z := g.laid (c := r.toRowW.claim) fp.1 hwi hi L
    exact ⟨⟨z.1, z.2.1, fun q => ⟨namesKept_of hT hg _ keeps g.2.1.old, noTable hwr q⟩⟩, leftWithCleanup_false_of_bare z.2.2⟩
  have tree : wpC (model r.prog w) callerA (do match ← nsGet mainNs r.name with
      | some f => do ret (← PySem.call f vs)
      | none => unsupported "claim.caller:no-such-global") (fun f s' => ∃ fl, f = .done fl ∧ ((fun res s' => r.toRowW.claim.Ends s args vs s₁ res s' ∧ s'.os = s.os ∧ (r.writes = true → namesKept r.prog r.keeps s.heap s'.heap ∧ ∀ x ∈ r.records, ∀ a, classAt s.heap x.1 = some a → recordClass s'.heap a x.1 (x.2.map (·.1)) = true)) (.ok fl) s' ∧ leftWithCleanup s'.gens = false))
      (fun e s' => (fun res s' => r.toRowW.claim.Ends s args vs s₁ res s' ∧ s'.os = s.os ∧ (r.writes = true → namesKept r.prog r.keeps s.heap s'.heap ∧ ∀ x ∈ r.records, ∀ a, classAt s.heap x.1 = some a → recordClass s'.heap a x.1 (x.2.map (·.1)) = true)) (.error e) s' ∧ leftWithCleanup s'.gens = false) s₁ := by
    refine wpC.andThen (wpAny_nsGet G₁.T.g ?_)
    rw [h1]
    refine wpC.bind (hc.mono (fun v s' g => ?_) fun e s' g => fin _ _ g)
    exact wpC.pure (a := Fin.done (.ret v)) ⟨_, rfl, fin _ _ g⟩
  obtain ⟨k, res, s', s'', hrun, hsched, hfo, hends, hos, hkp⟩ := ends_C (R := fun res s' => r.toRowW.claim.Ends s args vs s₁ res s' ∧ s'.os = s.os ∧ (r.writes = true → namesKept r.prog r.keeps s.heap s'.heap ∧ ∀ x ∈ r.records, ∀ a, classAt s.heap x.1 = some a → recordClass s'.heap a x.1 (x.2.map (·.1)) = true)) (Shared.asleep_of_life hal.2.2.2 hz) tree
  obtain ⟨eh, _, _, eo, _⟩ := Shared.forget_eq hfo
  have hends := hends.congr eh
  rw [← eh] at hkp
  rw [← eo] at hos
  have hlife : s'.heap.life = s.heap.life := (runN_life _ _ _ hrun).trans hal.2.2.2
  refine ⟨vs, s₁, hlaid, k, _, s', hsched, ?_, (fun _ i x hx => by rw [hgs] at hx; simp at hx), hkp, by rw [hlife], Shared.rest_eq hos⟩
  rcases hends with ⟨v, rfl, d1, d2, d3, d4, d5⟩ | ⟨e, ob, cls, rfl, d1, d2, d3, d4, d5⟩
  · exact .inl ⟨v, rfl, d1, d2, d3, fun b o y _ => d4 b o y, d5⟩
  · exact .inr ⟨e, ob, cls, rfl, d1, d2, d3, d4, fun b o y _ => d5 b o y⟩
end Mine
end
section
open PySem PySem.W PyProof.Rows
set_option maxRecDepth 100000
set_option maxHeartbeats 8000000
namespace Mine
/-- the text without its three names of modules: what the head keeps of it -/
noncomputable def view : Program :=
  { PySem.Challenge.pw_ny0075_01 with main := { PySem.Challenge.pw_ny0075_01.main with body := ((PySem.Challenge.pw_ny0075_01.main.body.eraseIdx 5).eraseIdx 2).eraseIdx 0 } }
theorem row_looks : (OpenLaw.row PySem.Challenge.rw_ny0075_01).wellSaid = true := by
  unfold OpenRow.wellSaid
  with_reducible refine look_both (look_both ?_ ?_) ?_
  unfold OpenRow.partSaid
  repeat' (with_reducible refine look_both ?_ ?_)
  unfold looksOpen
  repeat' (with_reducible refine look_both ?_ ?_)
  all_goals decide +kernel
theorem law_looks : OpenLaw.wellSaid PySem.Challenge.rw_ny0075_01 = true := by
  unfold OpenLaw.wellSaid
  repeat' (with_reducible first | exact row_looks | refine look_both ?_ ?_)
  all_goals decide +kernel
theorem prog_bare : (OpenRow.toRowW (OpenLaw.row PySem.Challenge.rw_ny0075_01)).prog.bare := ⟨rfl, rfl, rfl, rfl, rfl, by decide +kernel⟩
-- the head's run is left to the kernel, in one piece
local macro_rules | `(tactic| o_law) => `(tactic| refine holds_law Mine.law_looks fun said => ?_)
local macro_rules | `(tactic| o_head $H) => `(tactic| refine Mine.PySem.W.holds_open (q := Mine.view) (loose := []) (Xt := fun s => xlAt Mine.view [] s && recOk (RowW.records (OpenRow.toRowW (OpenLaw.row PySem.Challenge.rw_ny0075_01))) s) (XP := XL Mine.view []) (Yf := Hook.obs $H) (Ya := Hook.val $H) (YP := Hook.says $H) (N := 880) (fun w => by kernel_rfl) (Hook.of $H) (Hook.keeps $H) (fun s e => xl_of s (Bool.and_eq_true_iff.mp e).1) XL.keeps (by rfl) (by rfl) (by rfl) (fun s e => recFacts_of (Bool.and_eq_true_iff.mp e).2) (by rfl) (by assumption) (by decide +kernel) prog_bare ?hw ?hc)
open_top hd for PySem.Challenge.rw_ny0075_01
end Mine
end
section
open PySem PySem.W PyProof.Rows PySem.Calls
set_option maxRecDepth 100000
namespace Mine
/-- what a call of a def of the text does: it hands back r and has made tl -/
noncomputable def Con (w : World) (f : Addr) (d u : Nat) (vs : List Value) (P : Value → List (Addr × Obj) → Prop) : Prop :=
  ∀ (mean : ExcName → Option Value) (mg mb : Str → Option Value) (dp un : Nat) (gd : Option (List Code)) (cn : Str) (cs : Scope) (a : Addr) (ccd : Value) (cl : List (Str × Addr)) (outer : List Env)
    (A₀ : Around) (base h₀ : Heap) (L : Addr) (m : Str → Option Value) (news : List (Addr × Obj)) (s : Shared) (Q E : Value → Shared → Prop),
    Below A₀ base outer h₀ → Fr h₀ L s.heap m → (Mine.hd.heap_1 w.params).In h₀ → News h₀ L s.heap news →
    Top Mine.view (looseW Mine.view []) mean mg mb h₀ → cs.kind = .function →
    dp + d < recursionLimit → un + u < cLine →
    (∀ r tl h' tk', P r tl → Fr h₀ L h' m → News h₀ L h' (tl ++ news) → (∀ p ∈ tl, ∀ q ∈ news, q.1 < p.1) → Q r { s with heap := h', toks := tk' }) →
    wpAny (model PySem.Challenge.rw_ny0075_01.row.prog w) (ktrTop dp un gd cn cs L a ccd cl outer) (call (.ref f) vs) Q E s

noncomputable abbrev tupO (vs : List Value) (c : Nat) : Obj := { cls := .type "tuple", data := .seq vs.toArray c }
/-- a fresh tuple of these values -/
noncomputable def Tup (Vs : List Value → Prop) (r : Value) (tl : List (Addr × Obj)) : Prop := ∃ D c vs, Vs vs ∧ r = .ref D ∧ tl = [(D, tupO vs c)]
noncomputable def Flo3 (x y z : UInt64) (vs : List Value) : Prop := ∃ t1 t2 t3, (t1 ≠ 0 ∧ t2 ≠ 0 ∧ t3 ≠ 0) ∧ vs = [.float x t1, .float y t2, .float z t3]
noncomputable def Str3 (x y z : Str) (vs : List Value) : Prop := ∃ t1 t2 t3, vs = [.str x t1, .str y t2, .str z t3]

section
variable {prog : Program} {w : World} {A A₀ : Around} {s : Shared} {K : Frag} {L : Addr} {h₀ base : Heap} {m mg mb : Str → Option Value} {p : Program} {loose : List Str} {mean : ExcName → Option Value}
/-- a def is entered: all that stood is the callee's ground, its ledger is empty -/
theorem enterE {env : Env} {outer : List Env} {R : Result → Shared → Prop} {name qual : Str} {params : Arguments} {body : List Stmt} {scope : Scope} {dV kV doc pm cdv ct oc : Value} {an od : Option Addr} {osl : Array (Option Value)} {f : Addr} {args : Args} {binds : List (Str × Value)}
    (B : Below A₀ base outer h₀) (F : Fr h₀ L s.heap m) (X₀ : K.In h₀) (T : Top p loose mean mg mb h₀) (hA : A.frames = some (env :: outer)) (hf : env.frame = some L) (hke : env.scope.kind = .function)
    (ho : K.lookup f = some ⟨oc, od, .func (fnOf name qual params body scope dV kV doc pm an cdv ct), osl⟩) (hcd : codeIn K cdv qual = true) (hroom : A.depth < recursionLimit)
    (hbind : BindsTo s (fnOf name qual params body scope dV kV doc pm an cdv ct) args binds) (hloc : ∀ y ∈ binds, scope.names.lookup y.1 = some .local)
    (h : ∀ L' h₁, Fr s.heap L' h₁ (fun y => binds.reverse.lookup y) → News s.heap L' h₁ [] → Below A base (env :: outer) s.heap → K.In s.heap → Top p loose mean mg mb s.heap →
      wpAny (model prog w) (A.deeper (envOf qual scope L' f cdv)) (execs body (envOf qual scope L' f cdv))
        (fun fl s' => LeaveK h₀ L m s.heap R (match fl with | .ret v => v | _ => .none) s')
        (fun e s' => wpAny (model prog w) (A.deeper (envOf qual scope L' f cdv)) (leaving (envOf qual scope L' f cdv) e) (fun _ s'' => R (.error e) s'') (fun e' s'' => R (.error e') s'') s')
        { s with heap := h₁, toks := s.toks + binds.length })
    (hco : scope.isCoroutine = false) (hgen : scope.isGenerator = false) (hk : scope.kind = .function)
    (hcell : ∀ x ∈ scope.names, x.2 ≠ .cell) : codeAny (model prog w) A (.call (.ref f) args) R s := by
  obtain ⟨FG, BG, st, lv⟩ := groundX (R := R) B F (News.nil) hA hf hke
  refine codeAny_call_def (fd := fnOf name qual params body scope dV kV doc pm an cdv ct) (body := body) (binds := binds) hroom ((X₀.keeps F.keep) _ _ ho) rfl (T.nolimit.keeps F.keep) (codeRec_of (X₀.keeps F.keep) hcd) rfl hbind hcell hloc (fun h₁ hns hk₁ => ?_) hco hgen hk
  exact wpAny_mono (h s.heap.objs.size h₁ ⟨hns, hk₁, Nat.le_refl _⟩ News.nil BG (X₀.keeps st) (T.keeps st)) (fun fl s' hl => lv _ _ hl) fun _ _ y => y
/-- a tuple is made: its address lies above the frame's and above all that the ledger bears -/
theorem newTuple_E {M : Model} {E : Value → Shared → Prop} {news : List (Addr × Obj)} {vs : List Value} {Q : Value → Shared → Prop} (F : Fr h₀ L s.heap m) (N : News h₀ L s.heap news)
    (h : ∀ D h', Fr h₀ L h' m → News h₀ L h' ((D, tupO vs 0) :: news) → (∀ p ∈ news, p.1 < D) → L < D → Q (.ref D) { s with heap := h' }) (hsz : vs.length ≤ sizeLine) :
    wpAny M A (newTuple vs) Q E s :=
  newTuple_N F N (fun h' F' N' => h _ h' F' N' (fun p hp => Heap.lt_size (N p hp).1) (F.ns.lt)) hsz
end

theorem fin {h₀ h' : Heap} {L L' : Addr} {m m' : Str → Option Value} {news tl tl' : List (Addr × Obj)} {s : Shared} {P : Value → List (Addr × Obj) → Prop} {Q : Value → Shared → Prop} {r : Value} {tk' : Nat}
    (hret : ∀ r tl h' tk', P r tl → Fr h₀ L h' m → News h₀ L h' (tl ++ news) → (∀ p ∈ tl, ∀ q ∈ news, q.1 < p.1) → Q r { s with heap := h', toks := tk' })
    (N : News h₀ L s.heap news) (F' : Fr s.heap L' h' m') (kF : Fr h₀ L h' m) (kN : News h₀ L h' tl') (hsub : ∀ p ∈ tl, p ∈ tl') (hlt : ∀ p ∈ tl, L' < p.1) (hP : P r tl) : Q r { s with heap := h', toks := tk' } := by
  refine hret r tl h' tk' hP kF (fun p hp => ?_) fun p hp q hq => ?_
  · rcases List.mem_append.mp hp with hp | hp
    · exact kN p (hsub p hp)
    · exact ⟨F'.keep _ _ (N p hp).1, (N p hp).2⟩
  · exact Nat.lt_of_lt_of_le (Heap.lt_size (N q hq).1) (Nat.le_of_lt (Nat.lt_of_le_of_lt F'.above (hlt p hp)))
theorem finT {h₀ h' : Heap} {L L' D : Addr} {m m' : Str → Option Value} {news tl' : List (Addr × Obj)} {s : Shared} {Vs : List Value → Prop} {vs : List Value} {c : Nat} {Q : Value → Shared → Prop} {tk' : Nat}
    (hret : ∀ r tl h' tk', Tup Vs r tl → Fr h₀ L h' m → News h₀ L h' (tl ++ news) → (∀ p ∈ tl, ∀ q ∈ news, q.1 < p.1) → Q r { s with heap := h', toks := tk' })
    (N : News h₀ L s.heap news) (F' : Fr s.heap L' h' m') (kF : Fr h₀ L h' m) (kN : News h₀ L h' tl') (hm : (D, tupO vs c) ∈ tl') (hlt : L' < D) (hV : Vs vs) : Q (.ref D) { s with heap := h', toks := tk' } :=
  fin (tl := [(D, tupO vs c)]) hret N F' kF kN (fun p hp => by rw [List.mem_singleton.mp hp]; exact hm) (fun p hp => by rw [List.mem_singleton.mp hp]; exact hlt) ⟨D, c, vs, hV, rfl, rfl⟩
theorem finV {h₀ h' : Heap} {L L' : Addr} {m m' : Str → Option Value} {news : List (Addr × Obj)} {s : Shared} {P : Value → Prop} {Q : Value → Shared → Prop} {r : Value} {tk' : Nat}
    (hret : ∀ r tl h' tk', (P r ∧ tl = []) → Fr h₀ L h' m → News h₀ L h' (tl ++ news) → (∀ p ∈ tl, ∀ q ∈ news, q.1 < p.1) → Q r { s with heap := h', toks := tk' })
    (N : News h₀ L s.heap news) (F' : Fr s.heap L' h' m') (kF : Fr h₀ L h' m) (hP : P r) : Q r { s with heap := h', toks := tk' } :=
  fin (P := fun r tl => P r ∧ tl = []) (tl := []) (tl' := []) hret N F' kF News.nil (fun _ hp => hp) (fun _ hp => nomatch hp) ⟨hP, rfl⟩
end Mine
end
section
open PySem PySem.W PyProof.Rows PySem.Calls
set_option maxRecDepth 100000
set_option maxHeartbeats 8000000
namespace Mine
noncomputable abbrev one64 : UInt64 := 4607182418800017408
noncomputable abbrev six64 : UInt64 := 4618441417868443648
theorem nt {b : Bool} (h : b = false) : ¬ b = true := by rw [h]; decide
theorem no6 {i : Int} (h0 : i.fmod 6 ≠ 0) (h1 : i.fmod 6 ≠ 1) (h2 : i.fmod 6 ≠ 2) (h3 : i.fmod 6 ≠ 3) (h4 : i.fmod 6 ≠ 4) (h5 : i.fmod 6 ≠ 5) : False := by
  rw [Int.fmod_eq_emod_of_nonneg i (by decide)] at *
  omega
/-- what hsv_to_rgb reckons -/
noncomputable def hsvR (h sa v : UInt64) : UInt64 × UInt64 × UInt64 :=
  if (Float64.cmp sa 0 == some .eq) = true then (v, v, v) else
  let x := Float64.mul h six64
  let i := Flt.toInt Float64.truncOf x
  let f := Float64.sub x (Float64.ofInt i)
  let p := Float64.mul v (Float64.sub one64 sa)
  let q := Float64.mul v (Float64.sub one64 (Float64.mul sa f))
  let t := Float64.mul v (Float64.sub one64 (Float64.mul sa (Float64.sub one64 f)))
  if i.fmod 6 = 0 then (v, t, p) else if i.fmod 6 = 1 then (q, v, p) else if i.fmod 6 = 2 then (p, v, t) else if i.fmod 6 = 3 then (p, q, v) else if i.fmod 6 = 4 then (t, p, v) else (v, p, q)
local macro_rules | `(tactic| walk_at "newTuple") => `(tactic| (k_here; k_dflt (refine' newTuple_E ?F ?N ?_ ?z; (case F => k_asm); (case N => k_asm); (case z => kmk_size)); intro D' h' F' N' l1 l2; (try k_lt l1); (try k_sweep)))
theorem hsv_con (w : World) (h sa v : UInt64) (t1 t2 t3 : Tok) (hfin : Float64.isFinite (Float64.mul h six64) = true) (hsm : (Flt.toInt Float64.truncOf (Float64.mul h six64)).natAbs < 2000000) (ht3 : t3 ≠ 0)
    (hz : PySem.Challenge.rw_ny0075_01 = PySem.Challenge.rw_ny0075_01) : Con w 35 1 20 [.float h t1, .float sa t2, .float v t3] (Tup (Flo3 (hsvR h sa v).1 (hsvR h sa v).2.1 (hsvR h sa v).2.2)) := by
  unfold Con
  w_on
  revert hz
  k_fill
  intro hz mean mg mb dp un gd cn cs a ccd cl outer A₀ base h₀ L m news s Q E B F X N T hk hd hu hret
  w_strict (
    refine wpAny_call ?_
    k_dflt ((refine' enterE ?k1 ?k2 ?k3 ?k5 ?kA ?kF ?kK ?k6 ?k7 ?k8 ?k9 ?kB ?_ ?c2 ?c3 ?c4 ?c5; (case kA => exact rfl); (case kF => exact rfl); (case kK => assumption); (case k1 => k_asm); (case k2 => k_asm); (case k3 => k_asm); (case k5 => k_asm); (case k6 => k_is); (case k7 => k_is); (case k8 => ktr_room); (case k9 => exact BindsTo.of_eq rfl); (case c5 => decide); (case kB => exact locs rfl); (case c2 => exact rfl); (case c3 => exact rfl); (case c4 => exact rfl); k_whole; intro L' h' F' N' B' X' T'; (try dsimp only); (try k_lift B'); (try k_fold)))
    k_steps
    all_goals first
    | (refine finT hret N (by assumption) (by assumption) (by assumption) (by k_mem) (by assumption) ?_; unfold Flo3 hsvR; (first | rw [if_pos (by assumption)] | rw [if_neg (nt (by assumption))]); (try dsimp only); (repeat (first | rw [if_pos (by assumption)] | rw [if_neg (by assumption)])); exact ⟨_, _, _, ⟨by first | exact Nat.succ_ne_zero _ | assumption, by first | exact Nat.succ_ne_zero _ | assumption, by first | exact Nat.succ_ne_zero _ | assumption⟩, rfl⟩)
    | exact (no6 (by assumption) (by assumption) (by assumption) (by assumption) (by assumption) (by assumption)).elim)
end Mine
end
section
open PySem PySem.W PyProof.Rows PySem.Calls
set_option maxRecDepth 100000
set_option maxHeartbeats 8000000
namespace Mine
local macro_rules | `(tactic| walk_at "newTuple") => `(tactic| (k_here; k_dflt (refine' newTuple_E ?F ?N ?_ ?z; (case F => k_asm); (case N => k_asm); (case z => kmk_size)); intro D' h' F' N' l1 l2; (try k_lt l1); (try k_sweep)))

noncomputable abbrev strI (n : Int) : Str := Str.ofString (toString n)
noncomputable abbrev dot : Str := Str.ofString "."
/-- what _law_ring tells -/
noncomputable def ringT (wh re : Int) : Str := if re = 0 then strI wh else if re.fmod 4 = 0 then strI wh ++ dot ++ strI (re.fdiv 4) else strI wh ++ dot ++ strI (re.fdiv 4) ++ dot ++ strI (re.fmod 4)
noncomputable def tens (x : Int) : Int := if x < 10 then 1 else if x < 100 then 10 else if x < 1000 then 100 else if x < 10000 then 1000 else if x < 100000 then 10000 else 100000
/-- what _law_times counts -/
noncomputable def timesZ (x : Int) : Int := if (x - 5 * tens x).fdiv 3 + 1 > 0 then (x - 5 * tens x).fdiv 3 + 1 else 0
noncomputable def IsStr (x : Str) (r : Value) : Prop := ∃ t, r = .str x t
noncomputable def IsInt (x : Int) (r : Value) : Prop := ∃ t, r = .int x t
theorem ring_con (w : World) (wh re : Int) (t1 t2 : Tok) (hb0 : 0 ≤ wh) (hb1 : wh < 1000000) (hb2 : 0 ≤ re) (hb3 : re < 16)
    (hz : PySem.Challenge.rw_ny0075_01 = PySem.Challenge.rw_ny0075_01) : Con w 56 1 20 [.int wh t1, .int re t2] (fun r tl => IsStr (ringT wh re) r ∧ tl = []) := by
  unfold Con
  w_on
  revert hz
  k_fill
  intro hz mean mg mb dp un gd cn cs a ccd cl outer A₀ base h₀ L m news s Q E B F X N T hk hd hu hret
  w_strict (
    refine wpAny_call ?_
    k_dflt ((refine' enterE ?k1 ?k2 ?k3 ?k5 ?kA ?kF ?kK ?k6 ?k7 ?k8 ?k9 ?kB ?_ ?c2 ?c3 ?c4 ?c5; (case kA => exact rfl); (case kF => exact rfl); (case kK => assumption); (case k1 => k_asm); (case k2 => k_asm); (case k3 => k_asm); (case k5 => k_asm); (case k6 => k_is); (case k7 => k_is); (case k8 => ktr_room); (case k9 => exact BindsTo.of_eq rfl); (case c5 => decide); (case kB => exact locs rfl); (case c2 => exact rfl); (case c3 => exact rfl); (case c4 => exact rfl); k_whole; intro L' h' F' N' B' X' T'; (try dsimp only); (try k_lift B'); (try k_fold)))
    k_steps
    all_goals first
    | (refine finV hret N (by assumption) (by assumption) ?_; unfold IsStr ringT; (repeat (first | rw [if_pos (by assumption)] | rw [if_neg (by assumption)])); exact ⟨_, rfl⟩))
theorem acc_is : ∀ k : Nat, (accUp (fun (_ : Int) (σ : PyProof.Rows.St) => ({ zs := [σ.zs.headD 0 * 10], bs := [], ss := [] } : PyProof.Rows.St)) 0 { zs := [1], bs := [], ss := [] } (k : Int)) = { zs := [(10 : Int) ^ k], bs := [], ss := [] }
  | 0 => by rw [show ((0 : Nat) : Int) = 0 from rfl, accUp_start]; rfl
  | k + 1 => by
    rw [show ((k + 1 : Nat) : Int) = (k : Int) + 1 from by omega, accUp_succ (by omega), acc_is k]
    show ({ zs := [(10 : Int) ^ k * 10], bs := [], ss := [] } : PyProof.Rows.St) = _
    rw [Int.pow_succ]
theorem acc_at {n : Int} (hn : 0 ≤ n) : (accUp (fun (_ : Int) (σ : PyProof.Rows.St) => ({ zs := [σ.zs.headD 0 * 10], bs := [], ss := [] } : PyProof.Rows.St)) 0 { zs := [1], bs := [], ss := [] } n).zs.headD 0 = (10 : Int) ^ n.toNat := by
  have e : n = ((n.toNat : Nat) : Int) := by omega
  have h := acc_is n.toNat
  rw [← e] at h
  rw [h]
  rfl
theorem tens_of {wh n : Int} (h0 : 0 ≤ wh) (h1 : wh < 1000000) (hn : 0 ≤ n)
    (hp : Passed (fun j => decide ((accUp (fun (_ : Int) (σ : PyProof.Rows.St) => ({ zs := [σ.zs.headD 0 * 10], bs := [], ss := [] } : PyProof.Rows.St)) 0 { zs := [1], bs := [], ss := [] } j).zs.headD 0 * 10 ≤ wh)) (fun _ => false) n)
    (he : wh < (accUp (fun (_ : Int) (σ : PyProof.Rows.St) => ({ zs := [σ.zs.headD 0 * 10], bs := [], ss := [] } : PyProof.Rows.St)) 0 { zs := [1], bs := [], ss := [] } n).zs.headD 0 * 10) :
    (accUp (fun (_ : Int) (σ : PyProof.Rows.St) => ({ zs := [σ.zs.headD 0 * 10], bs := [], ss := [] } : PyProof.Rows.St)) 0 { zs := [1], bs := [], ss := [] } n).zs.headD 0 = tens wh := by
  rw [acc_at hn] at he ⊢
  have hp' : ∀ j, 0 ≤ j → j < n → (10 : Int) ^ j.toNat * 10 ≤ wh := fun j h2 h3 => by
    have h4 := of_decide_eq_true (hp j h2 h3).1
    rw [acc_at h2] at h4
    exact h4
  have h6 : n < 6 := by
    refine Decidable.byContradiction fun h => ?_
    have := hp' 5 (by omega) (by omega)
    rw [show ((5 : Int)).toNat = 5 from rfl] at this
    omega
  unfold tens
  have hc : n = 0 ∨ n = 1 ∨ n = 2 ∨ n = 3 ∨ n = 4 ∨ n = 5 := by omega
  rcases hc with rfl | rfl | rfl | rfl | rfl | rfl
  · rw [show ((0 : Int)).toNat = 0 from rfl] at *
    split <;> omega
  all_goals
    first
    | have hq := hp' 0 (by decide) (by decide)
    rw [show ((0 : Int)).toNat = 0 from rfl] at hq
  · rw [show ((1 : Int)).toNat = 1 from rfl] at *
    (repeat' split) <;> omega
  · have hq := hp' 1 (by decide) (by decide)
    rw [show ((1 : Int)).toNat = 1 from rfl] at hq
    rw [show ((2 : Int)).toNat = 2 from rfl] at *
    (repeat' split) <;> omega
  · have hq := hp' 2 (by decide) (by decide)
    rw [show ((2 : Int)).toNat = 2 from rfl] at hq
    rw [show ((3 : Int)).toNat = 3 from rfl] at *
    (repeat' split) <;> omega
  · have hq := hp' 3 (by decide) (by decide)
    rw [show ((3 : Int)).toNat = 3 from rfl] at hq
    rw [show ((4 : Int)).toNat = 4 from rfl] at *
    (repeat' split) <;> omega
  · have hq := hp' 4 (by decide) (by decide)
    rw [show ((4 : Int)).toNat = 4 from rfl] at hq
    rw [show ((5 : Int)).toNat = 5 from rfl] at *
    (repeat' split) <;> omega
theorem times_con (w : World) (wh : Int) (t1 : Tok) (hb0 : 0 ≤ wh) (hb1 : wh < 1000000)
    (hz : PySem.Challenge.rw_ny0075_01 = PySem.Challenge.rw_ny0075_01) : Con w 63 1 20 [.int wh t1] (fun r tl => IsInt (timesZ wh) r ∧ tl = []) := by
  unfold Con
  w_on
  revert hz
  k_fill
  intro hz mean mg mb dp un gd cn cs a ccd cl outer A₀ base h₀ L m news s Q E B F X N T hk hd hu hret
  w_strict (
    refine wpAny_call ?_
    k_dflt ((refine' enterE ?k1 ?k2 ?k3 ?k5 ?kA ?kF ?kK ?k6 ?k7 ?k8 ?k9 ?kB ?_ ?c2 ?c3 ?c4 ?c5; (case kA => exact rfl); (case kF => exact rfl); (case kK => assumption); (case k1 => k_asm); (case k2 => k_asm); (case k3 => k_asm); (case k5 => k_asm); (case k6 => k_is); (case k7 => k_is); (case k8 => ktr_room); (case k9 => exact BindsTo.of_eq rfl); (case c5 => decide); (case kB => exact locs rfl); (case c2 => exact rfl); (case c3 => exact rfl); (case c4 => exact rfl); k_whole; intro L' h' F' N' B' X' T'; (try dsimp only); (try k_lift B'); (try k_fold)))
    k_steps
    all_goals first
    | (refine finV hret N (by assumption) (by assumption) ?_; unfold IsInt timesZ; (have hT := tens_of hb0 hb1 (by assumption) (by assumption) (by assumption)); rw [hT]; exact ⟨_, rfl⟩))
end Mine
end
section
open PySem PySem.Float64
namespace Mine
/-- a magnitude that a float bears -/
noncomputable def Rep (W : Nat) : Prop := ∃ t, t < infMag ∧ V t = W
theorem V_inj {t t' : Nat} (h : V t = V t') : t = t' := by
  rcases Nat.lt_trichotomy t t' with h1 | h1 | h1
  · have := V_lt h1; (clear h1; omega)
  · exact h1
  · have := V_lt h1; (clear h1; omega)
theorem rep_of {q k W : Nat} (hq : q < 2 ^ 53) (hk : k ≤ 1900) (hW : W = q * 2 ^ k) : Rep W := by
  have hi : infMag = 2047 * 2 ^ 52 := rfl
  subst hW
  by_cases h0 : q = 0
  · subst h0
    exact ⟨0, by rw [hi]; decide, by rw [V_zero, Nat.zero_mul]⟩
  have hl1 : 2 ^ q.log2 ≤ q := Nat.log2_self_le h0
  have hl2 : q < 2 ^ (q.log2 + 1) := Nat.lt_log2_self
  have hl3 : q.log2 ≤ 52 := by
    have : q.log2 < 53 := (Nat.log2_lt h0).mpr hq
    (clear hq hk hi h0 hl1 hl2; omega)
  by_cases hj : 52 - q.log2 ≤ k
  · have e1 : q * 2 ^ (52 - q.log2) * 2 ^ (k - (52 - q.log2)) = q * 2 ^ k := by
      rw [Nat.mul_assoc, ← Nat.pow_add]; congr 2; (clear hq hk hi h0 hl1 hl2 hl3; omega)
    have e2 : 2 ^ 52 ≤ q * 2 ^ (52 - q.log2) := by
      calc 2 ^ 52 = 2 ^ q.log2 * 2 ^ (52 - q.log2) := by rw [← Nat.pow_add]; congr 1; (clear hq hk hi h0 hl1 hl2 hj e1; omega)
        _ ≤ _ := Nat.mul_le_mul_right _ hl1
    have e3 : q * 2 ^ (52 - q.log2) < 2 ^ 53 := by
      calc q * 2 ^ (52 - q.log2) < 2 ^ (q.log2 + 1) * 2 ^ (52 - q.log2) := Nat.mul_lt_mul_of_pos_right hl2 (Nat.two_pow_pos _)
        _ = 2 ^ 53 := by rw [← Nat.pow_add]; congr 1; (clear hq hk hi h0 hl1 hl2 hj e1 e2; omega)
    refine ⟨(k - (52 - q.log2)) * 2 ^ 52 + q * 2 ^ (52 - q.log2), ?_, ?_⟩
    · rw [hi]
      have : (k - (52 - q.log2)) * 2 ^ 52 ≤ 1900 * 2 ^ 52 := Nat.mul_le_mul_right _ (by (clear hq hi h0 hl1 hl2 hl3 hj e1 e2 e3; omega))
      (clear hq hk hi h0 hl1 hl2 hl3 hj e1 e2; omega)
    · rw [V_at (Nat.le_of_lt e3) (.inl e2), e1]
  · have e3 : q * 2 ^ k < 2 ^ 53 := by
      calc q * 2 ^ k < 2 ^ (q.log2 + 1) * 2 ^ k := Nat.mul_lt_mul_of_pos_right hl2 (Nat.two_pow_pos _)
        _ = 2 ^ (q.log2 + 1 + k) := by rw [← Nat.pow_add]
        _ ≤ 2 ^ 53 := Nat.pow_le_pow_right (by decide) (by (clear hq hk hi h0 hl1 hl2 hl3; omega))
    refine ⟨0 * 2 ^ 52 + q * 2 ^ k, by rw [hi]; (clear hq hk hi h0 hl1 hl2 hl3 hj; omega), ?_⟩
    rw [V_at (Nat.le_of_lt e3) (.inr rfl)]; simp
theorem V_top {t : Nat} (h : t < infMag) : V t ≤ (2 ^ 53 - 1) * 2 ^ 2045 := by
  have hi : infMag = 2047 * 2 ^ 52 := rfl
  have h1 : t ≤ 2045 * 2 ^ 52 + (2 ^ 53 - 1) := by omega
  have h2 := V_mono h1
  rw [V_at (k := 2045) (q := 2 ^ 53 - 1) (by decide) (.inl (by decide))] at h2
  exact h2
/-- what is borne exactly is given exactly -/
theorem right_exact {r : UInt64} {neg : Bool} {W D t0 : Nat} (h : Right r neg W D) (hD : 0 < D) (ht : t0 < infMag) (hW : W = D * V t0) : r = pack neg t0 := by
  obtain ⟨t, hr, hle, hov, hn⟩ := h
  have hlt : t < infMag := by
    refine Nat.lt_of_le_of_ne hle fun e => ?_
    have h1 := hov.mp e
    have h2 := V_top ht
    rw [hW] at h1
    have h3 : D * ((2 ^ 54 - 1) * 2 ^ 2045) ≤ D * (2 * V t0) := by rw [Nat.mul_left_comm D 2 (V t0)]; exact h1
    have h4 := Nat.le_of_mul_le_mul_left h3 hD
    have h5 : 2 * V t0 ≤ 2 * ((2 ^ 53 - 1) * 2 ^ 2045) := Nat.mul_le_mul_left _ h2
    have h6 := Nat.le_trans h4 h5
    exact absurd h6 (by decide +kernel)
  have h1 := (hn hlt t0).1
  rw [hW] at h1
  have h2 : dist (D * V t0) (D * V t0) = 0 := by unfold dist; (clear hD ht hW hr hle hov hn hlt h1; omega)
  rw [h2] at h1
  have h3 : D * V t0 = D * V t := by
    unfold dist at h1; (clear hD ht hW hr hle hov hn hlt h2; omega)
  have h4 := V_inj (Nat.eq_of_mul_eq_mul_left hD h3)
  rw [hr, h4]
/-- a finite float and its value in units of 2^-1074 -/
noncomputable def Fl (x : UInt64) (v : Int) : Prop := ∃ a m e, decode x = .fin a m e ∧ val x = v
theorem Fl.pack {neg : Bool} {t : Nat} (h : t < infMag) : Fl (pack neg t) (sgn neg (V t)) := by
  obtain ⟨m, e, hd, _⟩ := decode_pack neg h
  exact ⟨_, m, e, hd, val_pack neg h⟩
theorem fl_right {r : UInt64} {neg : Bool} {W D X : Nat} (h : Right r neg W D) (hD : 0 < D) (hX : Rep X) (hW : W = D * X) : Fl r (sgn neg X) := by
  obtain ⟨t, ht, rfl⟩ := hX
  rw [right_exact h hD ht hW]
  exact Fl.pack ht
theorem sgn_abs (v : Int) : sgn (decide (v < 0)) v.natAbs = v := by
  unfold sgn
  by_cases h : v < 0
  · rw [decide_eq_true h]; simp only [if_true]; omega
  · rw [decide_eq_false h]; simp only [Bool.false_eq_true, if_false]; omega
theorem Fl.add {x y : UInt64} {p q : Int} (hx : Fl x p) (hy : Fl y q) (hr : Rep (p + q).natAbs) : Fl (Float64.add x y) (p + q) := by
  obtain ⟨a, m, e, hd, hv⟩ := hx
  obtain ⟨b, k, f, hd', hv'⟩ := hy
  have h := add_right hd hd'
  rw [hv, hv'] at h
  by_cases h0 : p + q = 0
  · rw [h.1 h0, h0]
    refine (Fl.pack (neg := a && b) (t := 0) (by decide)).elim fun c z => ⟨c, ?_⟩
    obtain ⟨m, e, h1, h2⟩ := z
    refine ⟨m, e, h1, h2.trans ?_⟩
    rw [V_zero]; unfold sgn; split <;> rfl
  · have := fl_right (h.2 h0) (by decide) hr (Nat.one_mul _).symm
    rwa [sgn_abs] at this
theorem Fl.neg {y : UInt64} {q : Int} (hy : Fl y q) : Fl (Float64.neg y) (-q) := by
  obtain ⟨b, k, f, hd', hv'⟩ := hy
  exact ⟨_, _, _, neg_decode hd', by rw [neg_val hd', hv']⟩
theorem Fl.sub {x y : UInt64} {p q : Int} (hx : Fl x p) (hy : Fl y q) (hr : Rep (p - q).natAbs) : Fl (Float64.sub x y) (p - q) := by
  have := Fl.add hx hy.neg (by rw [← Int.sub_eq_add_neg]; exact hr)
  rw [← Int.sub_eq_add_neg] at this
  unfold Float64.sub
  exact this
theorem sgn_zero (b : Bool) : sgn b 0 = 0 := by unfold sgn; split <;> rfl
theorem neg_of {x : UInt64} {a : Bool} {m : Nat} {e : Int} (h : decode x = .fin a m e) (hp : 0 < val x) : a = false := by
  cases a with
  | false => rfl
  | true =>
    rw [val_eq h] at hp
    unfold sgn at hp
    simp only [if_true] at hp
    (clear h; omega)
/-- a product of what is not negative -/
theorem Fl.mul {x y : UInt64} {p q r : Nat} (hx : Fl x p) (hy : Fl y q) (hpq : p * q = 2 ^ 1074 * r) (hr : Rep r) : Fl (Float64.mul x y) r := by
  obtain ⟨a, m, e, hd, hv⟩ := hx
  obtain ⟨b, k, f, hd', hv'⟩ := hy
  have h := mul_right hd hd'
  rw [hv, hv', Int.natAbs_natCast, Int.natAbs_natCast] at h
  have h1 := fl_right h (Nat.two_pow_pos _) hr hpq
  by_cases h0 : r = 0
  · subst h0; rw [sgn_zero] at h1; exact h1
  · have hpos : 0 < p * q := by rw [hpq]; exact Nat.mul_pos (Nat.two_pow_pos _) (Nat.pos_of_ne_zero h0)
    have hp : 0 < p := Nat.pos_of_mul_pos_right hpos
    have hq : 0 < q := Nat.pos_of_mul_pos_left hpos
    rw [neg_of hd (by rw [hv]; (clear hpq hd hv hd' hv' h0 hpos hq; omega)), neg_of hd' (by rw [hv']; (clear hpq hd hv hd' hv' h0 hpos hp; omega))] at h1
    exact h1
/-- a quotient of what is not negative, not exact as a rule -/
theorem div_pos_right {x y : UInt64} {p q : Nat} (hx : Fl x p) (hy : Fl y q) (hp : 0 < p) (hq : 0 < q) : Right (Float64.div x y) false (p * 2 ^ 1074) q := by
  obtain ⟨a, m, e, hd, hv⟩ := hx
  obtain ⟨b, k, f, hd', hv'⟩ := hy
  have hk : k ≠ 0 := by
    intro h0
    have := val_eq hd'
    rw [hv', h0, Nat.zero_mul, sgn_zero] at this
    (clear hp hd hv hd' hv' h0; omega)
  have h := div_right hd hd' hk
  rw [hv, hv', Int.natAbs_natCast, Int.natAbs_natCast, neg_of hd (by rw [hv]; (clear hq hd hv hd' hv' hk; omega)), neg_of hd' (by rw [hv']; (clear hp hd hv hd' hv' hk; omega))] at h
  exact h
theorem Fl.div {x y : UInt64} {p q r : Nat} (hx : Fl x p) (hy : Fl y q) (hq : 0 < q) (hpq : p * 2 ^ 1074 = q * r) (hr : Rep r) : Fl (Float64.div x y) r := by
  obtain ⟨a, m, e, hd, hv⟩ := hx
  obtain ⟨b, k, f, hd', hv'⟩ := hy
  have hk : k ≠ 0 := by
    intro h0
    have := val_eq hd'
    rw [hv', h0, Nat.zero_mul, sgn_zero] at this
    (clear hpq hd hv hd' hv' h0; omega)
  have h := div_right hd hd' hk
  rw [hv, hv', Int.natAbs_natCast, Int.natAbs_natCast] at h
  have h1 := fl_right h hq hr hpq
  by_cases h0 : r = 0
  · subst h0; rw [sgn_zero] at h1; exact h1
  · have hpos : 0 < p := by
      have : 0 < q * r := Nat.mul_pos hq (Nat.pos_of_ne_zero h0)
      rw [← hpq] at this
      exact Nat.pos_of_mul_pos_right this
    rw [neg_of hd (by rw [hv]; (clear hq hpq hd hv hd' hv' hk h0; omega)), neg_of hd' (by rw [hv']; (clear hpq hd hv hd' hv' hk h0 hpos; omega))] at h1
    exact h1
theorem Fl.frac {n d X : Nat} (hd : 0 < d) (h : n * 2 ^ 1074 = d * X) (hX : Rep X) : Fl (ofFrac false n d) X := by
  have := fl_right (ofFrac_right (neg := false) (n := n) (d := d) (W := d * X) (D := d) hd (by rw [h]) hd) hd hX rfl
  exact this
theorem Fl.int {n : Nat} (h : n < 2 ^ 53) : Fl (ofInt n) ((n * 2 ^ 1074 : Nat) : Int) := by
  have h1 := ofInt_right (n : Int)
  have h2 : decide ((n : Int) < 0) = false := decide_eq_false (by (clear h; omega))
  rw [h2, Int.natAbs_natCast] at h1
  exact fl_right h1 (by decide) (rep_of h (k := 1074) (by decide) rfl) (Nat.one_mul _).symm
theorem Fl.cmp {x y : UInt64} {p q : Int} (hx : Fl x p) (hy : Fl y q) : Float64.cmp x y = some (compare p q) := by
  obtain ⟨a, m, e, hd, hv⟩ := hx
  obtain ⟨b, k, f, hd', hv'⟩ := hy
  rw [cmp_right hd hd', hv, hv']
theorem Fl.fin {x : UInt64} {p : Int} (hx : Fl x p) : isFinite x = true := by
  obtain ⟨a, m, e, hd, _⟩ := hx
  unfold isFinite; rw [hd]
theorem Fl.uniq {x : UInt64} {p q : Int} (hx : Fl x p) (hy : Fl x q) : p = q := by
  obtain ⟨a, m, e, hd, hv⟩ := hx
  obtain ⟨b, k, f, hd', hv'⟩ := hy
  rw [← hv, ← hv']
/-- the quotient of whole numbers and of floats of the same ratio is the same float -/
theorem right_same {r r' : UInt64} {neg : Bool} {W D W' D' : Nat} (h : Right r neg W D) (h' : Right r' neg W' D') (hD : 0 < D) (hD' : 0 < D') (e : W * D' = W' * D) : r = r' := by
  obtain ⟨t, hr, hle, hov, hn⟩ := h
  obtain ⟨t', hr', hle', hov', hn'⟩ := h'
  have key : ∀ z : Nat, D' * dist W (D * z) = D * dist W' (D' * z) := fun z => by
    rw [← dist_mul, ← dist_mul]
    congr 1
    · rw [Nat.mul_comm D' W, e, Nat.mul_comm]
    · rw [Nat.mul_left_comm]
  have hinf : t = infMag ↔ t' = infMag := by
    rw [hov, hov']
    generalize (2 ^ 54 - 1) * 2 ^ 2045 = C
    have e1 : D' * (2 * W) = D * (2 * W') := by
      rw [Nat.mul_left_comm D' 2 W, Nat.mul_comm D' W, e, Nat.mul_left_comm D 2 W', Nat.mul_comm W' D]
    constructor <;> intro h
    · refine Nat.le_of_mul_le_mul_left (c := D) ?_ hD
      have h2 := Nat.mul_le_mul_left D' h
      rw [e1] at h2
      rw [Nat.mul_left_comm]; exact h2
    · refine Nat.le_of_mul_le_mul_left (c := D') ?_ hD'
      have h2 := Nat.mul_le_mul_left D h
      rw [← e1] at h2
      rw [Nat.mul_left_comm]; exact h2
  by_cases hi : t = infMag
  · rw [hr, hr', hi, hinf.mp hi]
  have hlt : t < infMag := Nat.lt_of_le_of_ne hle hi
  have hlt' : t' < infMag := Nat.lt_of_le_of_ne hle' fun z => hi (hinf.mpr z)
  have a1 := (hn hlt t').1
  have a2 := (hn' hlt' t).1
  have a3 : dist W (D * V t) = dist W (D * V t') := by
    refine Nat.le_antisymm a1 (Nat.le_of_mul_le_mul_left (c := D') ?_ hD')
    rw [key, key]
    exact Nat.mul_le_mul_left D a2
  by_cases hv : V t = V t'
  · rw [hr, hr', V_inj hv]
  have b1 := (hn hlt t').2 (Ne.symm hv) a3
  have a4 : dist W' (D' * V t') = dist W' (D' * V t) := by
    refine Nat.eq_of_mul_eq_mul_left hD ?_
    rw [← key, ← key, a3]
  have b2 := (hn' hlt' t).2 hv a4
  exfalso
  -- the two lie on both sides of W, nothing between: neighbours, of other parity
  have mid : ∀ z, V z ≠ V t → V z ≠ V t' → ¬ (V t < V z ∧ V z < V t') ∧ ¬ (V t' < V z ∧ V z < V t) := by
    intro z _ _
    have c := (hn hlt z).1
    rw [a3] at c
    have c' := (hn hlt z).1
    have m1 : V t < V z → D * V t < D * V z := fun q => Nat.mul_lt_mul_of_pos_left q hD
    have m2 : V z < V t' → D * V z < D * V t' := fun q => Nat.mul_lt_mul_of_pos_left q hD
    have m3 : V t' < V z → D * V t' < D * V z := fun q => Nat.mul_lt_mul_of_pos_left q hD
    have m4 : V z < V t → D * V z < D * V t := fun q => Nat.mul_lt_mul_of_pos_left q hD
    unfold dist at c c' a3
    constructor
    · rintro ⟨q1, q2⟩
      have := m1 q1; have := m2 q2; (clear hD hD' e hr hle hov hn hr' hle' hov' hn' hinf hi hlt hlt' a1 a2 a3 hv b1 a4 b2 m1 m2 m3 m4 q1 q2; omega)
    · rintro ⟨q1, q2⟩
      have := m3 q1; have := m4 q2; (clear hD hD' e hr hle hov hn hr' hle' hov' hn' hinf hi hlt hlt' a1 a2 a3 hv b1 a4 b2 m1 m2 m3 m4 q1 q2; omega)
  rcases Nat.lt_trichotomy t t' with hlt2 | heq | hlt2
  · by_cases hs : t + 1 = t'
    · (clear hD hD' e hr hle hov hn hr' hle' hov' hn' hinf hi hlt hlt' a1 a2 a3 hv a4 hlt2; omega)
    · have q1 := V_lt (show t < t + 1 by (clear hD hD' e hr hle hov hn hr' hle' hov' hn' hinf hi hlt hlt' a1 a2 a3 hv b1 a4 b2 hlt2 hs; omega))
      have q2 := V_lt (show t + 1 < t' by (clear hD hD' e hr hle hov hn hr' hle' hov' hn' hinf hi hlt hlt' a1 a2 a3 hv b1 a4 b2 q1; omega))
      exact (mid (t + 1) (by (clear hD hD' e hr hle hov hn hr' hle' hov' hn' hinf hi hlt hlt' a1 a2 a3 hv b1 a4 b2 hlt2 hs q2; omega)) (by (clear hD hD' e hr hle hov hn hr' hle' hov' hn' hinf hi hlt hlt' a1 a2 a3 hv b1 a4 b2 hlt2 hs q1; omega))).1 ⟨q1, q2⟩
  · exact hv (by rw [heq])
  · by_cases hs : t' + 1 = t
    · (clear hD hD' e hr hle hov hn hr' hle' hov' hn' hinf hi hlt hlt' a1 a2 a3 hv a4 hlt2; omega)
    · have q1 := V_lt (show t' < t' + 1 by (clear hD hD' e hr hle hov hn hr' hle' hov' hn' hinf hi hlt hlt' a1 a2 a3 hv b1 a4 b2 hlt2 hs; omega))
      have q2 := V_lt (show t' + 1 < t by (clear hD hD' e hr hle hov hn hr' hle' hov' hn' hinf hi hlt hlt' a1 a2 a3 hv b1 a4 b2 q1; omega))
      exact (mid (t' + 1) (by (clear hD hD' e hr hle hov hn hr' hle' hov' hn' hinf hi hlt hlt' a1 a2 a3 hv b1 a4 b2 hlt2 hs q1; omega)) (by (clear hD hD' e hr hle hov hn hr' hle' hov' hn' hinf hi hlt hlt' a1 a2 a3 hv b1 a4 b2 hlt2 hs q2; omega))).2 ⟨q1, q2⟩
end Mine
namespace Mine
theorem noInf {b : Bool} {n d : Nat} (hn : n < 2 ^ 60) (hd : 0 < d) : ¬ isInf (ofFrac b n d) = true := by
  obtain ⟨t, hr, hle, hov, _⟩ := ofFrac_right (neg := b) (n := n) (d := d) (W := n * 2 ^ 1074) (D := d) hd rfl hd
  have hlt : t < infMag := by
    refine Nat.lt_of_le_of_ne hle fun e => ?_
    have h1 := hov.mp e
    have h2 : (2 ^ 54 - 1) * 2 ^ 2045 ≤ d * ((2 ^ 54 - 1) * 2 ^ 2045) := Nat.le_mul_of_pos_left _ hd
    have h3 : 2 * (n * 2 ^ 1074) ≤ 2 * (2 ^ 60 * 2 ^ 1074) := Nat.mul_le_mul_left _ (Nat.mul_le_mul_right _ (Nat.le_of_lt hn))
    exact absurd (Nat.le_trans h2 (Nat.le_trans h1 h3)) (by decide +kernel)
  rw [hr, isInf_pack hlt]; decide
end Mine
end
section
open PySem PySem.W PyProof.Rows PySem.Calls
set_option maxRecDepth 100000
namespace Mine
noncomputable def gtF (x y : UInt64) : Bool := Float64.cmp x y == some Ordering.gt
noncomputable def ltF (x y : UInt64) : Bool := Float64.cmp x y == some Ordering.lt
noncomputable def max3F (a b c : UInt64) : UInt64 := if gtF b a then (if gtF c b then c else b) else (if gtF c a then c else a)
noncomputable def min3F (a b c : UInt64) : UInt64 := if ltF b a then (if ltF c b then c else b) else (if ltF c a then c else a)
noncomputable def at3 (a b c : UInt64) (i : Nat) : UInt64 := match i with | 0 => a | 1 => b | _ => c
section
variable {prog : Program} {w : World} {A : Around} {E : Value → Shared → Prop} {s : Shared} {a b c : UInt64} {t u x : Tok}
theorem at3_of {i : Nat} {v : Value} (h : (#[Value.float a t, .float b u, .float c x] : Array Value)[i]? = some v) : ∃ k, v = .float (at3 a b c i) k := by
  match i, h with
  | 0, h => exact ⟨t, (Option.some.inj h).symm⟩
  | 1, h => exact ⟨u, (Option.some.inj h).symm⟩
  | 2, h => exact ⟨x, (Option.some.inj h).symm⟩
  | n + 3, h =>
    exfalso
    have h2 : (#[Value.float a t, .float b u, .float c x] : Array Value)[n + 3]? = none := by simp
    rw [h2] at h
    cases h
theorem old_push {h' : Heap} {o : Obj} {i : Obj} (hk : ∀ d ob, d ∉ [(s.heap.push o).objs.size] → ((s.heap.push o).push i).get? d = some ob → h'.get? d = some ob) (d : Addr) (ob : Obj) (e : s.heap.get? d = some ob) : h'.get? d = some ob := by
  refine hk d ob (fun hm => ?_) (Heap.get?_push_of_some _ (Heap.get?_push_of_some _ e))
  have e1 := List.mem_singleton.mp hm
  have := Heap.lt_size e
  rw [e1, Heap.size_push] at this
  exact Nat.lt_irrefl _ (Nat.lt_of_succ_lt this)
theorem max3 {Q : Value → Shared → Prop} (hh : A.handled = none)
    (h : ∀ k h' tk, (∀ d o, s.heap.get? d = some o → h'.get? d = some o) → Q (.float (max3F a b c) k) { s with heap := h', toks := tk }) :
    wpAny (model prog w) A (call (.builtin "max") [.float a t, .float b u, .float c x]) Q E s := by
  have hT : (s.heap.push { cls := .type "tuple", data := .seq #[.float a t, .float b u, .float c x] }).IsTuple s.heap.objs.size #[.float a t, .float b u, .float c x] := ⟨_, Heap.get?_push_size _ rfl, rfl, 0, rfl⟩
  have hsz : (s.heap.push { cls := .type "tuple", data := .seq #[.float a t, .float b u, .float c x] }).objs.size = s.heap.objs.size + 1 := Heap.size_push ..
  refine call_max_three (wpAny_pyIter_tuple hT ?_)
  refine ⟨_, [_, s.heap.objs.size], [_], _, _, _, fun i j => gtF (at3 a b c i) (at3 a b c j), rfl, Walks.tuple (A := A.in1) hh _ s.heap.objs.size (by rw [hsz]; exact Nat.ne_of_lt (Nat.lt_succ_self _)) #[.float a t, .float b u, .float c x],
    ⟨⟨_, Heap.get?_push_size _ rfl, rfl, rfl⟩, hT.push _⟩, fun d hd => ?_, by simp, fun i j vi vj s Q E hi hj hq => ?_, fun v h' tk hP hk => ?_⟩
  · show d < ((s.heap.push _).push _).objs.size
    rw [Heap.size_push, hsz]
    rcases List.mem_cons.mp hd with rfl | hd
    · rw [hsz]; exact Nat.lt_succ_self _
    · rw [List.mem_singleton.mp hd]; exact Nat.lt_succ_of_lt (Nat.lt_succ_self _)
  · obtain ⟨k1, rfl⟩ := at3_of hi
    obtain ⟨k2, rfl⟩ := at3_of hj
    exact AutoFloatOps.gt_0 hq
  · have hP' : (#[Value.float a t, .float b u, .float c x] : Array Value)[argBest (fun i j => gtF (at3 a b c i) (at3 a b c j)) 2]? = some v := hP
    obtain ⟨k, rfl⟩ := at3_of hP'
    have e : at3 a b c (argBest (fun i j => gtF (at3 a b c i) (at3 a b c j)) 2) = max3F a b c := by
      unfold max3F argBest argBest argBest
      simp only [at3]
      cases h1 : gtF b a <;> simp only [if_true, if_false, Bool.false_eq_true]
      · cases h2 : gtF c a <;> simp [at3, h2]
      · cases h2 : gtF c b <;> simp [at3, h2]
    rw [e]
    exact h k h' tk (old_push hk)
theorem min3 {Q : Value → Shared → Prop} (hh : A.handled = none)
    (h : ∀ k h' tk, (∀ d o, s.heap.get? d = some o → h'.get? d = some o) → Q (.float (min3F a b c) k) { s with heap := h', toks := tk }) :
    wpAny (model prog w) A (call (.builtin "min") [.float a t, .float b u, .float c x]) Q E s := by
  have hT : (s.heap.push { cls := .type "tuple", data := .seq #[.float a t, .float b u, .float c x] }).IsTuple s.heap.objs.size #[.float a t, .float b u, .float c x] := ⟨_, Heap.get?_push_size _ rfl, rfl, 0, rfl⟩
  have hsz : (s.heap.push { cls := .type "tuple", data := .seq #[.float a t, .float b u, .float c x] }).objs.size = s.heap.objs.size + 1 := Heap.size_push ..
  refine call_min_three (wpAny_pyIter_tuple hT ?_)
  refine ⟨_, [_, s.heap.objs.size], [_], _, _, _, fun i j => ltF (at3 a b c i) (at3 a b c j), rfl, Walks.tuple (A := A.in1) hh _ s.heap.objs.size (by rw [hsz]; exact Nat.ne_of_lt (Nat.lt_succ_self _)) #[.float a t, .float b u, .float c x],
    ⟨⟨_, Heap.get?_push_size _ rfl, rfl, rfl⟩, hT.push _⟩, fun d hd => ?_, by simp, fun i j vi vj s Q E hi hj hq => ?_, fun v h' tk hP hk => ?_⟩
  · show d < ((s.heap.push _).push _).objs.size
    rw [Heap.size_push, hsz]
    rcases List.mem_cons.mp hd with rfl | hd
    · rw [hsz]; exact Nat.lt_succ_self _
    · rw [List.mem_singleton.mp hd]; exact Nat.lt_succ_of_lt (Nat.lt_succ_self _)
  · obtain ⟨k1, rfl⟩ := at3_of hi
    obtain ⟨k2, rfl⟩ := at3_of hj
    exact AutoFloatOps.lt_0 hq
  · have hP' : (#[Value.float a t, .float b u, .float c x] : Array Value)[argBest (fun i j => ltF (at3 a b c i) (at3 a b c j)) 2]? = some v := hP
    obtain ⟨k, rfl⟩ := at3_of hP'
    have e : at3 a b c (argBest (fun i j => ltF (at3 a b c i) (at3 a b c j)) 2) = min3F a b c := by
      unfold min3F argBest argBest argBest
      simp only [at3]
      cases h1 : ltF b a <;> simp only [if_true, if_false, Bool.false_eq_true]
      · cases h2 : ltF c a <;> simp [at3, h2]
      · cases h2 : ltF c b <;> simp [at3, h2]
    rw [e]
    exact h k h' tk (old_push hk)
theorem max3_N {h₀ : Heap} {L : Addr} {m : Str → Option Value} {news : List (Addr × Obj)} {Q : Value → Shared → Prop} (hh : A.handled = none) (F : Fr h₀ L s.heap m) (N : News h₀ L s.heap news)
    (h : ∀ k h' tk, Fr h₀ L h' m → News h₀ L h' news → Q (.float (max3F a b c) k) { s with heap := h', toks := tk }) :
    wpAny (model prog w) A (call (.builtin "max") [.float a t, .float b u, .float c x]) Q E s :=
  max3 hh fun k h' tk hk => h k h' tk (F.keeps hk) fun p hp => ⟨hk _ _ (N p hp).1, (N p hp).2⟩
theorem min3_N {h₀ : Heap} {L : Addr} {m : Str → Option Value} {news : List (Addr × Obj)} {Q : Value → Shared → Prop} (hh : A.handled = none) (F : Fr h₀ L s.heap m) (N : News h₀ L s.heap news)
    (h : ∀ k h' tk, Fr h₀ L h' m → News h₀ L h' news → Q (.float (min3F a b c) k) { s with heap := h', toks := tk }) :
    wpAny (model prog w) A (call (.builtin "min") [.float a t, .float b u, .float c x]) Q E s :=
  min3 hh fun k h' tk hk => h k h' tk (F.keeps hk) fun p hp => ⟨hk _ _ (N p hp).1, (N p hp).2⟩
end
end Mine
end
section
open PySem PySem.W PyProof.Rows PySem.NumText
set_option maxRecDepth 100000
namespace Mine
theorem dot_is : dot = ⟨#[46]⟩ := by decide +kernel
theorem free_cut : ∀ {x x' A B : List Nat}, 46 ∉ x → 46 ∉ x' → x ++ 46 :: A = x' ++ 46 :: B → x = x' ∧ A = B
  | [], [], _, _, _, _, e => ⟨rfl, by simpa using e⟩
  | [], y :: ys, _, _, _, h', e => by
    rw [List.nil_append, List.cons_append] at e
    exact absurd (by rw [(List.cons.inj e).1]; exact List.mem_cons_self ..) h'
  | y :: ys, [], _, _, h, _, e => by
    rw [List.nil_append, List.cons_append] at e
    exact absurd (by rw [← (List.cons.inj e).1]; exact List.mem_cons_self ..) h
  | y :: ys, z :: zs, _, _, h, h', e => by
    rw [List.cons_append, List.cons_append] at e
    obtain ⟨e1, e2⟩ := List.cons.inj e
    obtain ⟨r1, r2⟩ := free_cut (fun q => h (List.mem_cons_of_mem _ q)) (fun q => h' (List.mem_cons_of_mem _ q)) e2
    exact ⟨by rw [e1, r1], r2⟩
noncomputable def Free (x : Str) : Prop := 46 ∉ x.cps.toList
theorem join_cons (x y : Str) (r : List Str) : (Str.join dot (x :: y :: r)).cps.toList = x.cps.toList ++ 46 :: (Str.join dot (y :: r)).cps.toList := by
  show (x ++ dot ++ Str.join dot (y :: r)).cps.toList = _
  rw [Str.cps_append, Str.cps_append, dot_is]
  simp
theorem str_ext {x y : Str} (h : x.cps.toList = y.cps.toList) : x = y := by
  cases x; cases y
  simp only at h
  congr 1
  exact Array.ext' h
theorem join_inj : ∀ {ps qs : List Str}, ps ≠ [] → qs ≠ [] → (∀ p ∈ ps, Free p) → (∀ p ∈ qs, Free p) → Str.join dot ps = Str.join dot qs → ps = qs
  | [], _, h, _, _, _, _ => absurd rfl h
  | _, [], _, h, _, _, _ => absurd rfl h
  | [x], [y], _, _, _, _, e => by have : x = y := e; rw [this]
  | [x], y :: z :: r, _, _, hp, _, e => by
    exfalso
    have e' := congrArg (fun s : Str => s.cps.toList) e
    simp only [join_cons] at e'
    have : x.cps.toList = y.cps.toList ++ 46 :: (Str.join dot (z :: r)).cps.toList := e'
    exact hp x (List.mem_cons_self ..) (by rw [this]; simp)
  | x :: z :: r, [y], _, _, _, hq, e => by
    exfalso
    have e' := congrArg (fun s : Str => s.cps.toList) e
    simp only [join_cons] at e'
    have : x.cps.toList ++ 46 :: (Str.join dot (z :: r)).cps.toList = y.cps.toList := e'
    exact hq y (List.mem_cons_self ..) (by rw [← this]; simp)
  | x :: z :: r, y :: z' :: r', _, _, hp, hq, e => by
    have e' := congrArg (fun s : Str => s.cps.toList) e
    simp only [join_cons] at e'
    obtain ⟨r1, r2⟩ := free_cut (hp x (List.mem_cons_self ..)) (hq y (List.mem_cons_self ..)) e'
    have := join_inj (ps := z :: r) (qs := z' :: r') (by simp) (by simp) (fun p h => hp p (List.mem_cons_of_mem _ h)) (fun p h => hq p (List.mem_cons_of_mem _ h)) (str_ext r2)
    rw [str_ext r1, this]
/-- a text of pieces without dots is split into them -/
theorem split_join {ps : List Str} (h : ps ≠ []) (hp : ∀ p ∈ ps, Free p) : Txt.split (Str.join dot ps) dot = ps := by
  refine join_inj ?_ h ?_ hp (StrLaws.join_split _ _)
  · unfold Txt.split
    split
    · simp
    · split
      · simp
      · intro e
        have hl := congrArg List.length e
        rw [length_partsBetween] at hl
        simp at hl
  · rw [dot_is]
    exact StrLaws.split_free _ _
theorem strI_digits {n : Int} (h0 : 0 ≤ n) : AllDigits (strI n).cps.toList := by
  obtain ⟨m, rfl⟩ := Int.eq_ofNat_of_zero_le h0
  intro c hc
  rw [KIN.signs_num] at hc
  obtain ⟨ch, hch, e⟩ := List.mem_map.mp hc
  rw [← e]
  exact digit_range (Nat.isDigit_of_mem_toDigits (by decide) (by decide) hch)
theorem strI_free {n : Int} (h0 : 0 ≤ n) : Free (strI n) := fun h => by
  have := strI_digits h0 46 h
  omega
theorem strI_ne {n : Int} (h0 : 0 ≤ n) : (strI n).cps.toList ≠ [] := by
  obtain ⟨m, rfl⟩ := Int.eq_ofNat_of_zero_le h0
  rw [KIN.signs_num]
  intro e
  have h := toDigits_len_ge 10 m
  rw [List.map_eq_nil_iff.mp e] at h
  exact absurd h (by decide)
/-- the pieces of a release -/
noncomputable def pieces (wh re : Int) : List Str := if re = 0 then [strI wh] else if re.fmod 4 = 0 then [strI wh, strI (re.fdiv 4)] else [strI wh, strI (re.fdiv 4), strI (re.fmod 4)]
theorem ring_join (wh re : Int) : ringT wh re = Str.join dot (pieces wh re) := by
  unfold ringT pieces
  split
  · rfl
  · split
    · rfl
    · show strI wh ++ dot ++ strI (re.fdiv 4) ++ dot ++ strI (re.fmod 4) = strI wh ++ dot ++ (strI (re.fdiv 4) ++ dot ++ strI (re.fmod 4))
      simp only [Str.append_assoc]
theorem pieces_ne (wh re : Int) : pieces wh re ≠ [] := by
  unfold pieces
  split
  · simp
  · split <;> simp
theorem pieces_free {wh re : Int} (h0 : 0 ≤ wh) (h1 : 0 ≤ re) : ∀ p ∈ pieces wh re, Free p := by
  have e1 : 0 ≤ re.fdiv 4 := Int.fdiv_nonneg h1 (by decide)
  have e2 : 0 ≤ re.fmod 4 := Int.fmod_nonneg_of_pos _ (by decide)
  have f1 := strI_free h0
  have f2 := strI_free e1
  have f3 := strI_free e2
  unfold pieces
  intro p hp
  split at hp
  · rw [List.mem_singleton.mp hp]; exact f1
  · split at hp
    · rcases List.mem_cons.mp hp with rfl | hp
      · exact f1
      · rw [List.mem_singleton.mp hp]; exact f2
    · rcases List.mem_cons.mp hp with rfl | hp
      · exact f1
      · rcases List.mem_cons.mp hp with rfl | hp
        · exact f2
        · rw [List.mem_singleton.mp hp]; exact f3
end Mine
end
section
open PySem PySem.W PyProof.Rows PySem.Calls
open PySem.Sem (wp)
set_option maxRecDepth 100000
set_option maxHeartbeats 4000000
namespace Mine
section
variable {α : Type} {M : Model} {A : Around} {E : Value → Shared → Prop} {s : Shared}
theorem wpC.iteF {c : Prop} [Decidable c] {a b : Sem α} {Q : α → Shared → Prop} (hc : ¬ c) (h : wpC M A b Q E s) : wpC M A (if c then a else b) Q E s := by rw [if_neg hc]; exact h
theorem wpC.iteT {c : Prop} [Decidable c] {a b : Sem α} {Q : α → Shared → Prop} (hc : c) (h : wpC M A a Q E s) : wpC M A (if c then a else b) Q E s := by rw [if_pos hc]; exact h
end
section
variable {prog : Program} {w : World} {A : Around} {E : Value → Shared → Prop} {s : Shared} {R : Result → Shared → Prop}
theorem codeC.builtin {id : String} {args : Args} {b : Builtin} (hb : entryFor table id = some b)
    (h : wpC (model prog w) (A.under (.builtin id args)) (b args)
      (fun fin s' => match fin with | .done f => R (.ok f) s' | .again c' => c'.quiet = true ∧ codeC (model prog w) A c' R s') (fun e s' => R (.error e) s') s) : codeC (model prog w) A (.builtin id args) R s := by
  refine codeC.tree ?_
  show wpC _ _ (match entryFor table id with | some b => b args | none => unsupported ((withoutEnding? id "#data").getD id)) _ _ s
  rw [hb]; exact h
theorem codeC.callBuiltin {id : String} {args : Args} (hq : plainId id = true) (hcn : checkBuiltinCall id args = pure ())
    (h : codeC (model prog w) A (.builtin id args) R s) : codeC (model prog w) A (.call (.builtin id) args) R s := by
  refine codeC.tree ?_
  show wpC _ _ (do checkBuiltinCall id args; again (.builtin id args)) _ _ s
  rw [hcn]
  exact wpC.pure ⟨plainId_quiet hq args, h⟩
theorem codeC.callType {T : String} {args : List Value} (h : codeC (model prog w) A (.builtin "type.__call__" ⟨.type T :: args, []⟩) R s) : codeC (model prog w) A (.call (.type T) ⟨args, []⟩) R s := by
  refine codeC.tree ?_
  show wpC _ _ (callAny (.type T) _) _ _ s
  exact wpC.pure ⟨Code.quiet_builtin _ (by decide +kernel), h⟩
theorem int_type_call {v : Value} {Q : Value → Shared → Prop}
    (h : wpC (model prog w) A.in1 (call (.builtin "int.__new__") [.type "int", v]) (fun _ _ => False) E s) : wpC (model prog w) A (call (.type "int") [v]) Q E s := by
  refine wpC.call (codeC.callType (codeC.builtin F.entry_type_call ?_))
  rw [Around.under_plain (weight_type_call_type "int" [v] []) (units_type_call_type "int" [v] [])]
  unfold Builtin.«type.__call__»
  dsimp only
  refine wpC.iteF (by decide) (wpC.iteF (by rw [F.called_int.canCreate]; decide) ?_)
  rw [F.typeCall_int_1 v]
  refine wpC.bind (wpC.pure ?_)
  rw [F.mro_int]
  refine wpC.bind (wpC.pure (wpC.iteF (by decide) ?_))
  rw [F.called_int.made]
  refine wpC.bind (wpC.pure ?_)
  dsimp only
  refine wpC.bind (wpC.pure (wpC.bind (wpC.holding (h.mono (fun _ _ x => x.elim) fun _ _ x => x))))
/-- the text of int.__new__ at a text -/
theorem int_new_text {x : Str} {t : Tok}
    (h : wpC (model prog w) A.in1 ((int_private% "intFromText") (.str x t) (numTextOf x) 10) (fun _ _ => False) E s) : wpC (model prog w) A (call (.builtin "int.__new__") [.type "int", .str x t]) (fun _ _ => False) E s := by
  have f3 := KIN.str_int
  have f4 := KIN.str_idx
  have f5 := KIN.str_trunc
  refine wpC.call (codeC.callBuiltin (by decide +kernel) (F.newCall_int_1 _) (codeC.builtin F.entry_int_new ?_))
  rw [Around.under_plainId (by decide +kernel)]
  unfold Builtin.«int.__new__»
  dsimp only
  refine wpC.andThen (wpAny_of_eq (a := true) rfl (wpC.iteF (by decide) ?_))
  rw [F.conv_sub_int]
  refine wpC.bind (wpC.pure (wpC.iteF (by decide) ?_))
  rw [F.madeHere_int]
  refine wpC.bind (wpC.pure (wpC.iteF (by simp) (wpC.iteF (by simp) ?_)))
  refine wpC.bind (wpC.pure ?_)
  refine wpC.bind ?_
  refine wpC.mono (Q := fun _ _ => False) (E := E) ?_ (fun _ _ x => x.elim) (fun _ _ x => x)
  refine wpC.andThen ?_
  have f6 : typeOf (.str x t) = pure (.type "str") := rfl
  repeat (first | with_reducible assumption | wp_step)
  refine wpC.andThen ?_
  repeat (first | with_reducible assumption | wp_step)
  refine wpC.iteF (by decide) (wpC.andThen ?_)
  repeat (first | with_reducible assumption | wp_step)
  dsimp only
  refine wpC.andThen ?_
  repeat (first | with_reducible assumption | wp_step)

/-- under the claim's caller no refusal is marked -/
theorem mark_C {M : Model} {own : List String} {e : Value} {Q : Unit → Shared → Prop} (h : Q () s) : wpC M A (markTheRefusal own e) Q E s := fun Γ p _ hC => by
  have e0 : pythonCodeMadeTheCall own (((Γ.code, p) :: Γ.below).map (·.1)) = false := by
    have e1 : ((((Γ.code, p) :: Γ.below).map (·.1)).any Code.isCaller) = true := by
      rw [List.any_map, List.any_cons]
      rcases hC with hC | hC
      · exact Bool.or_eq_true_iff.mpr (.inl hC)
      · exact Bool.or_eq_true_iff.mpr (.inr hC)
    show ((!((((Γ.code, p) :: Γ.below).map (·.1)).any Code.isCaller) && _) && _) = false
    rw [e1]; rfl
  unfold markTheRefusal
  rw [Sem.wp_bind']
  unfold stack
  rw [Sem.wp_stack]
  show wp M Γ (if pythonCodeMadeTheCall own (((Γ.code, p) :: Γ.below).map (·.1)) = true then _ else _) _ _ p s
  rw [if_neg (by rw [e0]; decide)]
  exact h
theorem refuse_C {x : Str} {t : Tok} (hl : x.length ≤ 600) (hc : ∀ c ∈ x.cps.toList, c < 128) (hh : A.handled = none)
    (h : ∀ h' e tk, Heap.NewExc s.heap h' e "ValueError" → E (.ref e) { s with heap := h', toks := tk }) (hd : Str) (hd1 : hd.length ≤ 200) :
    wpC (model prog w) A (do
      let shown ← pyRepr (.str x t)
      let __do_lift ← mkStr (hd ++ { cps := shown.cps.extract 0 200 })
      let refusal ← newExc (.type "ValueError") [__do_lift]
      markTheRefusal ["int.__new__"] refusal
      (raiseNew refusal : Sem Value)) (fun _ _ => False) E s := by
  have hz : (reprText x).length ≤ sizeLine := by
    have := StrLaws.reprText_len x fun c hx => Nat.lt_trans (hc c hx) (by decide)
    rw [sizeLine_eq]; omega
  refine wpC.andThen (wpAny_pyRepr_str ?_ hz)
  refine wpC.andThen (wpAny_mkStr ?_ ?_)
  · refine wpC.andThen (wpAny_newExc_plain plainExc_ValueError (fun h' e hx => ?_) (by show 1 ≤ sizeLine; rw [sizeLine_eq]; omega))
    exact wpC.bind (mark_C (wpC.of (wpAny_raiseNew_none hh (h h' e _ hx.newExc))))
  · rw [Str.length_append]
    have : ({ cps := (reprText x).cps.extract 0 200 } : Str).length ≤ 200 := by
      show ((reprText x).cps.extract 0 200).size ≤ 200
      rw [Array.size_extract]; omega
    rw [sizeLine_eq]; omega
theorem int_text_raises {x : Str} {t : Tok} (hn : PySem.intText? x = none) (hl : x.length ≤ 600) (hc : ∀ c ∈ x.cps.toList, c < 128) (hh : A.handled = none)
    (h : ∀ h' e tk, Heap.NewExc s.heap h' e "ValueError" → E (.ref e) { s with heap := h', toks := tk }) : wpC (model prog w) A ((int_private% "intFromText") (.str x t) (numTextOf x) 10) (fun _ _ => False) E s := by
  have hs : (numSeenOf x).length ≤ 640 := Nat.le_trans (seen_length x) (by omega)
  have f6 : typeOf (.str x t) = pure (.type "str") := rfl
  have fin := refuse_C (prog := prog) (w := w) (A := A) (E := E) (s := s) (t := t) hl hc hh h (Str.ofString (toString "invalid literal for int() with base " ++ toString 10 ++ toString ": ")) (by decide +kernel)
  rcases read0 x hs with ⟨n, h1, _⟩ | ⟨_, hr | ⟨i, hr, hne⟩⟩
  · rw [hn] at h1; cases h1
  · refine wpC.iteT hs (wpC.bind (wpC.pure ?_))
    dsimp only
    rw [hr]
    dsimp only
    refine wpC.andThen (wpAny_of_eq (a := none) rfl (wpC.iteF (by simp) ?_))
    refine wpC.andThen (wpAny_rule (wpC.andThen (wpAny_of_eq (a := none) rfl ?_)))
    exact fin
  · refine wpC.iteT hs (wpC.bind (wpC.pure ?_))
    dsimp only
    rw [hr]
    dsimp only
    refine wpC.iteF hne ?_
    refine wpC.andThen (wpAny_rule (wpC.andThen (wpAny_of_eq (a := none) rfl ?_)))
    exact fin
/-- int(text) of a text that is no number raises a ValueError -/
theorem int_raises_C {x : Str} {t : Tok} {Q : Value → Shared → Prop} (hn : PySem.intText? x = none) (hl : x.length ≤ 600) (hc : ∀ c ∈ x.cps.toList, c < 128) (hh : A.handled = none)
    (h : ∀ h' e tk, Heap.NewExc s.heap h' e "ValueError" → E (.ref e) { s with heap := h', toks := tk }) : wpC (model prog w) A (call (.type "int") [.str x t]) Q E s :=
  int_type_call (int_new_text (int_text_raises hn hl hc hh h))
end
end Mine
end
section
open PySem PySem.W PyProof.Rows PySem.Calls
open PySem.Sem (wp)
set_option maxRecDepth 100000
set_option maxHeartbeats 4000000
namespace Mine
section
variable {M : Model} {A : Around} {E : Value → Shared → Prop} {s : Shared} {env : Env}
theorem wpC.execs {st : Stmt} {rest : List Stmt} {Q : Flow → Shared → Prop}
    (h : wpC M A (exec st env) (fun f s' => match f with | .next => wpC M A (execs rest env) Q E s' | f => Q f s') E s) : wpC M A (execs (st :: rest) env) Q E s := by
  rw [execs_cons]
  refine (h.mono (fun f s' h' => ?_) fun _ _ x => x).bind
  cases f <;> first | exact h' | exact wpC.pure h'
theorem wpC.exec_If {test : Expr} {body orelse : List Stmt} {pos : Pos} {Q : Flow → Shared → Prop}
    (h : wpC M A (isTrue test env (eval test env)) (fun b s₂ => if b then wpC M A (PySem.execs body env) Q E s₂ else wpC M A (PySem.execs orelse env) Q E s₂) E s) : wpC M A (exec (.If test body orelse pos) env) Q E s := by
  rw [arm_exec_If]
  refine wpC.andThen (wpAny_standAt (h.mono (fun b s₂ h₂ => ?_) fun _ _ x => x).bind)
  cases b <;> exact h₂
/-- a comparison whose left side is reckoned under the caller, the rest anyhow -/
theorem wpC.isTrue_Compare1 {l r : Expr} {op : CmpOp} {pos : Pos} {whole : Sem Value} {Q : Bool → Shared → Prop}
    (h : wpC M A (eval l env) (fun a s₁ => wpAny M A (eval r env) (fun b s₂ => wpAny M A (compareOp op a b) (fun c s₃ => wpAny M A (truthy c) Q E s₃) E s₂) E s₁) E s)
    (hm : behindInMarks op r = false) : wpC M A (isTrue (.Compare l [op] [r] pos) env whole) Q E s := fun Γ p hΓ hC => by
  simp only [PySem.isTrue_Compare1, markedBehindIn_of_false hm, Sem.wp_bind', Sem.wp_holding, Sem.wp_cmd_standAt, Sem.wp_operate]
  exact Sem.wp_mono M Γ _ (fun a p₁ s₁ h₁ => Sem.wp_mono M Γ _ (fun b _ s₂ h₂ => Sem.wp_mono M Γ _ (fun c p₃ s₃ h₃ => h₃ Γ p₃ hΓ)
    (fun _ _ _ h' => h') _ _ (h₂ Γ _ hΓ)) (fun _ _ _ h' => h') _ _ (h₁ Γ p₁ hΓ)) (fun _ _ _ h' => h') _ _ (h Γ p hΓ hC)
theorem wpC.eval_Call {func : Expr} {args : List Expr} {pos : Pos} {Q : Value → Shared → Prop}
    (h : wpAny M A (eval func env) (fun f s₁ => wpC M A (callWith pos f [] (backTo pos (starEach args env)) []) Q E s₁) E s)
    (he : eval (.Call func args [] pos) env = (do callWith pos (← eval func env) [] (backTo pos (starEach args env)) (backToKw pos (keywordEach [] env)))) : wpC M A (eval (.Call func args [] pos) env) Q E s := by
  rw [he]
  exact wpC.andThen h
theorem wpC.callWith_K {K : Frag} {f : Value} {pos : Pos} {e : Expr} {rest : List Expr} {Q : Value → Shared → Prop} (hk : keepIn K f = true)
    (h : wpAny M A (spliced (backTo pos (starEach (e :: rest) env))) (fun vs s₁ => K.In s₁.heap ∧ wpC M A (PySem.call f vs) Q E s₁) E s)
    (he : starEach (e :: rest) env = (false, eval e env) :: starEach rest env) (hplain : (backTo pos (starEach rest env)).any (·.1) = false) : wpC M A (PySem.callWith pos f [] (backTo pos (starEach (e :: rest) env)) []) Q E s := by
  rw [he] at h ⊢
  unfold PySem.callWith
  refine wpC.andThen (wpAny_holding (evalArgs_plain (wpAny_mono h (fun vs s₁ h₁ => ?_) fun _ _ x => x)))
  refine wpC.andThen (wpAny_standAt ?_)
  obtain ⟨k, hk', L⟩ := keeps_K (M := M) hk _ h₁.1
  have hp : ((backTo pos ((false, eval e env) :: starEach rest env)).any (·.1) || ([] : List (Option Str × Sem Value)).any (·.1.isNone)) = false := by
    show ((false || (backTo pos (starEach rest env)).any (·.1)) || false) = false
    rw [hplain]; rfl
  simp only [hp]
  refine wpC.andThen (L.here ?_)
  have tail : ∀ {t : Sem Value}, wpC M A t Q E s₁ → wpC M A (t >>= fun r => PySem.holding [r] point >>= fun _ => Pure.pure r) Q E s₁ :=
    fun ht => wpC.bind (ht.mono (fun r s₂ hr => by
      refine wpC.andThen (wpAny_holding (wpAny_point ?_))
      exact wpC.pure hr) fun _ _ x => x)
  have marked (mk : Value) : wpC M A (callMarked mk f ([] ++ vs) []) Q E s₁ := fun Γ p hΓ hC => by
    unfold callMarked; rw [Sem.wp_keep]; exact h₁.2 Γ p hΓ hC
  rcases hk' with rfl | rfl | rfl <;> dsimp only <;> first | exact tail h₁.2 | (split <;> first | exact tail h₁.2 | exact tail (marked _))
theorem wpC.callWith_type {T : String} {pos : Pos} {e : Expr} {rest : List Expr} {Q : Value → Shared → Prop}
    (h : wpAny M A (spliced (backTo pos (starEach (e :: rest) env))) (fun vs s₁ => wpC M A (PySem.call (.type T) vs) Q E s₁) E s)
    (he : starEach (e :: rest) env = (false, eval e env) :: starEach rest env) (hplain : (backTo pos (starEach rest env)).any (·.1) = false) : wpC M A (PySem.callWith pos (.type T) [] (backTo pos (starEach (e :: rest) env)) []) Q E s := by
  rw [he] at h ⊢
  unfold PySem.callWith
  refine wpC.andThen (wpAny_holding (evalArgs_plain (wpAny_mono h (fun vs s₁ h₁ => ?_) fun _ _ x => x)))
  refine wpC.andThen (wpAny_standAt ?_)
  have hp : ((backTo pos ((false, eval e env) :: starEach rest env)).any (·.1) || ([] : List (Option Str × Sem Value)).any (·.1.isNone)) = false := by
    show ((false || (backTo pos (starEach rest env)).any (·.1)) || false) = false
    rw [hplain]; rfl
  simp only [hp]
  refine wpC.bind (wpC.pure ?_)
  dsimp only
  refine wpC.bind (h₁.mono (fun r s₂ hr => ?_) fun _ _ x => x)
  refine wpC.andThen (wpAny_holding (wpAny_point ?_))
  exact wpC.pure hr
/-- an assignment whose value raises -/
theorem wpC.assign_raises {x : Str} {p' pos : Pos} {value : Expr} {Q : Flow → Shared → Prop} (h : wpC M A (eval value env) (fun _ _ => False) E s)
    (hs : swapsWith value (some (.Name x p')) pos.line env = Pure.pure false) : wpC M A (exec (.Assign [.Name x p'] value pos) env) Q E s := by
  rw [arm_exec_Assign]
  refine wpC.andThen (wpAny_standAt (wpC.andThen (wpAny_of_eq (a := false) hs ?_)))
  exact (h.mono (fun _ _ x => x.elim) fun _ _ x => x).bind
theorem wpC.tryExcept {body orelse : List Stmt} {h₀ : ExceptHandler} {hs : List ExceptHandler} {pos : Pos} {Q : Flow → Shared → Prop}
    (h : wpC M A (PySem.execs body env) (fun _ _ => False)
      (fun e s₁ => wpAny M A (noteFrame e env) (fun _ s₂ => wpAny M A (setFlight e none) (fun _ s₃ => wpAny M A (handleBy e env (h₀ :: hs)) Q E s₃) E s₂) E s₁) s) :
    wpC M A (exec (.Try body (h₀ :: hs) orelse [] pos) env) Q E s := by
  rw [arm_exec_Try]
  refine wpC.andThen (wpAny_standAt ?_)
  unfold tryStmt
  simp only [List.isEmpty_nil, if_true, List.isEmpty_cons, Bool.false_and, Bool.false_eq_true, if_false]
  refine wpC.bind (wpC.attempt (h.mono (fun _ _ x => x.elim) fun e s₁ h₁ => ?_))
  exact wpC.of (wpAny_bind (wpAny_mono h₁ (fun _ _ h₂ => wpAny_bind h₂) fun _ _ x => x))
end
end Mine
end
section
open PySem PySem.W PyProof.Rows PySem.Calls
open PySem.Sem (wp)
set_option maxRecDepth 100000
set_option maxHeartbeats 4000000
namespace Mine
section
variable {prog : Program} {w : World} {A A₀ : Around} {E : Value → Shared → Prop} {s : Shared} {R : Result → Shared → Prop} {env : Env}
theorem codeC.func {body : List Stmt} (h : wpC (model prog w) (A.deeper env) (execs body env) (fun f s' => R (.ok (.ret (match f with | .ret v => v | _ => .none))) s') (fun _ _ => False) s) :
    codeC (model prog w) A (.func body env) R s := by
  refine codeC.tree ?_
  show wpC _ (A.deeper env) (do point; match ← (execs body env).onRaise (leaving env) with | .ret v => ret v | _ => ret .none) _ _ s
  refine wpC.andThen (wpAny_point (wpC.bind (wpC.onRaise (h.mono (fun f s' h' => ?_) fun _ _ x => x))))
  cases f <;> exact wpC.pure h'
theorem codeC.callFn {a : Addr} {args : Args} {o : Obj} {fd : FuncData} {body : List Stmt} (hroom : A.depth < recursionLimit) (ho : s.heap.get? a = some o)
    (hd' : o.data = .func fd) (hco : fd.scope.isCoroutine = false) (hgen : fd.scope.isGenerator = false) (hbody : fd.body = .stmts body) (hcd : s.heap.CodeRec fd.code fd.qualname)
    (h : wpAny (model prog w) A.in1 (bindArgs fd args) (fun binds s₁ =>
      wpAny (model prog w) A.in1 (newFunctionEnv fd.scope fd.globals fd.closure binds (fd.qualname ++ ".<locals>.") (some a) fd.code none fd.builtins)
        (fun env s₂ => s₂.heap.NoLimit ∧ codeC (model prog w) A (.func body env) R s₂) (fun e s' => R (.error e) s') s₁) (fun e s' => R (.error e) s') s) :
    codeC (model prog w) A (.call (.ref a) args) R s := by
  refine codeC.tree ?_
  show wpC _ A.in1 (callAny (.ref a) args) _ _ s
  simp only [callAny]
  refine wpC.andThen (wpAny_load ho ?_)
  obtain ⟨c, oc, vs, tq, hc, hoc, hdc, hq⟩ := hcd
  simp only [hd', callFunction, hco, hgen, hbody, hc]
  rw [hc] at h
  refine wpC.andThen (m := field (.ref c) 1) (wpAny_field hoc hdc hq (wpC.andThen (wpAny_pure ?_)))
  refine wpC.andThen (wpAny_mono h (fun binds s₁ h₁ => ?_) fun _ _ x => x)
  refine wpC.andThen (wpAny_mono h₁ (fun env s₂ h₂ => ?_) fun _ _ x => x)
  exact wpC.andThen (wpAny_enterFrame h₂.1 hroom (wpC.pure (And.intro rfl h₂.2)))
/-- a plain def is entered under the caller: all that stood is its ground, its ledger is empty -/
theorem enter_C {K : Frag} {L : Addr} {h₀ base : Heap} {m mg mb : Str → Option Value} {p : Program} {loose : List Str} {mean : ExcName → Option Value} {outer : List Env}
    {name qual : Str} {params : Arguments} {body : List Stmt} {scope : Scope} {dV kV doc pm cdv ct oc : Value} {an od : Option Addr} {osl : Array (Option Value)} {f : Addr} {args : Args} {binds : List (Str × Value)}
    (B : Below A₀ base outer h₀) (F : Fr h₀ L s.heap m) (X₀ : K.In h₀) (T : Top p loose mean mg mb h₀) (hA : A.frames = some (env :: outer)) (hf : env.frame = some L) (hke : env.scope.kind = .function)
    (ho : K.lookup f = some ⟨oc, od, .func (fnOf name qual params body scope dV kV doc pm an cdv ct), osl⟩) (hcd : codeIn K cdv qual = true) (hroom : A.depth < recursionLimit)
    (hbind : BindsTo s (fnOf name qual params body scope dV kV doc pm an cdv ct) args binds) (hloc : ∀ y ∈ binds, scope.names.lookup y.1 = some .local)
    (h : ∀ L' h₁, Fr s.heap L' h₁ (fun y => binds.reverse.lookup y) → News s.heap L' h₁ [] → Below A base (env :: outer) s.heap → K.In s.heap → Top p loose mean mg mb s.heap →
      wpC (model prog w) (A.deeper (envOf qual scope L' f cdv)) (execs body (envOf qual scope L' f cdv))
        (fun fl s' => LeaveK h₀ L m s.heap R (match fl with | .ret v => v | _ => .none) s') (fun _ _ => False) { s with heap := h₁, toks := s.toks + binds.length })
    (hco : scope.isCoroutine = false) (hgen : scope.isGenerator = false) (hk : scope.kind = .function)
    (hcell : ∀ x ∈ scope.names, x.2 ≠ .cell) : codeC (model prog w) A (.call (.ref f) args) R s := by
  obtain ⟨FG, BG, st, lv⟩ := groundX (R := R) B F (News.nil) hA hf hke
  have hX : K.In s.heap := X₀.keeps st
  refine codeC.callFn (fd := fnOf name qual params body scope dV kV doc pm an cdv ct) (body := body) hroom (hX _ _ ho) rfl hco hgen rfl (codeRec_of hX hcd) (hbind _ _ _ _ ?_)
  refine wpAny_newFunctionEnv hcell hloc (fun h₁ hns hsb => ⟨(T.nolimit.keeps F.keep).fresh _ hsb, codeC.func ?_⟩) hk
  exact wpC.mono (h s.heap.objs.size h₁ ⟨hns, fun b o e => hsb.extBut b o (Nat.ne_of_lt (Heap.lt_size e)) (Heap.get?_push_of_some _ e), Nat.le_refl _⟩ News.nil BG hX (T.keeps st)) (fun fl s' hl => lv _ _ hl) fun _ _ y => y
/-- a def with cells is entered from the claim's caller -/
theorem enterCells_C {name : Str} {params : Arguments} {body : List Stmt} {scope : Scope} {pm cd doc dV kV : Value} {a : Addr} {o : Obj} {args : List Value} {binds : List (Str × Value)}
    (hroom : A.depth < recursionLimit) (ho : s.heap.get? a = some o) (hdata : o.data = .func { Calls.docDef name params body scope pm cd doc with defaults := dV, kwdefaults := kV }) (hlim : s.heap.NoLimit) (hcd : s.heap.CodeRec cd name)
    (hbind : bindArgs { Calls.docDef name params body scope pm cd doc with defaults := dV, kwdefaults := kV } ⟨args, []⟩ = pure binds)
    (hkind : ∀ x ∈ binds, scope.names.lookup x.1 = some .local ∨ (scope.names.lookup x.1 = some .cell ∧ ((cellsFrom (s.heap.objs.size + 1) scope.names []).lookup x.1).isSome = true))
    (hnd : ((cellsFrom 0 scope.names []).map (·.1)).Nodup)
    (h : ∀ h₁ tk cells, Fr s.heap s.heap.objs.size h₁ (bindL (envOfC name scope s.heap.objs.size a cd).kindOf binds fun _ => none) → News s.heap s.heap.objs.size h₁ cells →
      CellsAre (bindC (envOfC name scope s.heap.objs.size a cd).kindOf binds fun _ => none) (cellsFrom (s.heap.objs.size + 1) scope.names []) cells →
      wpC (model prog w) (A.deeper (envOfC name scope s.heap.objs.size a cd)) (execs body (envOfC name scope s.heap.objs.size a cd))
        (fun f s' => R (.ok (.ret (match f with | .ret v => v | _ => .none))) s') (fun _ _ => False) { s with heap := h₁, toks := tk })
    (hco : scope.isCoroutine = false) (hgen : scope.isGenerator = false) (hk : scope.kind = .function) :
    codeC (model prog w) A (.call (.ref a) ⟨args, []⟩) R s := by
  refine codeC.callFn hroom ho hdata hco hgen rfl hcd ?_
  rw [hbind]
  refine wpAny_pure (wpAny_newFunctionEnv_cells hk hkind fun env' he s' x => ?_)
  subst he
  obtain ⟨h₁, tk, e, hkp⟩ := x.done
  subst e
  refine ⟨hlim.keeps x.toInCall.keep, codeC.func ?_⟩
  obtain ⟨cells, N, Y⟩ := Cl.news (h₀ := s.heap) (Nat.le_refl _) fun n c hm => ⟨x.cell n c (lookup_of_mem_nodup (cellsFrom_names scope.names 0 (s.heap.objs.size + 1) [] [] rfl ▸ hnd) hm), x.above n c hm⟩
  exact h h₁ tk cells ⟨x.toInCall.ns, hkp, Nat.le_refl _⟩ N Y
/-- a for's own activation; nothing raises -/
theorem codeC.forLoop {target : Expr} {it : Value} {body : List Stmt} (I : Nat → Shared → Prop)
    (turn : ∀ n s, I n s → wpAny (model prog w) A (pyNext it) (fun r s₁ => match r with
      | none => R (.ok .next) s₁
      | some v => wpAny (model prog w) A (letOwnedTupleGo target it v) (fun _ s₁' =>
          wpAny (model prog w) A (assign target env v) (fun _ s₂ => wpC (model prog w) A (execs body env) (fun f s₃ => match f with
            | .next | .cont => ∃ m, m < n ∧ I m s₃
            | .brk => R (.ok .next) s₃
            | .ret v => R (.ok (.ret v)) s₃) (fun _ _ => False) s₂) (fun _ _ => False) s₁') (fun _ _ => False) s₁) (fun _ _ => False) s)
    (n : Nat) (h : I n s) : codeC (model prog w) A (.forLoop target it body [] env) R s := by
  refine codeC.loop rfl I (fun n s hI => ?_) n h
  show wpC _ A ((forTurn target it body [] env).onRaise (fun x => do noteFrame x env; theTreesLotGoes x)) _ _ s
  refine wpC.onRaise ?_
  simp only [forTurn]
  refine wpC.andThen (wpAny_standAt ?_)
  refine wpC.andThen (wpAny_onRaise (wpAny_mono (turn n s hI) (fun r s₁ h₁ => ?_) fun _ _ x => x.elim))
  cases r with
  | none => exact wpC.pure (.inr ⟨rfl, codeC.of (codeAny_block (wpAny_execs_nil h₁))⟩)
  | some v =>
    refine wpC.andThen (wpAny_mono h₁ (fun _ s₁' h₁' => ?_) fun _ _ x => x)
    refine wpC.andThen (wpAny_mono h₁' (fun _ s₂ h₂ => ?_) fun _ _ x => x)
    refine wpC.bind (h₂.mono (fun f s₃ h₃ => ?_) fun _ _ x => x)
    cases f with
    | next => exact wpC.pure (.inl ⟨rfl, h₃⟩)
    | cont => exact wpC.pure (.inl ⟨rfl, h₃⟩)
    | brk => exact wpC.pure h₃
    | ret v => exact wpC.pure h₃
theorem wpC.forStmt {target iter : Expr} {body : List Stmt} {pos : Pos} {Q : Flow → Shared → Prop}
    (h : wpAny (model prog w) A (eval iter env) (fun x s₁ => wpAny (model prog w) A (pyIter x) (fun it s₂ =>
      codeC (model prog w) A (.forLoop target it body [] env) (fun r s' => match r with | .ok f => Q f s' | .error _ => False) s₂) E s₁) E s)
    (hs : ∀ x, foldedSetIterable iter env x = Pure.pure x) : wpC (model prog w) A (exec (.For target iter body [] pos) env) Q E s := by
  rw [arm_exec_For]
  refine wpC.andThen (wpAny_standAt (wpC.andThen (wpAny_mono h (fun x s₁ h₁ => ?_) fun _ _ x => x)))
  refine wpC.andThen (wpAny_of_eq (hs x) (wpC.andThen (wpAny_standAt (wpC.andThen (wpAny_holding (wpAny_mono h₁ (fun it s₂ h₂ => ?_) fun _ _ x => x))))))
  unfold runOwn
  refine wpC.onRaise (wpC.run (h₂.mono (fun r s' hr => ?_)) (by intro x; cases x))
  cases r with
  | ok f => exact hr
  | error e => exact hr
end
end Mine
end
section
open PySem PySem.W PyProof.Rows PySem.Calls
open PySem.Sem (wp)
set_option maxRecDepth 100000
set_option maxHeartbeats 4000000
namespace Mine
/-- a def with a try of its own is entered under the caller from one frame: the caller's frame lies in the ledger -/
theorem enterT_C {prog : Program} {w : World} {A : Around} {s : Shared} {R : Result → Shared → Prop} {env : Env} {K : Frag} {L : Addr} {h₀ : Heap} {m mg mb : Str → Option Value} {p : Program} {loose : List Str} {mean : ExcName → Option Value} {news : List (Addr × Obj)}
    {name qual : Str} {params : Arguments} {body : List Stmt} {scope : Scope} {dV kV doc pm cdv ct oc : Value} {an od : Option Addr} {osl : Array (Option Value)} {f : Addr} {args : Args} {binds : List (Str × Value)}
    (F : Fr h₀ L s.heap m) (X₀ : K.In h₀) (N : News h₀ L s.heap news) (T : Top p loose mean mg mb h₀) (_hA : A.frames = some [env]) (hf : env.frame = some L) (hke : env.scope.kind = .function)
    (ho : K.lookup f = some ⟨oc, od, .func (fnOf name qual params body scope dV kV doc pm an cdv ct), osl⟩) (hcd : codeIn K cdv qual = true) (hroom : A.depth < recursionLimit)
    (hbind : BindsTo s (fnOf name qual params body scope dV kV doc pm an cdv ct) args binds) (hloc : ∀ y ∈ binds, scope.names.lookup y.1 = some .local)
    (h : ∀ L' oL h₁, TI.Caller h₀ L m oL → TI.Frs [env] [(L, oL)] → TLg.AllNe L news → Fr h₀ L' h₁ (fun y => binds.reverse.lookup y) → News h₀ L' h₁ (news ++ [(L, oL)]) → (∀ p ∈ news, p.1 < L') → L < L' →
      wpC (model prog w) (A.deeper (envOf qual scope L' f cdv)) (execs body (envOf qual scope L' f cdv))
        (fun fl s' => TI.LeaveI s' (R (.ok (.ret (match fl with | .ret v => v | _ => .none))) s')) (fun _ _ => False) { s with heap := h₁, toks := s.toks + binds.length })
    (hco : scope.isCoroutine = false) (hgen : scope.isGenerator = false) (hk : scope.kind = .function)
    (hcell : ∀ x ∈ scope.names, x.2 ≠ .cell) : codeC (model prog w) A (.call (.ref f) args) R s := by
  have X := X₀.keeps F.keep
  obtain ⟨oL, es, ep, hL, hLd, hLk, hLf⟩ := F.ns
  have hLt := Heap.lt_size hL
  have hkind : env.scope.kind ≠ .module := by rw [hke]; decide
  refine codeC.callFn (fd := fnOf name qual params body scope dV kV doc pm an cdv ct) (body := body) hroom (X _ _ ho) rfl hco hgen rfl (codeRec_of X hcd) (hbind _ _ _ _ ?_)
  refine wpAny_newFunctionEnv hcell hloc (fun h₁ hns hsb => ⟨(T.nolimit.keeps F.keep).fresh _ hsb, codeC.func ?_⟩) hk
  have up : ∀ b o, s.heap.get? b = some o → h₁.get? b = some o := fun b o e => hsb.extBut b o (Nat.ne_of_lt (Heap.lt_size e)) (Heap.get?_push_of_some _ e)
  refine wpC.mono (h s.heap.objs.size oL h₁ ⟨fun h' sl e => ⟨_, es, ep, e, hLd, hLk, hLf⟩, ⟨es, ep, hLd⟩, F.above⟩ ⟨hkind, hf, ⟨es, ep, hLd⟩, trivial⟩ (TLgL.allNe_of fun p hp => (N p hp).2.1)
    ⟨hns, fun b o e => up b o (F.keep b o e), Nat.le_trans F.above (Nat.le_of_lt hLt)⟩ (fun p hp => ?_) (fun p hp => Heap.lt_size (N p hp).1) hLt) (fun _ _ x => x) fun _ _ x => x
  rcases List.mem_append.mp hp with hp | hp
  · obtain ⟨h1, h2, h3⟩ := N p hp
    exact ⟨up _ _ h1, Nat.ne_of_lt (Heap.lt_size h1), h3⟩
  · rcases List.mem_cons.mp hp with rfl | hp
    · exact ⟨up _ _ hL, Nat.ne_of_lt hLt, Heap.get?_none_of_le F.above⟩
    · exact nomatch hp
end Mine
end
section
open PySem PySem.W PyProof.Rows PySem.Calls Mine
local macro_rules | `(tactic| walk_at "newTuple") => `(tactic| (k_here; k_dflt (refine' newTuple_E ?F ?N ?_ ?z; (case F => k_asm); (case N => k_asm); (case z => kmk_size)); intro D' h' F' N' l1 l2; (try k_lt l1); (try k_lt2 l2); (try k_sweep)))
section
open PySem PySem.W PyProof.Rows PySem.Calls
set_option maxRecDepth 100000
set_option maxHeartbeats 8000000
namespace Mine
local macro_rules | `(tactic| walk_at "execs cons") => `(tactic| (k_here; refine wpAny_execs_cons ?_))
local macro_rules | `(tactic| walk_at "call builtin:min") => `(tactic| (k_here; (with_reducible show wpAny _ _ (call (Value.builtin _) [Value.int _ _, Value.int _ _]) _ _ _); refine wpAny_with_toks (n := 1) (Nat.succ_le_succ (Nat.zero_le _)) ?_; (rename News _ _ _ _ => N'); (with_unfolding_all apply min_two_N); (case hh => with_unfolding_all rfl); (case N => exact N'); (case F => assumption); clear N'; intro _ _ _ _ hpos'; (try dsimp only at hpos')))
/-- a whole number over a whole number -/
noncomputable abbrev fdivI (a b : Int) : UInt64 := Float64.ofFrac (decide (a < 0) != decide (b < 0)) a.natAbs b.natAbs
noncomputable abbrev minZ (a b : Int) : Int := if b < a then b else a
/-- what _law_hls tells -/
noncomputable def HlsV (pl sh lv : Int) (vs : List Value) : Prop := if lv * sh = 0 then ∃ t1 t2 t3, t2 ≠ 0 ∧ vs = [.int 0 t1, .float (fdivI (lv * (16 - sh)) 128) t2, .int 0 t3]
  else ∃ t1 t2 t3, (t1 ≠ 0 ∧ t2 ≠ 0 ∧ t3 ≠ 0) ∧ vs = [.float (fdivI (pl.fmod 96) 96) t1, .float (fdivI (lv * (16 - sh)) 128) t2, .float (fdivI (lv * sh) (minZ (lv * (16 - sh)) (128 - lv * (16 - sh)))) t3]
theorem twice_in {sh lv : Int} (h0 : 0 ≤ sh) (h1 : sh < 9) (h2 : 0 ≤ lv) (h3 : lv < 9) : 0 ≤ lv * (16 - sh) ∧ lv * (16 - sh) ≤ 128 ∧ 0 ≤ lv * sh ∧ lv * sh ≤ 64 ∧ (lv ≠ 0 → 8 ≤ lv * (16 - sh)) ∧ (sh ≠ 0 → lv * (16 - sh) ≤ 120) := by
  have h : lv = 0 ∨ lv = 1 ∨ lv = 2 ∨ lv = 3 ∨ lv = 4 ∨ lv = 5 ∨ lv = 6 ∨ lv = 7 ∨ lv = 8 := by (clear h0 h1; omega)
  rcases h with rfl | rfl | rfl | rfl | rfl | rfl | rfl | rfl | rfl <;> omega
theorem mul_ne {a b : Int} (h : a ≠ 0) (h' : b ≠ 0) : ¬ a * b = 0 := fun e => (Int.mul_eq_zero.mp e).elim h h'
theorem min_ne {sh lv : Int} (h0 : 0 ≤ sh) (h1 : sh < 9) (h2 : 0 ≤ lv) (h3 : lv < 9) (h4 : lv ≠ 0) (h5 : sh ≠ 0) : minZ (lv * (16 - sh)) (128 - lv * (16 - sh)) ≠ 0 := by
  have h := twice_in h0 h1 h2 h3
  have h6 := h.2.2.2.2.1 h4
  have h7 := h.2.2.2.2.2 h5
  unfold minZ
  split <;> omega
theorem fin_all {b : Bool} {n d : Nat} {P : Prop} (h : Float64.isInf (Float64.ofFrac b n d) = true) (hn : n < 2 ^ 60) (hd : 0 < d) : P := absurd h (noInf hn hd)
theorem hls_con (w : World) (pl sh lv : Int) (t1 t2 t3 : Tok) (hb0 : 0 ≤ pl) (hb1 : pl < 16000016) (hb2 : 0 ≤ sh) (hb3 : sh < 9) (hb4 : 0 ≤ lv) (hb5 : lv < 9)
    (hz : PySem.Challenge.rw_ny0075_01 = PySem.Challenge.rw_ny0075_01) : Con w 49 1 20 [.int pl t1, .int sh t2, .int lv t3] (Tup (HlsV pl sh lv)) := by
  unfold Con
  w_on
  revert hz
  k_fill
  intro hz mean mg mb dp un gd cn cs a ccd cl outer A₀ base h₀ L m news s Q E B F X N T hk hd hu hret
  w_strict (
    refine wpAny_call ?_
    k_dflt ((refine' enterE ?k1 ?k2 ?k3 ?k5 ?kA ?kF ?kK ?k6 ?k7 ?k8 ?k9 ?kB ?_ ?c2 ?c3 ?c4 ?c5; (case kA => exact rfl); (case kF => exact rfl); (case kK => assumption); (case k1 => k_asm); (case k2 => k_asm); (case k3 => k_asm); (case k5 => k_asm); (case k6 => k_is); (case k7 => k_is); (case k8 => ktr_room); (case k9 => exact BindsTo.of_eq rfl); (case c5 => decide); (case kB => exact locs rfl); (case c2 => exact rfl); (case c3 => exact rfl); (case c4 => exact rfl); k_whole; intro L' h' F' N' B' X' T'; (try dsimp only); (try k_lift B'); (try k_fold)))
    k_steps
    all_goals first
    | (refine finT hret N (by assumption) (by assumption) (by assumption) (by k_mem) (by assumption) ?_; unfold HlsV; (first | rw [if_pos (by assumption)] | rw [if_neg (mul_ne (by assumption) (by assumption))]); first | exact ⟨_, _, _, Nat.succ_ne_zero _, rfl⟩ | exact ⟨_, _, _, ⟨by first | exact Nat.succ_ne_zero _ | assumption, by first | exact Nat.succ_ne_zero _ | assumption, by first | exact Nat.succ_ne_zero _ | assumption | exact Nat.ne_of_gt (Nat.lt_of_lt_of_le Nat.one_pos (by assumption))⟩, rfl⟩)
    | (exfalso; have hT := twice_in hb2 hb3 hb4 hb5; have hM : (0 : Int) ≤ pl.fmod 96 ∧ pl.fmod 96 < 96 := (by rw [Int.fmod_eq_emod_of_nonneg _ (by decide)]; (clear hb0 hb1 hb2 hb3 hb4 hb5 hz hk hd hu hT; omega)); exact fin_all (by assumption) (by omega) (by (clear hb0 hb1 hb2 hb3 hb4 hb5 hz hk hd hu hT hM; omega)))
    | (exfalso; exact min_ne hb2 hb3 hb4 hb5 (by assumption) (by assumption) (by assumption))
    | (exfalso; have hT := twice_in hb2 hb3 hb4 hb5; exact fin_all (by assumption) (by omega) (Int.natAbs_pos.mpr (by assumption))))
end Mine
end
section
open PySem PySem.W PyProof.Rows PySem.Calls
set_option maxRecDepth 100000
set_option maxHeartbeats 8000000
namespace Mine
local macro_rules | `(tactic| walk_at "execs cons") => `(tactic| (k_here; refine wpAny_execs_cons ?_))
local macro_rules | `(tactic| walk_at "call builtin:max") => `(tactic| (k_here; (with_reducible show wpAny _ _ (call (Value.builtin "max") [Value.float _ _, Value.float _ _, Value.float _ _]) _ _ _); k_dflt (refine' max3_N ?H ?F ?N ?_; (case H => exact rfl); (case F => k_asm); (case N => k_asm)); intro k' h' tk' F' N'; (try k_sweep)))
local macro_rules | `(tactic| walk_at "call builtin:min") => `(tactic| (k_here; (with_reducible show wpAny _ _ (call (Value.builtin "min") [Value.float _ _, Value.float _ _, Value.float _ _]) _ _ _); k_dflt (refine' min3_N ?H ?F ?N ?_; (case H => exact rfl); (case F => k_asm); (case N => k_asm)); intro k' h' tk' F' N'; (try k_sweep)))
noncomputable abbrev two64 : UInt64 := 4611686018427387904
noncomputable abbrev half64 : UInt64 := 4602678819172646912
noncomputable abbrev four64 : UInt64 := 4616189618054758400
noncomputable def eqF (x y : UInt64) : Bool := Float64.cmp x y == some Ordering.eq
noncomputable def leF (x y : UInt64) : Bool := Float64.cmp x y == some Ordering.lt || Float64.cmp x y == some Ordering.eq
/-- what rgb_to_hls reckons -/
noncomputable def hlsR (r g b : UInt64) : UInt64 × UInt64 × UInt64 :=
  if eqF (min3F r g b) (max3F r g b) = true then (0, Float64.div (Float64.add (max3F r g b) (min3F r g b)) two64, 0) else
  let rg := Float64.sub (max3F r g b) (min3F r g b)
  let l := Float64.div (Float64.add (max3F r g b) (min3F r g b)) two64
  let s := if leF l half64 = true then Float64.div rg (Float64.add (max3F r g b) (min3F r g b)) else Float64.div rg (Float64.sub (Float64.sub two64 (max3F r g b)) (min3F r g b))
  let rc := Float64.div (Float64.sub (max3F r g b) r) rg
  let gc := Float64.div (Float64.sub (max3F r g b) g) rg
  let bc := Float64.div (Float64.sub (max3F r g b) b) rg
  let h := if eqF r (max3F r g b) = true then Float64.sub bc gc else if eqF g (max3F r g b) = true then Float64.sub (Float64.add two64 rc) bc else Float64.sub (Float64.add four64 gc) rc
  ((Float64.divmod (Float64.div h six64) one64).2, l, s)
/-- nothing is divided by nought -/
structure HlsOk (r g b : UInt64) : Prop where
  rg : (Float64.cmp (min3F r g b) (max3F r g b) == some Ordering.eq) = false → ¬ Float64.isZero (Float64.sub (max3F r g b) (min3F r g b)) = true
  sm : (Float64.cmp (min3F r g b) (max3F r g b) == some Ordering.eq) = false → (Float64.cmp (Float64.div (Float64.add (max3F r g b) (min3F r g b)) two64) half64 == some Ordering.lt || Float64.cmp (Float64.div (Float64.add (max3F r g b) (min3F r g b)) two64) half64 == some Ordering.eq) = true → ¬ Float64.isZero (Float64.add (max3F r g b) (min3F r g b)) = true
  sn : (Float64.cmp (min3F r g b) (max3F r g b) == some Ordering.eq) = false → (Float64.cmp (Float64.div (Float64.add (max3F r g b) (min3F r g b)) two64) half64 == some Ordering.lt || Float64.cmp (Float64.div (Float64.add (max3F r g b) (min3F r g b)) two64) half64 == some Ordering.eq) = false → ¬ Float64.isZero (Float64.sub (Float64.sub two64 (max3F r g b)) (min3F r g b)) = true
theorem fls {P : Prop} {b : Bool} (h : b = true) (h' : ¬ b = true) : P := absurd h h'
theorem rgb_con (w : World) (r g b : UInt64) (t1 t2 t3 : Tok) (hok : HlsOk r g b)
    (hz : PySem.Challenge.rw_ny0075_01 = PySem.Challenge.rw_ny0075_01) : Con w 28 1 20 [.float r t1, .float g t2, .float b t3] (Tup (Flo3 (hlsR r g b).1 (hlsR r g b).2.1 (hlsR r g b).2.2)) := by
  unfold Con
  w_on
  revert hz
  k_fill
  intro hz mean mg mb dp un gd cn cs a ccd cl outer A₀ base h₀ L m news s Q E B F X N T hk hd hu hret
  w_strict (
    refine wpAny_call ?_
    k_dflt ((refine' enterE ?k1 ?k2 ?k3 ?k5 ?kA ?kF ?kK ?k6 ?k7 ?k8 ?k9 ?kB ?_ ?c2 ?c3 ?c4 ?c5; (case kA => exact rfl); (case kF => exact rfl); (case kK => assumption); (case k1 => k_asm); (case k2 => k_asm); (case k3 => k_asm); (case k5 => k_asm); (case k6 => k_is); (case k7 => k_is); (case k8 => ktr_room); (case k9 => exact BindsTo.of_eq rfl); (case c5 => decide); (case kB => exact locs rfl); (case c2 => exact rfl); (case c3 => exact rfl); (case c4 => exact rfl); k_whole; intro L' h' F' N' B' X' T'; (try dsimp only); (try k_lift B'); (try k_fold)))
    k_steps
    all_goals first
    | exact fls (by assumption) (hok.rg (by assumption))
    | exact fls (by assumption) (hok.sm (by assumption) (by assumption))
    | exact fls (by assumption) (hok.sn (by assumption) (by assumption))
    | (refine finT hret N (by assumption) (by assumption) (by assumption) (by k_mem) (by assumption) ?_; unfold Flo3 hlsR eqF leF; (repeat (first | rw [if_pos (by assumption)] | rw [if_neg (nt (by assumption))])); (try dsimp only); (repeat (first | rw [if_pos (by assumption)] | rw [if_neg (nt (by assumption))])); exact ⟨_, _, _, ⟨by first | exact Nat.succ_ne_zero _ | assumption, by first | exact Nat.succ_ne_zero _ | assumption, by first | exact Nat.succ_ne_zero _ | assumption⟩, rfl⟩))
end Mine
end
section
open PySem PySem.W PyProof.Rows PySem.Calls
set_option maxRecDepth 100000
namespace Mine
section
variable {prog : Program} {w : World} {A : Around} {E : Value → Shared → Prop} {s : Shared} {h₀ : Heap} {L : Addr} {m : Str → Option Value} {news : List (Addr × Obj)} {x : Str} {t u : Tok} {Q : Value → Shared → Prop}
/-- a split whose pieces are known -/
theorem split_E {ps : List Str} (hF : Fr h₀ L s.heap m) (hN : News h₀ L s.heap news) (hs : Txt.split x (Str.ofString ".") = ps)
    (h : ∀ D l h' k, l.map (·.1) = ps → Fr h₀ L h' m → News h₀ L h' ((D, W.listOf (strValues l).toArray 0) :: news) → (∀ p ∈ news, p.1 < D) → L < D → Q (.ref D) { s with heap := h', toks := k }) (hsz : x.length + 2 ≤ sizeLine) :
    wpAny (model prog w) A (call (.builtin "str.split") [.str x t, .str (Str.ofString ".") u]) Q E s :=
  splitN1 hF hN (by decide +kernel) (fun l h' k e F N => h _ l h' k (e.trans hs) F N (fun p hp => Heap.lt_size (hN p hp).1) hF.ns.lt) hsz
end
theorem Con.use {w : World} {f : Addr} {d u : Nat} {vs : List Value} {P : Value → List (Addr × Obj) → Prop} (C : Con w f d u vs P)
    {mean : ExcName → Option Value} {mg mb : Str → Option Value} {dp un : Nat} {gd : Option (List Code)} {cn : Str} {cs : Scope} {a : Addr} {ccd : Value} {cl : List (Str × Addr)} {outer : List Env}
    {A₀ : Around} {base h₀ : Heap} {L : Addr} {m : Str → Option Value} {news : List (Addr × Obj)} {s : Shared} {Q E : Value → Shared → Prop}
    (B : Below A₀ base outer h₀) (F : Fr h₀ L s.heap m) (X : (Mine.hd.heap_1 w.params).In h₀) (N : News h₀ L s.heap news)
    (T : Top Mine.view (looseW Mine.view []) mean mg mb h₀) (hk : cs.kind = .function)
    (hd : dp + d < recursionLimit) (hu : un + u < cLine)
    (ret : ∀ r tl h' tk', P r tl → Fr h₀ L h' m → News h₀ L h' (tl ++ news) → (∀ p ∈ tl, ∀ q ∈ news, q.1 < p.1) → Q r { s with heap := h', toks := tk' }) :
    wpAny (model PySem.Challenge.rw_ny0075_01.row.prog w) (ktrTop dp un gd cn cs L a ccd cl outer) (call (.ref f) vs) Q E s :=
  C _ _ _ _ _ _ _ _ _ _ _ _ _ _ _ _ _ _ _ _ _ B F X N T hk hd hu ret
theorem lt_one {D : Addr} {o : Obj} {news : List (Addr × Obj)} (h : ∀ p ∈ [(D, o)], ∀ q ∈ news, q.1 < p.1) : ∀ q ∈ news, q.1 < D := h (D, o) (List.Mem.head _)
end Mine
end
section
open PySem PySem.W PyProof.Rows PySem.Calls
set_option maxRecDepth 100000
set_option maxHeartbeats 8000000
namespace Mine
local macro_rules | `(tactic| walk_at "call builtin:str.split") => `(tactic| (k_here; (try dsimp only [List.cons_append, List.nil_append]); (refine split_E (by k_asm) (by k_asm) (by assumption) ?_ (by rw [sizeLine_eq]; omega)); intro D' l' h' k' e' F' N' l1 l2; (try k_lt l1); (try k_lt2 l2); kspl_open e'; (simp only [strValues, List.map_cons, List.map_nil] at N'); (try k_sweep)))
local macro_rules | `(tactic| walk_at "call ref") => `(tactic| (k_here; k_dflt (refine' Con.use (hsv_con _ _ _ _ _ _ _ ?p1 ?p2 ?p3 rfl) ?B ?F ?X ?N ?T ?hk ?hd ?hu ?_; (case p1 => assumption); (case p2 => assumption); (case p3 => first | exact Nat.succ_ne_zero _ | assumption); (case B => k_asm); (case F => k_asm); (case X => k_asm); (case N => k_asm); (case T => k_asm); (case hk => exact rfl); (case hd => ktr_room); (case hu => ktr_units); k_whole); intro r' tl' h' tk' hP' F' N' l1; obtain ⟨D', c', vs', ⟨t1', t2', t3', hn', hv'⟩, hr', ht'⟩ := hP'; subst hv'; subst hr'; subst ht'; (replace l1 := lt_one l1); (try k_lt l1); (try simp only [List.cons_append, List.nil_append] at N'); (try k_sweep)))
theorem colour1 (w : World) (ri sd : Str) (sx pa li : Int) (t1 t2 : Tok) (hs1 : Txt.split ri (Str.ofString ".") = [strI sx]) (hs2 : Txt.split sd (Str.ofString ".") = [strI pa, strI li]) (hl1 : ri.length < 100) (hl2 : sd.length < 100) (hsx0 : 0 ≤ sx) (hsx1 : sx < 1000000) (hp0 : 0 ≤ pa) (hp1 : pa < 9) (hq0 : 0 ≤ li) (hq1 : li < 9) (hfin : Float64.isFinite (Float64.mul (fdivI (0 + sx * 16) 96) six64) = true) (hsm : (Flt.toInt Float64.truncOf (Float64.mul (fdivI (0 + sx * 16) 96) six64)).natAbs < 2000000)
    (hz : PySem.Challenge.rw_ny0075_01 = PySem.Challenge.rw_ny0075_01) : Con w 68 2 60 [.str ri t1, .str sd t2] (Tup (Flo3 (hsvR (fdivI (0 + sx * 16) 96) (fdivI pa 8) (fdivI li 8)).1 (hsvR (fdivI (0 + sx * 16) 96) (fdivI pa 8) (fdivI li 8)).2.1 (hsvR (fdivI (0 + sx * 16) 96) (fdivI pa 8) (fdivI li 8)).2.2)) := by
  unfold Con
  w_on
  revert hz
  k_fill
  intro hz mean mg mb dp un gd cn cs a ccd cl outer A₀ base h₀ L m news s Q E B F X N T hk hd hu hret
  w_strict (
    refine wpAny_call ?_
    k_dflt ((refine' enterE ?k1 ?k2 ?k3 ?k5 ?kA ?kF ?kK ?k6 ?k7 ?k8 ?k9 ?kB ?_ ?c2 ?c3 ?c4 ?c5; (case kA => exact rfl); (case kF => exact rfl); (case kK => assumption); (case k1 => k_asm); (case k2 => k_asm); (case k3 => k_asm); (case k5 => k_asm); (case k6 => k_is); (case k7 => k_is); (case k8 => ktr_room); (case k9 => exact BindsTo.of_eq rfl); (case c5 => decide); (case kB => exact locs rfl); (case c2 => exact rfl); (case c3 => exact rfl); (case c4 => exact rfl); k_whole; intro L' h' F' N' B' X' T'; (try dsimp only); (try k_lift B'); (try k_fold)))
    k_steps
    all_goals first
    | (exfalso; refine fin_all (by assumption) ?_ (by decide); first | (show ((0 + sx * 16) : Int).natAbs < 2 ^ 60; omega) | (show pa.natAbs < 2 ^ 60; (clear hs1 hs2 hl1 hl2 hsx0 hsx1 hq0 hq1 hfin hsm hz hk hd hu; omega)) | (show li.natAbs < 2 ^ 60; (clear hs1 hs2 hl1 hl2 hsx0 hsx1 hp0 hp1 hfin hsm hz hk hd hu; omega)))
    | (refine finT (L' := L') hret N (by assumption) (by assumption) (by assumption) (by k_mem) (ltN (by (clear hs1 hs2 hl1 hl2 hsx0 hsx1 hp0 hp1 hq0 hq1 hfin hsm hz hk hd hu; omega))) ?_; exact ⟨_, _, _, by assumption, rfl⟩))
theorem colour2 (w : World) (ri sd : Str) (sx sy pa li : Int) (t1 t2 : Tok) (hs1 : Txt.split ri (Str.ofString ".") = [strI sx, strI sy]) (hs2 : Txt.split sd (Str.ofString ".") = [strI pa, strI li]) (hl1 : ri.length < 100) (hl2 : sd.length < 100) (hsx0 : 0 ≤ sx) (hsx1 : sx < 1000000) (hsy0 : 0 ≤ sy) (hsy1 : sy < 1000000) (hp0 : 0 ≤ pa) (hp1 : pa < 9) (hq0 : 0 ≤ li) (hq1 : li < 9) (hfin : Float64.isFinite (Float64.mul (fdivI (0 + sx * 16 + sy * 4) 96) six64) = true) (hsm : (Flt.toInt Float64.truncOf (Float64.mul (fdivI (0 + sx * 16 + sy * 4) 96) six64)).natAbs < 2000000)
    (hz : PySem.Challenge.rw_ny0075_01 = PySem.Challenge.rw_ny0075_01) : Con w 68 2 60 [.str ri t1, .str sd t2] (Tup (Flo3 (hsvR (fdivI (0 + sx * 16 + sy * 4) 96) (fdivI pa 8) (fdivI li 8)).1 (hsvR (fdivI (0 + sx * 16 + sy * 4) 96) (fdivI pa 8) (fdivI li 8)).2.1 (hsvR (fdivI (0 + sx * 16 + sy * 4) 96) (fdivI pa 8) (fdivI li 8)).2.2)) := by
  unfold Con
  w_on
  revert hz
  k_fill
  intro hz mean mg mb dp un gd cn cs a ccd cl outer A₀ base h₀ L m news s Q E B F X N T hk hd hu hret
  w_strict (
    refine wpAny_call ?_
    k_dflt ((refine' enterE ?k1 ?k2 ?k3 ?k5 ?kA ?kF ?kK ?k6 ?k7 ?k8 ?k9 ?kB ?_ ?c2 ?c3 ?c4 ?c5; (case kA => exact rfl); (case kF => exact rfl); (case kK => assumption); (case k1 => k_asm); (case k2 => k_asm); (case k3 => k_asm); (case k5 => k_asm); (case k6 => k_is); (case k7 => k_is); (case k8 => ktr_room); (case k9 => exact BindsTo.of_eq rfl); (case c5 => decide); (case kB => exact locs rfl); (case c2 => exact rfl); (case c3 => exact rfl); (case c4 => exact rfl); k_whole; intro L' h' F' N' B' X' T'; (try dsimp only); (try k_lift B'); (try k_fold)))
    k_steps
    all_goals first
    | (exfalso; refine fin_all (by assumption) ?_ (by decide); first | (show ((0 + sx * 16 + sy * 4) : Int).natAbs < 2 ^ 60; (clear hs1 hs2 hl1 hl2 hp0 hp1 hq0 hq1 hfin hsm hz hk hd hu; omega)) | (show pa.natAbs < 2 ^ 60; (clear hs1 hs2 hl1 hl2 hsx0 hsx1 hsy0 hsy1 hq0 hq1 hfin hsm hz hk hd hu; omega)) | (show li.natAbs < 2 ^ 60; (clear hs1 hs2 hl1 hl2 hsx0 hsx1 hsy0 hsy1 hp0 hp1 hfin hsm hz hk hd hu; omega)))
    | (refine finT (L' := L') hret N (by assumption) (by assumption) (by assumption) (by k_mem) (ltN (by (clear hs1 hs2 hl1 hl2 hsx0 hsx1 hsy0 hsy1 hp0 hp1 hq0 hq1 hfin hsm hz hk hd hu; omega))) ?_; exact ⟨_, _, _, by assumption, rfl⟩))
theorem colour3 (w : World) (ri sd : Str) (sx sy sz pa li : Int) (t1 t2 : Tok) (hs1 : Txt.split ri (Str.ofString ".") = [strI sx, strI sy, strI sz]) (hs2 : Txt.split sd (Str.ofString ".") = [strI pa, strI li]) (hl1 : ri.length < 100) (hl2 : sd.length < 100) (hsx0 : 0 ≤ sx) (hsx1 : sx < 1000000) (hsy0 : 0 ≤ sy) (hsy1 : sy < 1000000) (hsz0 : 0 ≤ sz) (hsz1 : sz < 1000000) (hp0 : 0 ≤ pa) (hp1 : pa < 9) (hq0 : 0 ≤ li) (hq1 : li < 9) (hfin : Float64.isFinite (Float64.mul (fdivI (0 + sx * 16 + sy * 4 + sz * 1) 96) six64) = true) (hsm : (Flt.toInt Float64.truncOf (Float64.mul (fdivI (0 + sx * 16 + sy * 4 + sz * 1) 96) six64)).natAbs < 2000000)
    (hz : PySem.Challenge.rw_ny0075_01 = PySem.Challenge.rw_ny0075_01) : Con w 68 2 60 [.str ri t1, .str sd t2] (Tup (Flo3 (hsvR (fdivI (0 + sx * 16 + sy * 4 + sz * 1) 96) (fdivI pa 8) (fdivI li 8)).1 (hsvR (fdivI (0 + sx * 16 + sy * 4 + sz * 1) 96) (fdivI pa 8) (fdivI li 8)).2.1 (hsvR (fdivI (0 + sx * 16 + sy * 4 + sz * 1) 96) (fdivI pa 8) (fdivI li 8)).2.2)) := by
  unfold Con
  w_on
  revert hz
  k_fill
  intro hz mean mg mb dp un gd cn cs a ccd cl outer A₀ base h₀ L m news s Q E B F X N T hk hd hu hret
  w_strict (
    refine wpAny_call ?_
    k_dflt ((refine' enterE ?k1 ?k2 ?k3 ?k5 ?kA ?kF ?kK ?k6 ?k7 ?k8 ?k9 ?kB ?_ ?c2 ?c3 ?c4 ?c5; (case kA => exact rfl); (case kF => exact rfl); (case kK => assumption); (case k1 => k_asm); (case k2 => k_asm); (case k3 => k_asm); (case k5 => k_asm); (case k6 => k_is); (case k7 => k_is); (case k8 => ktr_room); (case k9 => exact BindsTo.of_eq rfl); (case c5 => decide); (case kB => exact locs rfl); (case c2 => exact rfl); (case c3 => exact rfl); (case c4 => exact rfl); k_whole; intro L' h' F' N' B' X' T'; (try dsimp only); (try k_lift B'); (try k_fold)))
    k_steps
    all_goals first
    | (exfalso; refine fin_all (by assumption) ?_ (by decide); first | (show ((0 + sx * 16 + sy * 4 + sz * 1) : Int).natAbs < 2 ^ 60; (clear hs1 hs2 hl1 hl2 hp0 hp1 hq0 hq1 hfin hsm hz hk hd hu; omega)) | (show pa.natAbs < 2 ^ 60; (clear hs1 hs2 hl1 hl2 hsx0 hsx1 hsy0 hsy1 hsz0 hsz1 hq0 hq1 hfin hsm hz hk hd hu; omega)) | (show li.natAbs < 2 ^ 60; (clear hs1 hs2 hl1 hl2 hsx0 hsx1 hsy0 hsy1 hsz0 hsz1 hp0 hp1 hfin hsm hz hk hd hu; omega)))
    | (refine finT (L' := L') hret N (by assumption) (by assumption) (by assumption) (by k_mem) (ltN (by (clear hs1 hs2 hl1 hl2 hsx0 hsx1 hsy0 hsy1 hsz0 hsz1 hp0 hp1 hq0 hq1 hfin hsm hz hk hd hu; omega))) ?_; exact ⟨_, _, _, by assumption, rfl⟩))
end Mine
end
section
open PySem PySem.W PyProof.Rows PySem.Calls
set_option maxRecDepth 100000
set_option maxHeartbeats 8000000
namespace Mine
noncomputable abbrev sunos : Str := Str.ofString "SunOS"
noncomputable abbrev solaris : Str := Str.ofString "Solaris"
theorem alias_low (w : World) (re ve : Str) (t1 t2 t3 : Tok) (hlt : re.cps.toList < (Str.ofString "5").cps.toList)
    (hz : PySem.Challenge.rw_ny0075_01 = PySem.Challenge.rw_ny0075_01) : Con w 21 1 20 [.str sunos t1, .str re t2, .str ve t3] (Tup (Str3 sunos re ve)) := by
  unfold Con
  w_on
  revert hz
  k_fill
  intro hz mean mg mb dp un gd cn cs a ccd cl outer A₀ base h₀ L m news s Q E B F X N T hk hd hu hret
  w_strict (
    refine wpAny_call ?_
    k_dflt ((refine' enterE ?k1 ?k2 ?k3 ?k5 ?kA ?kF ?kK ?k6 ?k7 ?k8 ?k9 ?kB ?_ ?c2 ?c3 ?c4 ?c5; (case kA => exact rfl); (case kF => exact rfl); (case kK => assumption); (case k1 => k_asm); (case k2 => k_asm); (case k3 => k_asm); (case k5 => k_asm); (case k6 => k_is); (case k7 => k_is); (case k8 => ktr_room); (case k9 => exact BindsTo.of_eq rfl); (case c5 => decide); (case kB => exact locs rfl); (case c2 => exact rfl); (case c3 => exact rfl); (case c4 => exact rfl); k_whole; intro L' h' F' N' B' X' T'; (try dsimp only); (try k_lift B'); (try k_fold)))
    k_steps
    all_goals first
    | exact fls (by assumption) (nt h2)
    | exact fls h2 (nt (by assumption))
    | (refine finT (L' := L') hret N (by assumption) (by assumption) (by assumption) (by k_mem) (ltN (by omega)) ?_; exact ⟨_, _, _, rfl⟩)
    | fail)
theorem alias_other (w : World) (sy re ve : Str) (t1 t2 t3 : Tok) (h1 : (sy == Str.ofString "SunOS") = false) (h2 : ([Str.ofString "win32", Str.ofString "win16"].any fun x => x == sy) = false)
    (hz : PySem.Challenge.rw_ny0075_01 = PySem.Challenge.rw_ny0075_01) : Con w 21 1 20 [.str sy t1, .str re t2, .str ve t3] (Tup (Str3 sy re ve)) := by
  unfold Con
  w_on
  revert hz
  k_fill
  intro hz mean mg mb dp un gd cn cs a ccd cl outer A₀ base h₀ L m news s Q E B F X N T hk hd hu hret
  w_strict (
    refine wpAny_call ?_
    k_dflt ((refine' enterE ?k1 ?k2 ?k3 ?k5 ?kA ?kF ?kK ?k6 ?k7 ?k8 ?k9 ?kB ?_ ?c2 ?c3 ?c4 ?c5; (case kA => exact rfl); (case kF => exact rfl); (case kK => assumption); (case k1 => k_asm); (case k2 => k_asm); (case k3 => k_asm); (case k5 => k_asm); (case k6 => k_is); (case k7 => k_is); (case k8 => ktr_room); (case k9 => exact BindsTo.of_eq rfl); (case c5 => decide); (case kB => exact locs rfl); (case c2 => exact rfl); (case c3 => exact rfl); (case c4 => exact rfl); k_whole; intro L' h' F' N' B' X' T'; (try dsimp only); (try k_lift B'); (try k_fold)))
    k_steps
    all_goals first
    | exact fls (by assumption) (nt h2)
    | exact fls h2 (nt (by assumption))
    | (refine finT (L' := L') hret N (by assumption) (by assumption) (by assumption) (by k_mem) (ltN (by omega)) ?_; exact ⟨_, _, _, rfl⟩)
    | fail)
theorem alias_win (w : World) (sy re ve : Str) (t1 t2 t3 : Tok) (h1 : (sy == Str.ofString "SunOS") = false) (h2 : ([Str.ofString "win32", Str.ofString "win16"].any fun x => x == sy) = true)
    (hz : PySem.Challenge.rw_ny0075_01 = PySem.Challenge.rw_ny0075_01) : Con w 21 1 20 [.str sy t1, .str re t2, .str ve t3] (Tup (Str3 (Str.ofString "Windows") re ve)) := by
  unfold Con
  w_on
  revert hz
  k_fill
  intro hz mean mg mb dp un gd cn cs a ccd cl outer A₀ base h₀ L m news s Q E B F X N T hk hd hu hret
  w_strict (
    refine wpAny_call ?_
    k_dflt ((refine' enterE ?k1 ?k2 ?k3 ?k5 ?kA ?kF ?kK ?k6 ?k7 ?k8 ?k9 ?kB ?_ ?c2 ?c3 ?c4 ?c5; (case kA => exact rfl); (case kF => exact rfl); (case kK => assumption); (case k1 => k_asm); (case k2 => k_asm); (case k3 => k_asm); (case k5 => k_asm); (case k6 => k_is); (case k7 => k_is); (case k8 => ktr_room); (case k9 => exact BindsTo.of_eq rfl); (case c5 => decide); (case kB => exact locs rfl); (case c2 => exact rfl); (case c3 => exact rfl); (case c4 => exact rfl); k_whole; intro L' h' F' N' B' X' T'; (try dsimp only); (try k_lift B'); (try k_fold)))
    k_steps
    all_goals first
    | exact fls (by assumption) (nt h2)
    | exact fls h2 (nt (by assumption))
    | (refine finT (L' := L') hret N (by assumption) (by assumption) (by assumption) (by k_mem) (ltN (by omega)) ?_; exact ⟨_, _, _, rfl⟩)
    | fail)
end Mine
end
section
open PySem PySem.W PyProof.Rows PySem.Calls
set_option maxRecDepth 100000
set_option maxHeartbeats 8000000
namespace Mine
local macro_rules | `(tactic| walk_at "call builtin:str.split") => `(tactic| (k_here; (try dsimp only [List.cons_append, List.nil_append]); (refine split_E (by k_asm) (by k_asm) (by assumption) ?_ (by rw [sizeLine_eq]; omega)); intro D' l' h' k' e' F' N' l1 l2; (try k_lt l1); (try k_lt2 l2); (obtain ⟨tt', l'', hR', hE'⟩ := KSpl.cons_of e'); subst hR'; (simp only [strValues, List.map_cons] at N'); (try k_sweep)))

theorem len_of {l : List (Str × Tok)} {ps : List Str} (h : l.map (·.1) = ps) : l.length = ps.length := by rw [← h, List.length_map]
theorem strsAre_map : ∀ {l : List (Str × Tok)} {ps : List Str}, l.map (fun x => x.1) = ps → StrsAre (l.map fun p => Value.str p.1 p.2) ps
  | [], _, h => by subst h; exact .nil
  | (y, t) :: r, _, h => by subst h; exact .cons y t (strsAre_map rfl)
theorem join_E {prog : Program} {w : World} {A : Around} {E : Value → Shared → Prop} {s : Shared} {Q : Value → Shared → Prop} {h₀ : Heap} {L D : Addr} {news : List (Addr × Obj)} {y : Str} {t t0 : Tok} {c : Nat} {l : List (Str × Tok)} {ps : List Str} (N : News h₀ L s.heap news)
    (hm : (D, W.listOf (Value.str y t0 :: l.map fun p => Value.str p.1 p.2).toArray c) ∈ news) (he : l.map (fun x => x.1) = ps) (hw8 : (ps.map (·.length)).sum < 200) (hps : ps.length < 200) (hy : y.length < 20)
    (h : ∀ t' k, Q (.str (Txt.join dot (y :: ps)) t') { s with toks := k }) : wpAny (model prog w) A (call (.builtin "str.join") [.str (Str.ofString ".") t, .ref D]) Q E s :=
  join_list (ys := y :: ps) (News.isList N hm) (.cons _ _ (strsAre_map he)) (by rw [List.map_cons, List.sum_cons, List.length_cons, show (Str.ofString ".").length = 1 from by decide +kernel]; omega) h
local macro_rules | `(tactic| walk_at "call builtin:str.join") => `(tactic| (k_here; (try dsimp only [List.cons_append, List.nil_append]); (refine' join_E ?N ?m ?e ?a ?b ?c ?_; (case N => k_asm); (case m => k_mem); (case e => assumption); (case a => assumption); (case b => assumption); (case c => assumption)); intro _ _))
local macro_rules | `(tactic| walk_at "truthy ref") => `(tactic| (k_here; (with_reducible show wpAny _ _ (truthy (Value.ref _)) _ _ _); (refine kgr_truthy (by k_asm) (by k_mem) (by rfl) (by rfl) (by rw [List.length_cons, List.length_map, len_of (by assumption)]; omega) ?_); (try simp only [List.isEmpty_cons, Bool.not_false])))
theorem alias_num (w : World) (n : Int) (ps : List Str) (re ve : Str) (t1 t2 t3 : Tok) (hlt : ¬ re.cps.toList < (Str.ofString "5").cps.toList) (hs1 : Txt.split re (Str.ofString ".") = strI n :: ps) (hl1 : re.length < 200) (hps : ps.length < 200) (hw8 : (ps.map (·.length)).sum < 200) (hw9 : (strI (n - 3)).length < 20) (hn0 : 3 ≤ n) (hn1 : n < 1000000)
    (hz : PySem.Challenge.rw_ny0075_01 = PySem.Challenge.rw_ny0075_01) : Con w 21 1 20 [.str sunos t1, .str re t2, .str ve t3] (Tup (Str3 solaris (Txt.join dot (strI (n - 3) :: ps)) ve)) := by
  unfold Con
  w_on
  revert hz
  k_fill
  intro hz mean mg mb dp un gd cn cs a ccd cl outer A₀ base h₀ L m news s Q E B F X N T hk hd hu hret
  w_strict (
    refine wpAny_call ?_
    k_dflt ((refine' enterE ?k1 ?k2 ?k3 ?k5 ?kA ?kF ?kK ?k6 ?k7 ?k8 ?k9 ?kB ?_ ?c2 ?c3 ?c4 ?c5; (case kA => exact rfl); (case kF => exact rfl); (case kK => assumption); (case k1 => k_asm); (case k2 => k_asm); (case k3 => k_asm); (case k5 => k_asm); (case k6 => k_is); (case k7 => k_is); (case k8 => ktr_room); (case k9 => exact BindsTo.of_eq rfl); (case c5 => decide); (case kB => exact locs rfl); (case c2 => exact rfl); (case c3 => exact rfl); (case c4 => exact rfl); k_whole; intro L' h' F' N' B' X' T'; (try dsimp only); (try k_lift B'); (try k_fold)))
    k_steps
    all_goals first
    | exact fls (by assumption) (nt h2)
    | exact fls h2 (nt (by assumption))
    | (refine finT (L' := L') hret N (by assumption) (by assumption) (by assumption) (by k_mem) (ltN (by omega)) ?_; exact ⟨_, _, _, rfl⟩)
    | fail)
end Mine
end
section
open PySem PySem.W PyProof.Rows PySem.Calls
set_option maxRecDepth 100000
set_option maxHeartbeats 8000000
namespace Mine
/-- as Con, from the claim's one frame and under its caller -/
noncomputable def ConB (w : World) (f : Addr) (vs : List Value) (P : Value → List (Addr × Obj) → Prop) : Prop :=
  ∀ (mean : ExcName → Option Value) (mg mb : Str → Option Value) (dp un : Nat) (gd : Option (List Code)) (cn : Str) (cs : Scope) (a : Addr) (ccd : Value) (cl : List (Str × Addr))
    (h₀ : Heap) (L : Addr) (m : Str → Option Value) (news : List (Addr × Obj)) (s : Shared) (Q : Value → Shared → Prop),
    Fr h₀ L s.heap m → (Mine.hd.heap_1 w.params).In h₀ → News h₀ L s.heap news →
    Top Mine.view (looseW Mine.view []) mean mg mb h₀ → cs.kind = .function →
    dp + 1 < recursionLimit → un + 20 < cLine →
    (∀ r tl h' tk', P r tl → Fr h₀ L h' m → News h₀ L h' (tl ++ news) → (∀ p ∈ tl, ∀ q ∈ news, q.1 < p.1) → Q r { s with heap := h', toks := tk' }) →
    wpC (model PySem.Challenge.rw_ny0075_01.row.prog w) (ktrTop dp un gd cn cs L a ccd cl []) (call (.ref f) vs) Q (fun _ _ => False) s
local macro_rules | `(tactic| walk_at "call builtin:str.split") => `(tactic| (k_here; (try dsimp only [List.cons_append, List.nil_append]); (refine split_E (by k_asm) (by k_asm) (by assumption) ?_ (by rw [sizeLine_eq]; omega)); intro D' l' h' k' e' F' N' l1 l2; (try k_lt2 l2); (obtain ⟨tt', l'', hR', hE'⟩ := KSpl.cons_of e'); subst hR'; (simp only [strValues, List.map_cons] at N'); (try k_sweep)))
local macro_rules | `(tactic| walk_at "truthy ref") => `(tactic| (k_here; (with_reducible show wpAny _ _ (truthy (Value.ref _)) _ _ _); (refine kgr_truthy (by k_asm) (by k_mem) (by rfl) (by rfl) (by rw [List.length_cons, List.length_map, len_of (by assumption)]; omega) ?_); (try simp only [List.isEmpty_cons, Bool.not_false])))
theorem finB {h₀ h' : Heap} {L D : Addr} {m : Str → Option Value} {news : List (Addr × Obj)} {o : Addr × Obj} {s : Shared} {Vs : List Value → Prop} {vs : List Value} {c : Nat} {Q : Value → Shared → Prop} {tk' : Nat}
    (hret : ∀ r tl h' tk', Tup Vs r tl → Fr h₀ L h' m → News h₀ L h' (tl ++ news) → (∀ p ∈ tl, ∀ q ∈ news, q.1 < p.1) → Q r { s with heap := h', toks := tk' })
    (FF : Fr h₀ L h' m) (NN : News h₀ L h' ((D, tupO vs c) :: o :: news)) (hlt : ∀ q ∈ news, q.1 < D) (hV : Vs vs) : Q (.ref D) { s with heap := h', toks := tk' } :=
  hret _ [(D, tupO vs c)] _ _ ⟨D, c, vs, hV, rfl, rfl⟩ FF (fun p hp => by
    rcases List.mem_cons.mp hp with rfl | hp
    · exact NN _ (List.Mem.head _)
    · exact NN p (List.Mem.tail _ (List.Mem.tail _ hp))) fun p hp q hq => by rw [List.mem_singleton.mp hp]; exact hlt q hq
theorem alias_bad (w : World) (x : Str) (ps : List Str) (re ve : Str) (t1 t2 t3 : Tok) (hlt : ¬ re.cps.toList < (Str.ofString "5").cps.toList) (hs1 : Txt.split re (Str.ofString ".") = x :: ps) (hl1 : re.length < 200) (hps : ps.length < 200)
    (hi : PySem.intText? x = none) (hxl : x.length ≤ 600) (hxc : ∀ c ∈ x.cps.toList, c < 128)
    (hz : PySem.Challenge.rw_ny0075_01 = PySem.Challenge.rw_ny0075_01) : ConB w 21 [.str sunos t1, .str re t2, .str ve t3] (Tup (Str3 solaris re ve)) := by
  unfold ConB
  w_on
  revert hz
  k_fill
  intro hz mean mg mb dp un gd cn cs a ccd cl h₀ L m news s Q F X N T hk hd hu hret
  w_strict (
    refine wpC.call ?_
    k_dflt ((refine' enterT_C ?k1 ?k2 ?k3 ?k5 ?kA ?kF ?kK ?k6 ?k7 ?k8 ?k9 ?kB ?_ ?c2 ?c3 ?c4 ?c5; (case kA => exact rfl); (case kF => exact rfl); (case kK => assumption); (case k1 => k_asm); (case k2 => k_asm); (case k3 => k_asm); (case k5 => k_asm); (case k6 => k_is); (case k7 => k_is); (case k8 => ktr_room); (case k9 => exact BindsTo.of_eq rfl); (case c5 => decide); (case kB => exact locs rfl); (case c2 => exact rfl); (case c3 => exact rfl); (case c4 => exact rfl)))
    k_whole
    intro L' oL h' tiC' tiF' tiE' F' N' lt1 lt2
    (try dsimp only)
    (try k_fold)
    refine wpC.execs (wpC.exec_If (wpC.of ?_))
    k_steps
    refine wpC.execs (wpC.of ?_)
    k_steps
    rotate_left
    (try dsimp only)
    refine wpC.execs (wpC.of ?_)
    k_steps
    (try dsimp only)
    refine wpC.execs (wpC.exec_If (wpC.of ?_))
    k_steps
    refine wpC.execs (wpC.tryExcept (wpC.execs (wpC.assign_raises (wpC.eval_Call ?_ rfl) rfl)))
    k_steps
    refine wpC.callWith_type ?_ rfl rfl
    k_steps
    refine int_raises_C hi hxl hxc rfl ?_
    intro h3 e3 k3 x3
    refine TLg.noted_new1 (new := _ :: news) rfl tiF' x3 (by assumption) (by assumption) ⟨Nat.ne_of_gt (Nat.lt_trans lt2 (by assumption)), tiE'⟩ ?_ rfl
    intro h4 sl4 Fs4 H4
    refine TT.HeldNA.land H4 ?_
    intro h5 H5
    refine TT.clause_hitTN H5 T (k := ?_) (hv := by boot_by_name)
    intro h6 F6 N6
    clear H4 H5 x3
    (try simp only [List.cons_append] at N6)
    k_steps
    (try dsimp only)
    refine wpC.of ?_
    k_steps
    (try dsimp only)
    refine wpC.of ?_
    k_steps
    all_goals (try dsimp only)
    all_goals (refine wpC.of ?_)
    all_goals k_steps
    all_goals (try dsimp only)
    all_goals (refine TLg.leave_back (new := _ :: _ :: news) tiC' (by assumption) (by assumption) ⟨Nat.ne_of_gt (Nat.lt_trans lt2 (by assumption)), Nat.ne_of_gt (Nat.lt_trans lt2 (by assumption)), tiE'⟩ ?_)
    all_goals (intro FF NN; exact finB hret FF NN (fun q hq => Nat.lt_trans (lt1 q hq) (by assumption)) ⟨_, _, _, rfl⟩))
end Mine
end
section
open PySem PySem.W PyProof.Rows PySem.Calls
set_option maxRecDepth 100000
set_option maxHeartbeats 8000000
namespace Mine
local macro_rules | `(tactic| walk_at "call builtin:list.append") => `(tactic| (k_here; dsimp only [List.cons_append, List.nil_append]; (with_reducible show wpAny _ _ (call (Value.builtin _) [Value.ref _, _]) _ _ _); k_dflt (refine' append_K ?k1 ?k2 ?k3 ?_ ?z; (case k1 => k_asm); (case k2 => k_asm); (case k3 => k_upd); (case z => size_fits); k_whole); intro h' F' N'; (try k_sweep)))
noncomputable abbrev wayZ (pl c : Int) : Int := if (pl - c + 48).fmod 96 - 48 < 0 then -((pl - c + 48).fmod 96 - 48) else (pl - c + 48).fmod 96 - 48
noncomputable abbrev dW (pl c : Int) : Int := if (if wayZ pl c - 16 > 0 then wayZ pl c - 16 else 0) < 16 then (if wayZ pl c - 16 > 0 then wayZ pl c - 16 else 0) else 16
noncomputable abbrev partI (pl sh lv c : Int) : Int := lv * (128 - sh * dW pl c)
theorem dW_in (pl c : Int) : 0 ≤ dW pl c ∧ dW pl c ≤ 16 := by
  unfold dW
  split
  · split <;> omega
  · omega
theorem part_in {sh lv : Int} (pl c : Int) (h0 : 0 ≤ sh) (h1 : sh < 9) (h2 : 0 ≤ lv) (h3 : lv < 9) : 0 ≤ partI pl sh lv c ∧ partI pl sh lv c ≤ 1024 := by
  have hd := dW_in pl c
  unfold partI
  generalize dW pl c = d at hd
  have e1 : 0 ≤ sh * d := Int.mul_nonneg h0 hd.1
  have e2 : sh * d ≤ 128 := by
    have : sh * d ≤ 8 * 16 := Int.mul_le_mul (by (clear h0 h2 h3 hd e1; omega)) hd.2 hd.1 (by decide)
    (clear h0 h1 h2 h3 hd e1; omega)
  generalize sh * d = e at e1 e2
  constructor
  · exact Int.mul_nonneg h2 (by (clear h0 h1 h2 h3 hd e1; omega))
  · have : lv * (128 - e) ≤ 8 * 128 := Int.mul_le_mul (by (clear h0 h1 h2 hd e1 e2; omega)) (by (clear h0 h1 h2 h3 hd e2; omega)) (by (clear h0 h1 h2 h3 hd e1; omega)) (by decide)
    (clear h0 h1 h2 h3 hd e1 e2; omega)
theorem part_lt {pl c sh lv : Int} (h0 : 0 ≤ sh) (h1 : sh < 9) (h2 : 0 ≤ lv) (h3 : lv < 9) : (partI pl sh lv c).natAbs < 2 ^ 60 := by
  have := part_in pl c h0 h1 h2 h3
  (clear h0 h1 h2 h3; omega)
theorem wheel_con (w : World) (pl sh lv : Int) (t1 t2 t3 : Tok) (hb0 : 0 ≤ pl) (hb1 : pl < 16000016) (hb2 : 0 ≤ sh) (hb3 : sh < 9) (hb4 : 0 ≤ lv) (hb5 : lv < 9)
    (hz : PySem.Challenge.rw_ny0075_01 = PySem.Challenge.rw_ny0075_01) : Con w 42 1 20 [.int pl t1, .int sh t2, .int lv t3] (Tup (Flo3 (fdivI (partI pl sh lv 0) 1024) (fdivI (partI pl sh lv 32) 1024) (fdivI (partI pl sh lv 64) 1024))) := by
  unfold Con
  w_on
  revert hz
  k_fill
  intro hz mean mg mb dp un gd cn cs a ccd cl outer A₀ base h₀ L m news s Q E B F X N T hk hd hu hret
  w_strict (
    refine wpAny_call ?_
    k_dflt ((refine' enterE ?k1 ?k2 ?k3 ?k5 ?kA ?kF ?kK ?k6 ?k7 ?k8 ?k9 ?kB ?_ ?c2 ?c3 ?c4 ?c5; (case kA => exact rfl); (case kF => exact rfl); (case kK => assumption); (case k1 => k_asm); (case k2 => k_asm); (case k3 => k_asm); (case k5 => k_asm); (case k6 => k_is); (case k7 => k_is); (case k8 => ktr_room); (case k9 => exact BindsTo.of_eq rfl); (case c5 => decide); (case kB => exact locs rfl); (case c2 => exact rfl); (case c3 => exact rfl); (case c4 => exact rfl); k_whole; intro L' h' F' N' B' X' T'; (try dsimp only); (try k_lift B'); (try k_fold)))
    k_steps
    all_goals first
    | exact fin_all (by assumption) (part_lt hb2 hb3 hb4 hb5) (by decide)
    | skip
    refine finT (L' := L') hret N (by assumption) (by assumption) (by assumption) (by k_mem) (ltN (by (clear hb0 hb1 hb2 hb3 hb4 hb5 hz hk hd hu; omega))) ?_
    exact ⟨_, _, _, ⟨by first | exact Nat.succ_ne_zero _ | assumption, by first | exact Nat.succ_ne_zero _ | assumption, by first | exact Nat.succ_ne_zero _ | assumption⟩, rfl⟩)
end Mine
end
end
section
open PySem PySem.W PyProof.Rows PySem.Calls
set_option maxRecDepth 100000
set_option maxHeartbeats 8000000
namespace Mine
noncomputable abbrev bodyOf {q : Program} {l : List Str} {XP : (Str → Option Value) → Heap → Prop} {YP : World → Heap → Prop} {r : RowW} {d : DefRec} {k : List (Str × Expr)} {P : Prop} (_ : WalkC q l XP YP r d k → P) : List Stmt := d.body
noncomputable abbrev scopeOf {q : Program} {l : List Str} {XP : (Str → Option Value) → Heap → Prop} {YP : World → Heap → Prop} {r : RowW} {d : DefRec} {k : List (Str × Expr)} {P : Prop} (_ : WalkC q l XP YP r d k → P) : Scope := d.scope
noncomputable def lawB : List Stmt := bodyOf Mine.hd
noncomputable def lawS : Scope := scopeOf Mine.hd
noncomputable abbrev lawEnv (L fa : Addr) (cd : Value) : Env := envOfC (Str.ofString "law") lawS L fa cd
noncomputable abbrev lawA (L fa : Addr) (cd : Value) : Around := callerA.deeper (lawEnv L fa cd)
/-- what the law's body has to do -/
noncomputable def LawOk (w : World) : Prop :=
  ∀ (mean : ExcName → Option Value) (mg mb : Str → Option Value) (h₀ : Heap) (L fa : Addr) (cd : Value) (a : Addr) (vs : List Value) (ns : List Int) (s : Shared) (oH oT : Obj),
    Top Mine.view (looseW Mine.view []) mean mg mb h₀ → (Mine.hd.heap_1 w.params).In h₀ → h₀.IsList a vs.toArray → IntsAre vs ns → ns.length ≤ 63 →
    Fr h₀ L s.heap (fun y => if y = Str.ofString "script" then some (.ref a) else none) → News h₀ L s.heap [(L + 2, oT), (L + 1, oH)] → oT.data = .cell none → oH.data = .cell none →
    wpC (model PySem.Challenge.rw_ny0075_01.row.prog w) (lawA L fa cd) (execs lawB (lawEnv L fa cd))
      (fun f s' => f = .ret (.bool true) ∧ (∀ b o, h₀.get? b = some o → s'.heap.get? b = some o) ∧ s'.os = s.os ∧ s'.gens = s.gens) (fun _ _ => False) s
theorem law_from (hlaw : ∀ w, LawOk w) : PySem.Challenge.rw_ny0075_01.Holds := by
  refine Mine.hd ?_
  w_on
  w_strict (
  k_fill
  intro w s₀ s₁ mg mb G Y fa o pm cd doc dV kV ho hd hcd hD hmg hg args vals as hpre hlay hrd hwl hlo
  have KX := kIn_of Y
  have X := (Ground.X G).1
  have V := (Ground.X G).2
  refine Ground.open G ?_
  intro T B D TE TW
  try (refine guard_noD D (by decide +kernel) ?_; clear D)
  clear hmg
  wrow_args hpre hlay hrd hwl hlo
  refine wpC.call (codeC.mono (R := fun r s' => r = .ok (.ret (.bool true)) ∧ (∀ b o, s₁.heap.get? b = some o → s'.heap.get? b = some o) ∧ s'.os = s₁.os ∧ s'.gens = #[]) ?_ ?_)
  rotate_left
  · intro r s' hr
    obtain ⟨rfl, h1, h2, h3⟩ := hr
    exact GoodW.toG ⟨.inl ⟨_, .bool true, [], rfl, fun _ => rfl, ReadsW.bool _, (by wrow_post), unshared_nil⟩, h1, h2, h3⟩
  have he := Dflts.none hD rfl; subst he; have he := Dflts.noKw hD; subst he
  refine enterCells_C (by decide) ho (fd_plain hd) (Top.nolimit T) hcd rfl (kinds_of (by kinds_ok)) (by decide) ?_ rfl rfl rfl
  intro h₁ tk₁ cells F N0 X0
  cells_open X0
  rename_i _ _ e1 e2
  refine wpC.mono (hlaw w _ _ _ _ _ _ _ _ _ _ _ _ _ T KX (by assumption) (by assumption) (by omega) ?_ N0 ?_ ?_) (fun f s' hf => ?_) (fun _ _ x => x)
  · refine cast ?_ F
    congr 1
  · exact e1.trans rfl
  · exact e2.trans rfl
  · obtain ⟨rfl, h1, h2, h3⟩ := hf
    exact ⟨rfl, h1, h2, h3.trans hg⟩)
end Mine
end
section
open PySem PySem.W PyProof.Rows PySem.Calls
set_option maxRecDepth 100000
namespace Mine
/-- a text of ASCII signs -/
noncomputable def Asc (x : Str) : Prop := ∀ c ∈ x.cps.toList, c < 128
theorem Asc.append {x y : Str} (hx : Asc x) (hy : Asc y) : Asc (x ++ y) := fun c hc => by
  rw [Str.cps_append, Array.toList_append] at hc
  rcases List.mem_append.mp hc with h | h
  · exact hx c h
  · exact hy c h
theorem Asc.join {sep : Str} (hs : Asc sep) : ∀ {l : List Str}, (∀ x ∈ l, Asc x) → Asc (Str.join sep l)
  | [], _ => fun c hc => nomatch hc
  | [x], h => h x (List.Mem.head _)
  | x :: y :: r, h => ((h x (List.Mem.head _)).append hs).append (Asc.join hs fun z hz => h z (List.Mem.tail _ hz))
theorem Asc.ok {x : Str} (h : Asc x) : PyData.strOk x = true := by
  unfold PyData.strOk
  rw [Array.all_eq_true']
  intro c hc
  exact decide_eq_true (Nat.lt_trans (h c (Array.mem_toList_iff.mpr hc)) (by decide))
theorem txt_join (sep : Str) (l : List Str) : Txt.join sep l = Str.join sep l := StrLaws.glued_eq_join sep l
theorem asc_strI {n : Int} (h : 0 ≤ n) : Asc (strI n) := fun c hc => by
  have := strI_digits h c hc
  omega
theorem asc_chr (k : Int) : Asc ⟨#[(32 + k.fmod 95).toNat]⟩ := fun c hc => by
  have e : c = (32 + k.fmod 95).toNat := by simpa using hc
  have h1 : 0 ≤ k.fmod 95 := Int.fmod_nonneg_of_pos _ (by decide)
  have h2 : k.fmod 95 < 95 := Int.fmod_lt_of_pos _ (by decide)
  omega
end Mine
end
section
open PySem PySem.W PyProof.Rows PySem.Calls
set_option maxRecDepth 100000
set_option maxHeartbeats 8000000
namespace Mine
noncomputable abbrev hdS : List Stmt → Stmt
  | s :: _ => s
  | [] => default
noncomputable abbrev nthS (l : List Stmt) (n : Nat) : Stmt := hdS (l.drop n)
noncomputable def lawP : Nat → Stmt := nthS lawB
noncomputable def Same (s s' : Shared) : Prop := s'.gens = s.gens ∧ s'.os = s.os
theorem wpC.step {M : Model} {A : Around} {E : Value → Shared → Prop} {s : Shared} {env : Env} {st : Stmt} {rest : List Stmt} {Q : Flow → Shared → Prop} (I : Shared → Prop)
    (h1 : wpC M A (exec st env) (fun f s' => f = .next ∧ I s') E s) (h2 : ∀ s', I s' → wpC M A (PySem.execs rest env) Q E s') : wpC M A (PySem.execs (st :: rest) env) Q E s :=
  wpC.execs (h1.mono (fun f s' h => by obtain ⟨rfl, h⟩ := h; exact h2 s' h) fun _ _ x => x)
noncomputable def P1 (h₀ : Heap) (L a : Addr) (oT oH : Obj) (s : Shared) (f : Flow) (s' : Shared) : Prop :=
  f = .next ∧ Same s s' ∧ News h₀ L s'.heap [(L + 2, oT), (L + 1, oH)] ∧ ∃ x t, Asc x ∧ Fr h₀ L s'.heap (fun y => if y = Str.ofString "strange" then some (.str x t) else if y = Str.ofString "script" then some (.ref a) else none)
noncomputable def chrG (k : Int) : Str := ⟨#[(32 + k.fmod 95).toNat]⟩
local macro_rules | `(tactic| walk_at "CompSrc") => `(tactic| (k_here; (try k_fmods); (try kcf_lens); (refine LCg.CompSrc.ledger (by rfl) (by k_asm) (by k_asm) (by k_mem) (by rw [sizeLine_eq, List.size_toArray]; omega) ?_; intro g'; (refine kct_list chrG (by assumption) (fun k' t' I' oI' C' oC' D' m' ys' h' tk' E' hk' hC' hx' F' N' off' ne' hMark' => ?_) ?_); (all_goals (try (simp only [LCg.Off3, and_true] at off'))))))
local macro_rules | `(tactic| walk_at "eval ListComp") => `(tactic| (k_here; k_dflt (refine LCg.ListComp_U (F₀ := by k_asm) (by with_unfolding_all rfl) (by decide) (by rfl) (by decide) (by rfl) ?_)))
theorem asc_j (l : List Int) : Asc (Txt.join (Str.ofString "") (l.map chrG)) := by
  rw [txt_join]
  refine Asc.join (fun c hc => ?_) fun x hx => ?_
  · have e : (Str.ofString "").cps.toList = [] := by decide +kernel
    rw [e] at hc
    exact nomatch hc
  · obtain ⟨k, _, rfl⟩ := List.mem_map.mp hx
    exact asc_chr k
theorem S1 (w : World) (mean : ExcName → Option Value) (mg mb : Str → Option Value) (h₀ : Heap) (L fa : Addr) (cd : Value) (a : Addr) (vs : List Value) (ns : List Int) (s : Shared) (oH oT : Obj)
    (T : Top Mine.view (looseW Mine.view []) mean mg mb h₀) (X : (Mine.hd.heap_1 w.params).In h₀) (hL : h₀.IsList a vs.toArray) (hI : IntsAre vs ns) (hlen : ns.length ≤ 63)
    (F : Fr h₀ L s.heap (fun y => if y = Str.ofString "script" then some (.ref a) else none)) (N : News h₀ L s.heap [(L + 2, oT), (L + 1, oH)])
    (hz : PySem.Challenge.rw_ny0075_01 = PySem.Challenge.rw_ny0075_01) :
    wpAny (model PySem.Challenge.rw_ny0075_01.row.prog w) (lawA L fa cd) (exec (lawP 0) (lawEnv L fa cd))
      (P1 h₀ L a oT oH s) (fun _ _ => False) s := by
  w_on
  revert X hz
  k_fill
  intro X hz
  have K0 := below_caller h₀
  dsimp only [lawP, lawB, nthS, hdS, bodyOf, List.drop, lawA, lawEnv, lawS, scopeOf]
  w_top on
  w_strict (
    iterate 15 (first | walk1 | (dsimp only; walk1))
    (try k_fmods)
    (try kcf_lens)
    refine LCg.CompSrc.ledger (by rfl) (by k_asm) (by k_asm) (by k_mem) (by rw [sizeLine_eq, List.size_toArray]; omega) ?_
    intro g'
    refine kct_list chrG (by assumption) (fun k1 t1 I1 oI1 C1 oC1 D1 m1 ys1 h1 tk1 E1 hk1 hC1 hx1 F1 N1 off1 ne1 hMark1 => ?_) ?_
    · simp only [LCg.Off3, and_true] at off1
      k_steps
      exact kct_el rfl rfl rfl
    · unfold KPfDone
      intro ys hcar hlq
      rw [List.size_toArray] at hlq
      k_steps
      dsimp only [List.cons_append, List.nil_append]
      refine KT.join_1 (News.isList (by k_asm) (by k_mem)) hcar (by intro a m; rfl) (by omega) ?_
      intro t1 k1 e1
      k_steps
      exact ⟨rfl, ⟨rfl, rfl⟩, (fun p hp => (by assumption : News h₀ L _ _) p (List.Mem.tail _ (List.Mem.tail _ hp))), _, _, asc_j _, by assumption⟩)
end Mine
end
section
open PySem PySem.W PyProof.Rows PySem.Calls
set_option maxRecDepth 100000
set_option maxHeartbeats 8000000
namespace Mine
local macro_rules | `(tactic| walk_at "newTuple") => `(tactic| (k_here; k_dflt (refine' newTuple_E ?F ?N ?_ ?z; (case F => k_asm); (case N => k_asm); (case z => kmk_size)); intro D' h' F' N' l1 l2; (try k_lt l1); (try k_lt2 l2); (try k_sweep)))

noncomputable def NotOdd (x : Str) : Prop := (x == Str.ofString "SunOS") = false ∧ ([Str.ofString "win32", Str.ofString "win16"].any fun y => y == x) = false
theorem Fr.eqm {h₀ h : Heap} {L : Addr} {m m' : Str → Option Value} (F : Fr h₀ L h m) (e : ∀ y, m y = m' y) : Fr h₀ L h m' := (funext e : m = m') ▸ F
theorem notOdd_of {x : Str} (h : ([Str.ofString "SunOS", Str.ofString "win32", Str.ofString "win16"].any fun y => y == x) = false) : NotOdd x := by
  simp only [List.any_cons, List.any_nil, Bool.or_false, Bool.or_eq_false_iff] at h
  obtain ⟨h1, h2, h3⟩ := h
  refine ⟨?_, ?_⟩
  · rw [beq_eq_false_iff_ne] at h1 ⊢
    exact Ne.symm h1
  · simp only [List.any_cons, List.any_nil, Bool.or_false, Bool.or_eq_false_iff]
    exact ⟨h2, h3⟩
noncomputable def P2 (h₀ : Heap) (L a : Addr) (oT oH : Obj) (s : Shared) (f : Flow) (s' : Shared) : Prop :=
  f = .next ∧ Same s s' ∧ News h₀ L s'.heap [(L + 2, oT), (L + 1, oH)] ∧ ∃ x t, NotOdd x ∧ Asc x ∧ Fr h₀ L s'.heap (fun y => if y = Str.ofString "strange" then some (.str x t) else if y = Str.ofString "script" then some (.ref a) else none)
theorem S2 (w : World) (mean : ExcName → Option Value) (mg mb : Str → Option Value) (h₀ : Heap) (L fa : Addr) (cd : Value) (s : Shared)
    (T : Top Mine.view (looseW Mine.view []) mean mg mb h₀) (X : (Mine.hd.heap_1 w.params).In h₀)
    (a : Addr) (oH oT : Obj) (x : Str) (t : Tok) (hx : Asc x)
    (F : Fr h₀ L s.heap (fun y => if y = Str.ofString "strange" then some (.str x t) else if y = Str.ofString "script" then some (.ref a) else none)) (N : News h₀ L s.heap [(L + 2, oT), (L + 1, oH)])
    (hz : PySem.Challenge.rw_ny0075_01 = PySem.Challenge.rw_ny0075_01) :
    wpAny (model PySem.Challenge.rw_ny0075_01.row.prog w) (lawA L fa cd) (exec (lawP 1) (lawEnv L fa cd))
      (P2 h₀ L a oT oH s) (fun _ _ => False) s := by
  w_on
  revert X hz
  k_fill
  intro X hz
  have K0 := below_caller h₀
  dsimp only [lawP, lawB, nthS, hdS, bodyOf, List.drop, lawA, lawEnv, lawS, scopeOf]
  w_top on
  w_strict (
    k_steps
    · exact ⟨rfl, ⟨rfl, rfl⟩, (fun p hp => (by assumption : News h₀ L _ _) p (List.Mem.tail _ hp)), Str.ofString "Rhapsody", _, ⟨by decide +kernel, by decide +kernel⟩, (by unfold Asc; decide +kernel), Fr.eqm (by assumption) (fun y => by (repeat' split) <;> first | rfl | contradiction)⟩
    · exact ⟨rfl, ⟨rfl, rfl⟩, (fun p hp => (by assumption : News h₀ L _ _) p (List.Mem.tail _ hp)), _, _, notOdd_of (by assumption), hx, by assumption⟩)
end Mine
end
section
open PySem PySem.W PyProof.Rows PySem.Calls
open PySem.Sem (wp)
set_option maxRecDepth 100000
set_option maxHeartbeats 4000000
namespace Mine
/-- what a turn's end owes: it goes on, the iterator's own things stand, the invariant holds -/
noncomputable def TurnEnd (h₀ : Heap) (L : Addr) (wr : List Addr) (own : List (Addr × Obj)) (J : (Str → Option Value) → List (Addr × Obj) → Prop) (s : Shared) (f : Flow) (s₃ : Shared) : Prop :=
  f = .next ∧ ∃ m₂ news₂, (s₃.gens = s.gens ∧ s₃.os = s.os) ∧ Fr h₀ L s₃.heap m₂ ∧ News h₀ L s₃.heap (own ++ news₂) ∧ (∀ p ∈ news₂, p.1 ∉ wr) ∧ J m₂ news₂
/-- a for under the claim's caller: no turn leaves it, nothing raises -/
theorem turns_C {prog : Program} {w : World} {A : Around} {s : Shared} {env : Env} {h₀ : Heap} {target : Expr} {body : List Stmt} {R : Result → Shared → Prop} {I : Addr} {fp wr : List Addr} {n : Nat} {P Md : Nat → Value → Heap → Prop} {St : Nat → Heap → Prop} {m : Str → Option Value} {news : List (Addr × Obj)} (W : KTurns prog w A target I fp wr n P Md St)
    (hLf : env.locals ∉ fp) (hwr : ∀ b ∈ wr, h₀.get? b = none) (hnw : ∀ p ∈ news, p.1 ∉ wr) (hst : St 0 s.heap) (F : Fr h₀ env.locals s.heap m) (N : News h₀ env.locals s.heap news)
    (J : Nat → (Str → Option Value) → List (Addr × Obj) → Prop) (h0 : J 0 m news)
    (step : ∀ i v m₁ news₁ s₁ own, i < n → P i v s₁.heap → J i m₁ news₁ → (∀ p ∈ news₁, p.1 ∉ wr) → (∀ p ∈ own, p.1 ∈ fp) → (∀ b ∈ fp, ∀ o, h₀.get? b = none → s₁.heap.get? b = some o → (b, o) ∈ own) → St (i + 1) s₁.heap → (s₁.gens = s.gens ∧ s₁.os = s.os) →
      Fr h₀ env.locals s₁.heap m₁ → News h₀ env.locals s₁.heap (own ++ news₁) →
      wpAny (model prog w) A (assign target env v) (fun _ s₂ => wpC (model prog w) A (execs body env) (TurnEnd h₀ env.locals wr own (J (i + 1)) s) (fun _ _ => False) s₂) (fun _ _ => False) s₁)
    (hR : ∀ s' m' news', (s'.gens = s.gens ∧ s'.os = s.os) → Fr h₀ env.locals s'.heap m' → News h₀ env.locals s'.heap news' → J n m' news' → R (.ok .next) s') :
    codeC (model prog w) A (.forLoop target (.ref I) body [] env) R s := by
  have hLw : env.locals ∉ wr := fun h => hLf (W.sub _ h)
  have old : ∀ b o, h₀.get? b = some o → b ∉ wr := fun b o e hb => by rw [hwr b hb] at e; cases e
  refine codeC.forLoop
    (fun k s' => ∃ m' news' i, (s'.gens = s.gens ∧ s'.os = s.os) ∧ St i s'.heap ∧ Fr h₀ env.locals s'.heap m' ∧ News h₀ env.locals s'.heap news' ∧ (∀ p ∈ news', p.1 ∉ wr) ∧ J i m' news' ∧ i ≤ n ∧ k = n + 1 - i) ?_ (n + 1)
    ⟨m, news, 0, ⟨rfl, rfl⟩, hst, F, N, hnw, h0, Nat.zero_le _, rfl⟩
  rintro k s' ⟨m', news', i, hsm, hst', F', N', hnw', hJ, hi, rfl⟩
  have next : ∀ h₁ : Heap, (∀ b o, b ∉ wr → s'.heap.get? b = some o → h₁.get? b = some o) → Fr h₀ env.locals h₁ m' ∧ News h₀ env.locals h₁ news' := fun h₁ hk₁ =>
    ⟨⟨F'.ns.at' fun o e => hk₁ _ o hLw e, fun b o e => hk₁ b o (old b o e) (F'.keep b o e), F'.above⟩, fun p hp => ⟨hk₁ _ _ (hnw' p hp) (N' p hp).1, (N' p hp).2⟩⟩
  by_cases hlt : i < n
  · refine W.item i _ _ _ hlt hst' fun v h₁ tk₁ hMd hk₁ => ?_
    refine W.go i v _ _ _ hMd fun h₂ hP hst₂ hk₂ => ?_
    obtain ⟨F₂, N₂⟩ := next h₂ fun b o hb x => hk₂ b o hb (hk₁ b o hb x)
    have Nown : News h₀ env.locals h₂ (PyProof.Rows.ownOf h₀ fp h₂) := news_ownOf hLf
    refine wpAny_mono (step i v m' news' { s' with heap := h₂, toks := tk₁ } (PyProof.Rows.ownOf h₀ fp h₂) hlt hP hJ hnw' ownOf_sub (fun b hb o hn e => mem_ownOf hb hn e) hst₂ hsm F₂ (Nown.append N₂)) (fun _ s₂ h₂' => wpC.mono h₂' (fun f s₃ h₃ => ?_) fun _ _ e => e) fun _ _ e => e
    obtain ⟨rfl, m₂, news₂, hs₃, F₃, N₃, ha₃, hJ₃⟩ := h₃
    refine ⟨n + 1 - (i + 1), by omega, m₂, news₂, i + 1, hs₃, ?_, F₃, N₃.right, ha₃, hJ₃, hlt, rfl⟩
    refine W.frame _ _ _ hst₂ fun b hb o e => ?_
    cases hn : h₀.get? b with
    | some o₀ =>
      have : o₀ = o := by have q := F₂.keep b o₀ hn; rw [e] at q; exact (Option.some.inj q).symm
      exact this ▸ F₃.keep b o₀ hn
    | none => exact (N₃ _ (List.mem_append_left _ (mem_ownOf hb hn e))).1
  · have hin : i = n := by omega
    subst hin
    refine W.done _ _ _ hst' fun h₁ tk₁ hk₁ => ?_
    obtain ⟨F₁, N₁⟩ := next h₁ hk₁
    exact hR _ m' news' hsm F₁ N₁ hJ
end Mine
end
section
open PySem PySem.W PyProof.Rows PySem.Calls
open PySem.Sem (wp)
set_option maxRecDepth 100000
set_option maxHeartbeats 4000000
namespace Mine
/-- a turn's end -/
noncomputable def TurnL (h₀ : Heap) (L I ax : Addr) (lo : Obj) (own : List (Addr × Obj)) (J : (Str → Option Value) → List (Addr × Obj) → Prop) (s : Shared) (f : Flow) (s₃ : Shared) : Prop :=
  f = .next ∧ ∃ m₂ news₂, (s₃.gens = s.gens ∧ s₃.os = s.os) ∧ Fr h₀ L s₃.heap m₂ ∧ News h₀ L s₃.heap (own ++ (ax, lo) :: news₂) ∧ (∀ p ∈ news₂, p.1 ≠ I) ∧ J m₂ news₂
/-- a for over a list of the ledger, under the claim's caller -/
theorem iterList_C {prog : Program} {w : World} {A : Around} {s : Shared} {env : Env} {h₀ : Heap} {target : Expr} {body : List Stmt} {R : Result → Shared → Prop} {E : Value → Shared → Prop} {ax : Addr} {lo : Obj} {vs : List Value} {n : Nat} {m : Str → Option Value} {news : List (Addr × Obj)}
    (hh : A.handled = none) (F : Fr h₀ env.locals s.heap m) (N : News h₀ env.locals s.heap ((ax, lo) :: news)) (hc : lo.cls = .type "list") (hd : lo.data = .seq vs.toArray n)
    (J : Nat → (Str → Option Value) → List (Addr × Obj) → Prop) (h0 : J 0 m news)
    (step : ∀ I, (∀ p ∈ news, p.1 < I) → ax < I → env.locals < I → ∀ i v m₁ news₁ s₁ own, vs[i]? = some v → J i m₁ news₁ → (∀ p ∈ news₁, p.1 ≠ I) → (∀ p ∈ own, p.1 = I ∨ p.1 = ax) → (∃ o, (I, o) ∈ own) → (s₁.gens = s.gens ∧ s₁.os = s.os) →
      Fr h₀ env.locals s₁.heap m₁ → News h₀ env.locals s₁.heap (own ++ (ax, lo) :: news₁) →
      wpAny (model prog w) A (assign target env v) (fun _ s₂ => wpC (model prog w) A (execs body env)
        (TurnL h₀ env.locals I ax lo own (J (i + 1)) s) (fun _ _ => False) s₂) (fun _ _ => False) s₁)
    (hR : ∀ s' m' news', (s'.gens = s.gens ∧ s'.os = s.os) → Fr h₀ env.locals s'.heap m' → News h₀ env.locals s'.heap ((ax, lo) :: news') → J vs.length m' news' → R (.ok .next) s') :
    wpAny (model prog w) A (pyIter (.ref ax)) (fun it s₂ => codeC (model prog w) A (.forLoop target it body [] env) R s₂) E s := by
  have hax := N _ (List.Mem.head _)
  have hl : s.heap.IsList ax vs.toArray := ⟨lo, hax.1, hc, n, hd⟩
  have hlt : ax < s.heap.objs.size := Heap.lt_size hax.1
  have hne : ax ≠ s.heap.objs.size := Nat.ne_of_lt hlt
  have hlL : env.locals < s.heap.objs.size := F.ns.lt
  refine wpAny_pyIter_list hl ?_
  refine turns_C (KTurns.ofWalks (Walks.list hh s.heap.objs.size ax hne vs.toArray) fun i v s Q E st q => letGo_listiter st.1 q) (m := m) (news := (ax, lo) :: news) ?_ ?_ ?_ ?_ (F.push _) (fun p hp => ⟨Heap.get?_push_of_some _ (N p hp).1, (N p hp).2⟩)
    (fun i m₁ nw => ∃ nw', nw = (ax, lo) :: nw' ∧ (∀ p ∈ nw', p.1 ≠ s.heap.objs.size) ∧ J i m₁ nw') ⟨news, rfl, fun p hp => Nat.ne_of_lt (Heap.lt_size (N p (List.Mem.tail _ hp)).1), h0⟩ ?_ ?_
  · intro hI
    rcases List.mem_cons.mp hI with e | hI
    · exact absurd F.ns.lt (e ▸ Nat.lt_irrefl _)
    · exact hax.2.1 (List.mem_singleton.mp hI).symm
  · intro b hb
    rw [List.mem_singleton.mp hb]
    exact next_is_new F
  · intro p hp hI
    exact absurd (Heap.lt_size (N p hp).1) ((List.mem_singleton.mp hI) ▸ Nat.lt_irrefl _)
  · exact ⟨⟨_, Heap.get?_push_size _ rfl, rfl, rfl⟩, hl.at fun o e => Heap.get?_push_of_some _ e⟩
  · intro i v m₁ news₁ s₁ own hi hP hJ hnw hown hmem hst hsm F₁ N₁
    obtain ⟨nw', rfl, hne', hJ'⟩ := hJ
    have hP' : vs.toArray[i]? = some v := hP
    refine wpAny_mono (step s.heap.objs.size (fun p hp => Heap.lt_size (N p (List.Mem.tail _ hp)).1) hlt hlL i v m₁ nw' s₁ own (by simpa using hP') hJ' hne' (fun p hp => by simpa using hown p hp) (by obtain ⟨o, e, _⟩ := hst.1; exact ⟨o, hmem _ (by simp) o (next_is_new F) e⟩) hsm F₁ N₁) (fun _ s₂ h₂ => wpC.mono h₂ (fun f s₃ h₃ => ?_) fun _ _ x => x) fun _ _ x => x
    obtain ⟨rfl, m₂, news₂, hs₃, F₃, N₃, ha₃, hJ₃⟩ := h₃
    refine ⟨rfl, m₂, (ax, lo) :: news₂, hs₃, F₃, N₃, fun p hp hI => ?_, news₂, rfl, ha₃, hJ₃⟩
    rcases List.mem_cons.mp hp with rfl | hp
    · exact hne (List.mem_singleton.mp hI)
    · exact ha₃ p hp (List.mem_singleton.mp hI)
  · intro s' m' news' hsm F' N' hJ
    obtain ⟨nw', rfl, _, hJ'⟩ := hJ
    rw [List.size_toArray] at hJ'
    exact hR s' m' nw' hsm F' N' hJ'
end Mine
end
section
open PySem PySem.W PyProof.Rows PySem.Calls PySem.Spec
set_option maxRecDepth 100000
set_option maxHeartbeats 4000000
namespace Mine
theorem shaped3 {a b c : Str} (o1 : PyData.strOk a = true) (o2 : PyData.strOk b = true) (o3 : PyData.strOk c = true) : SeqAt.shaped (.tuple [.str a, .str b, .str c]) = true := by
  unfold SeqAt.shaped
  have e : PyData.canLay0 (.tuple [.str a, .str b, .str c]) = (PyData.strOk a && (PyData.strOk b && (PyData.strOk c && true))) := by simp [PyData.canLay0, PyData.canLayAll0]
  have d : PyData.depth (.tuple [.str a, .str b, .str c]) ≤ 64 := by simp [PyData.depth, PyData.depthAll]
  rw [e, o1, o2, o3, decide_eq_true d]
  rfl
/-- two tuples of the same three texts -/
theorem ne_str3 {prog : Program} {w : World} {A : Around} {E : Value → Shared → Prop} {s : Shared} {h₀ : Heap} {L D1 D2 : Addr} {news : List (Addr × Obj)} {a b c : Str} {t1 t2 t3 u1 u2 u3 : Tok} {k1 k2 : Nat} {Q : Value → Shared → Prop}
    (N : News h₀ L s.heap news) (m1 : (D1, tupO [.str a t1, .str b t2, .str c t3] k1) ∈ news) (m2 : (D2, tupO [.str a u1, .str b u2, .str c u3] k2) ∈ news) (hu : A.units + 64 < cLine) (o1 : PyData.strOk a = true) (o2 : PyData.strOk b = true) (o3 : PyData.strOk c = true)
    (h : Q (.bool false) s) : wpAny (model prog w) A (compareOp .NotEq (.ref D1) (.ref D2)) Q E s := by
  refine ne_dataH (reads_tuple_at (xs := [.str a, .str b, .str c]) (N.get m1) rfl rfl (.cons (.str _ _) (.cons (.str _ _) (.cons (.str _ _) .nil)))) (reads_tuple_at (xs := [.str a, .str b, .str c]) (N.get m2) rfl rfl (.cons (.str _ _) (.cons (.str _ _) (.cons (.str _ _) .nil)))) ?s ?s2 hu ?_
  case s => exact shaped3 o1 o2 o3
  case s2 => exact shaped3 o1 o2 o3
  simp only [PyData.eqv, PyData.eqvAll, beq_self_eq_true, Bool.and_true, Bool.not_true]
  exact h
end Mine
end
section
open PySem PySem.W PyProof.Rows PySem.Calls
set_option maxRecDepth 100000
set_option maxHeartbeats 8000000
namespace Mine
noncomputable abbrev forBody : Stmt → List Stmt
  | .For _ _ b _ _ => b
  | _ => []
/-- a statement's end that leaves the frame and the ledger as they are told -/
noncomputable def Q0 (h₀ : Heap) (L : Addr) (m : Str → Option Value) (news : List (Addr × Obj)) (s : Shared) (f : Flow) (s' : Shared) : Prop :=
  f = .next ∧ Same s s' ∧ Fr h₀ L s'.heap m ∧ News h₀ L s'.heap news
noncomputable def upd (m : Str → Option Value) (x : Str) (v : Value) : Str → Option Value := fun z => if z = x then some v else m z
theorem upd_at {m : Str → Option Value} {x : Str} {v : Value} : upd m x v x = some v := if_pos rfl
theorem upd_ne {m : Str → Option Value} {x y : Str} {v : Value} {o : Option Value} (h : (y == x) = false) (e : m y = o) : upd m x v y = o := (if_neg (beq_eq_false_iff_ne.mp h)).trans e
theorem Fr.put {h₀ h : Heap} {L : Addr} {m : Str → Option Value} (x : Str) {v : Value} (F : Fr h₀ L h m) (e : m x = some v) : Fr h₀ L h (fun z => if z = x then some v else m z) :=
  Fr.eqm F fun y => by
    split
    · next q => rw [q]; exact e
    · rfl
/-- a call's contract, used in the law's own frame -/
theorem Con.useL {w : World} {f : Addr} {d u : Nat} {vs : List Value} {P : Value → List (Addr × Obj) → Prop} (C : Con w f d u vs P) (hd : d ≤ 90) (hu : u ≤ 90)
    {mean : ExcName → Option Value} {mg mb : Str → Option Value} {cn : Str} {cs : Scope} {a : Addr} {ccd : Value}
    {h₀ : Heap} {L : Addr} {m : Str → Option Value} {news : List (Addr × Obj)} {s : Shared} {Q E : Value → Shared → Prop}
    (F : Fr h₀ L s.heap m) (X : (Mine.hd.heap_1 w.params).In h₀) (N : News h₀ L s.heap news)
    (T : Top Mine.view (looseW Mine.view []) mean mg mb h₀) (hk : cs.kind = .function)
    (ret : ∀ r tl h' tk', P r tl → Fr h₀ L h' m → News h₀ L h' (tl ++ news) → (∀ p ∈ tl, ∀ q ∈ news, q.1 < p.1) → Q r { s with heap := h', toks := tk' }) :
    wpAny (model PySem.Challenge.rw_ny0075_01.row.prog w) (callerA.deeper (envOfC cn cs L a ccd)) (call (.ref f) vs) Q E s :=
by
  have hd1 : 1 + claimMargin + 1 + d < recursionLimit := by
    have : 1 + claimMargin + 1 + 90 < recursionLimit := by decide +kernel
    omega
  have hu1 : 4 + 3 + u < cLine := by
    have : 4 + 3 + 90 < cLine := by decide +kernel
    omega
  have e : callerA.deeper (envOfC cn cs L a ccd) = ktrTop (1 + claimMargin + 1) (4 + 3) (some []) cn cs L a ccd (cellsFrom (L + 1) cs.names []) [] := rfl
  rw [e]
  exact C mean mg mb _ _ _ _ _ _ _ _ _ callerA h₀ h₀ L m news s Q E (below_caller h₀) F X N T hk hd1 hu1 ret
noncomputable def AlC (w : World) (sy re ve sy' re' ve' : Str) : Prop := ∀ t1 t2 t3, Con w 21 1 20 [.str sy t1, .str re t2, .str ve t3] (Tup (Str3 sy' re' ve'))
noncomputable def RiC (w : World) (wh re : Int) (x : Str) : Prop := ∀ t1 t2, Con w 56 1 20 [.int wh t1, .int re t2] (fun r tl => IsStr x r ∧ tl = [])
noncomputable def TiC (w : World) (wh n : Int) : Prop := ∀ t1, Con w 63 1 20 [.int wh t1] (fun r tl => IsInt n r ∧ tl = [])
noncomputable def CoC (w : World) (ri sd : Str) (x y z : UInt64) : Prop := ∀ t1 t2, Con w 68 2 60 [.str ri t1, .str sd t2] (Tup (Flo3 x y z))
noncomputable def WhC (w : World) (pl sh lv : Int) (x y z : UInt64) : Prop := ∀ t1 t2 t3, Con w 42 1 20 [.int pl t1, .int sh t2, .int lv t3] (Tup (Flo3 x y z))
noncomputable def HsC (w : World) (h sa v x y z : UInt64) : Prop := ∀ t1 t2 t3, t3 ≠ 0 → Con w 35 1 20 [.float h t1, .float sa t2, .float v t3] (Tup (Flo3 x y z))
noncomputable def RgC (w : World) (r g b x y z : UInt64) : Prop := ∀ t1 t2 t3, Con w 28 1 20 [.float r t1, .float g t2, .float b t3] (Tup (Flo3 x y z))
noncomputable def HlC (w : World) (pl sh lv : Int) (V : List Value → Prop) : Prop := ∀ t1 t2 t3, Con w 49 1 20 [.int pl t1, .int sh t2, .int lv t3] (Tup V)
/-- under the caller -/
noncomputable def AlB (w : World) (sy re ve sy' re' ve' : Str) : Prop := ∀ t1 t2 t3, ConB w 21 [.str sy t1, .str re t2, .str ve t3] (Tup (Str3 sy' re' ve'))
theorem AlC.toB {w : World} {sy re ve sy' re' ve' : Str} (h : AlC w sy re ve sy' re' ve') : AlB w sy re ve sy' re' ve' := by
  intro t1 t2 t3 mean mg mb dp un gd cn cs a ccd cl h₀ L m news s Q F X N T hk hd hu ret
  exact wpC.of (Con.use (h t1 t2 t3) (below_caller h₀) F X N T hk hd hu ret)
theorem AlC.at {w : World} {sy re ve sy' re' ve' : Str} (h : AlC w sy re ve sy' re' ve') (t1 t2 t3 : Tok) : Con w 21 1 20 [.str sy t1, .str re t2, .str ve t3] (Tup (Str3 sy' re' ve')) := h t1 t2 t3
theorem RiC.at {w : World} {wh re : Int} {x : Str} (h : RiC w wh re x) (t1 t2 : Tok) : Con w 56 1 20 [.int wh t1, .int re t2] (fun r tl => IsStr x r ∧ tl = []) := h t1 t2
theorem TiC.at {w : World} {wh n : Int} (h : TiC w wh n) (t1 : Tok) : Con w 63 1 20 [.int wh t1] (fun r tl => IsInt n r ∧ tl = []) := h t1
theorem CoC.at {w : World} {ri sd : Str} {x y z : UInt64} (h : CoC w ri sd x y z) (t1 t2 : Tok) : Con w 68 2 60 [.str ri t1, .str sd t2] (Tup (Flo3 x y z)) := h t1 t2
theorem WhC.at {w : World} {pl sh lv : Int} {x y z : UInt64} (h : WhC w pl sh lv x y z) (t1 t2 t3 : Tok) : Con w 42 1 20 [.int pl t1, .int sh t2, .int lv t3] (Tup (Flo3 x y z)) := h t1 t2 t3
theorem HsC.at {w : World} {h sa v x y z : UInt64} (k : HsC w h sa v x y z) (t1 t2 t3 : Tok) (h3 : t3 ≠ 0) : Con w 35 1 20 [.float h t1, .float sa t2, .float v t3] (Tup (Flo3 x y z)) := k t1 t2 t3 h3
theorem RgC.at {w : World} {r g b x y z : UInt64} (k : RgC w r g b x y z) (t1 t2 t3 : Tok) : Con w 28 1 20 [.float r t1, .float g t2, .float b t3] (Tup (Flo3 x y z)) := k t1 t2 t3
theorem HlC.at {w : World} {pl sh lv : Int} {V : List Value → Prop} (h : HlC w pl sh lv V) (t1 t2 t3 : Tok) : Con w 49 1 20 [.int pl t1, .int sh t2, .int lv t3] (Tup V) := h t1 t2 t3
/-- a statement's end that has set one name -/
noncomputable def Q1 (h₀ : Heap) (L : Addr) (m : Str → Option Value) (news : List (Addr × Obj)) (x : Str) (P : Value → List (Addr × Obj) → Prop) (s : Shared) (f : Flow) (s' : Shared) : Prop :=
  f = .next ∧ Same s s' ∧ 1 ≤ s'.toks ∧ ∃ v tl, P v tl ∧ Fr h₀ L s'.heap (upd m x v) ∧ News h₀ L s'.heap (tl ++ news) ∧ ∀ p ∈ tl, ∀ q ∈ news, q.1 < p.1
/-- a statement's run, kept shut -/
structure RunC (M : Model) (A : Around) (st : Stmt) (env : Env) (Q : Flow → Shared → Prop) (E : Value → Shared → Prop) (s : Shared) : Prop where
  out : wpC M A (exec st env) Q E s
noncomputable abbrev lawT (i : Nat) : Stmt := nthS (forBody (lawP 6)) i
noncomputable abbrev lawU (i : Nat) : Stmt := nthS (forBody (lawT 10)) i
end Mine
end
section
open PySem PySem.W PyProof.Rows PySem.Calls PySem.Spec
set_option maxRecDepth 100000
set_option maxHeartbeats 4000000
namespace Mine
/-- no reader has booked a token -/
theorem booked {w : World} {h : Heap} (X : (Mine.hd.heap_1 w.params).In h) : NoneBooked h := by
  have e := X cStatics _ rfl
  refine ⟨_, ⟨_, _, _, e, rfl, ?_, fun _ => rfl⟩, ?_⟩
  · intro x hx
    simp at hx
  · rfl
theorem booked' {w : World} {h₀ h : Heap} {L : Addr} {m : Str → Option Value} (X : (Mine.hd.heap_1 w.params).In h₀) (F : Fr h₀ L h m) : NoneBooked h := booked (X.keeps (Fr.keep F))
theorem eqAt_cc {A : Around} {s : Shared} {x y : UInt64} {t u : Tok} (ht : t ≠ 0) (hu : u ≠ 0) (hb : NoneBooked s.heap) (hc : (Float64.cmp x y == some Ordering.eq) = true) : SeqAt.EqAt A s (.float x t) (.float y u) true := fun prog w E Q h => by
  unfold eqBool
  refine wpAny_holding ?_
  refine wpAny_ite_split (fun _ => wpAny_bind (wpAny_rule (wpAny_pure h))) (fun _ => ?_)
  have hrc : wpAny (model prog w) A (richCompare .Eq (.float x t) (.float y u)) (fun v s' => wpAny (model prog w) A (truthOfDropped v) Q E s') E s :=
    AutoFloatOps.eq_0 (by rw [hc]; exact wpAny_truthy_bool h)
  show wpAny _ _ ((isSame (.float x t) (.float y u)) >>= _) _ _ _
  refine wpAny_bind ?_
  show wpAny _ A (isSame.created (x == y && !Float64.isNaN x) t u) _ E s
  have key : ∀ b : Bool, wpAny (model prog w) A (if b = true then pure true else (do truthOfDropped (← richCompare .Eq (.float x t) (.float y u)))) Q E s := by
    intro b
    cases b
    · rw [if_neg Bool.false_ne_true]
      exact wpAny_bind hrc
    · rw [if_pos rfl]
      exact wpAny_pure h
  unfold isSame.created
  refine wpAny_ite ?_
  split
  · rename_i h0
    rw [Bool.or_eq_true, beq_iff_eq, beq_iff_eq] at h0
    exact absurd h0 (by rintro (h | h); exact ht h; exact hu h)
  refine wpAny_ite ?_
  split
  · exact wpAny_pure (key _)
  refine wpAny_ite ?_
  split
  · exact wpAny_pure (key _)
  refine wpAny_bind (wpAny_sharingNotTold_none hb ?_)
  simp only [Bool.false_eq_true, if_false]
  refine wpAny_bind (wpAny_sharingNotTold_none hb ?_)
  simp only [Bool.false_eq_true, if_false]
  exact wpAny_bind (wpAny_rule (wpAny_bind (wpAny_askSetting (wpAny_pure (key _)))))
theorem eqAt_fi {A : Around} {s : Shared} {x : UInt64} {n : Int} {t u : Tok} (hc : (Float64.cmpInt x n == some Ordering.eq) = true) : SeqAt.EqAt A s (.float x t) (.int n u) true := fun prog w E Q h => by
  unfold eqBool
  refine wpAny_holding ?_
  refine wpAny_ite_split (fun hab => by have := eq_of_beq hab; cases this) (fun _ => ?_)
  exact wpAny_bind (eq_fi (by rw [hc]; exact wpAny_truthy_bool h))
section
variable {prog : Program} {w : World} {A : Around} {E : Value → Shared → Prop} {s : Shared} {h₀ : Heap} {L D1 D2 : Addr} {news : List (Addr × Obj)} {x1 x2 x3 y1 y2 y3 : Value} {k1 k2 : Nat} {Q : Value → Shared → Prop}
theorem ne_tup3 (N : News h₀ L s.heap news) (m1 : (D1, tupO [x1, x2, x3] k1) ∈ news) (m2 : (D2, tupO [y1, y2, y3] k2) ∈ news) (hu : A.units + 64 < cLine)
    (e1 : SeqAt.EqAt A.in1 s x1 y1 true) (e2 : SeqAt.EqAt A.in1 s x2 y2 true) (e3 : SeqAt.EqAt A.in1 s x3 y3 true) (h : Q (.bool false) s) : wpAny (model prog w) A (compareOp .NotEq (.ref D1) (.ref D2)) Q E s := by
  have hl : s.heap.IsTuple D1 [x1, x2, x3].toArray := ⟨_, N.get m1, rfl, _, rfl⟩
  have hr : s.heap.IsTuple D2 [y1, y2, y3].toArray := ⟨_, N.get m2, rfl, _, rfl⟩
  have he : ∀ j (h1 : j < [x1, x2, x3].toArray.size) (h2 : j < [y1, y2, y3].toArray.size), SeqAt.EqAt A.in1 s [x1, x2, x3].toArray[j] [y1, y2, y3].toArray[j] ((fun _ => true) j) := by
    intro j h1 h2
    match j, h1, h2 with
    | 0, _, _ => exact e1
    | 1, _, _ => exact e2
    | 2, _, _ => exact e3
    | j + 3, h1, _ => exact absurd h1 (by simp)
  exact SeqAt.RcNeAt.tuples hl hr (Nat.lt_of_le_of_lt (Nat.le_add_right _ 64) hu) he prog w E Q h
theorem ne_lst3 {o1 o2 : Obj} {b1 b2 : List Value} (N : News h₀ L s.heap news) (m1 : (D1, o1) ∈ news) (m2 : (D2, o2) ∈ news) (c1 : o1.cls = .type "list") (c2 : o2.cls = .type "list") (d1 : o1.data = .seq b1.toArray k1) (d2 : o2.data = .seq b2.toArray k2)
    (f1 : b1 = [x1, x2, x3]) (f2 : b2 = [y1, y2, y3]) (hu : A.units + 64 < cLine)
    (e1 : SeqAt.EqAt A.in1 s x1 y1 true) (e2 : SeqAt.EqAt A.in1 s x2 y2 true) (e3 : SeqAt.EqAt A.in1 s x3 y3 true) (h : Q (.bool false) s) : wpAny (model prog w) A (compareOp .NotEq (.ref D1) (.ref D2)) Q E s := by
  subst f1; subst f2
  have hl : s.heap.IsList D1 [x1, x2, x3].toArray := ⟨_, N.get m1, c1, _, d1⟩
  have hr : s.heap.IsList D2 [y1, y2, y3].toArray := ⟨_, N.get m2, c2, _, d2⟩
  have he : ∀ j (h1 : j < [x1, x2, x3].toArray.size) (h2 : j < [y1, y2, y3].toArray.size), SeqAt.EqAt A.in1 s [x1, x2, x3].toArray[j] [y1, y2, y3].toArray[j] ((fun _ => true) j) := by
    intro j h1 h2
    match j, h1, h2 with
    | 0, _, _ => exact e1
    | 1, _, _ => exact e2
    | 2, _, _ => exact e3
    | j + 3, h1, _ => exact absurd h1 (by simp)
  exact SeqAt.RcNeAt.lists hl hr rfl (Nat.lt_of_le_of_lt (Nat.le_add_right _ 64) hu) he prog w E Q h
/-- two tuples of three floats that are equal -/
theorem ne_flo3 {x y z x' y' z' : UInt64} {t1 t2 t3 u1 u2 u3 : Tok} (N : News h₀ L s.heap news) (m1 : (D1, tupO [.float x t1, .float y t2, .float z t3] k1) ∈ news) (m2 : (D2, tupO [.float x' u1, .float y' u2, .float z' u3] k2) ∈ news) (hu : A.units + 64 < cLine)
    (hb : NoneBooked s.heap) (n1 : (Float64.cmp x x' == some Ordering.eq) = true) (n2 : (Float64.cmp y y' == some Ordering.eq) = true) (n3 : (Float64.cmp z z' == some Ordering.eq) = true) (a1 : t1 ≠ 0) (a2 : t2 ≠ 0) (a3 : t3 ≠ 0) (b1 : u1 ≠ 0) (b2 : u2 ≠ 0) (b3 : u3 ≠ 0)
    (h : Q (.bool false) s) : wpAny (model prog w) A (compareOp .NotEq (.ref D1) (.ref D2)) Q E s :=
  ne_tup3 N m1 m2 hu (eqAt_cc a1 b1 hb n1) (eqAt_cc a2 b2 hb n2) (eqAt_cc a3 b3 hb n3) h
end
end Mine
namespace Mine
/-- these values equal the three floats -/
noncomputable def Eq3 (x y z : UInt64) (vs : List Value) : Prop := ∃ y1 y2 y3, vs = [y1, y2, y3] ∧ ∀ (A : Around) (s : Shared) (t1 t2 t3 : Tok), t1 ≠ 0 → t2 ≠ 0 → t3 ≠ 0 → NoneBooked s.heap →
  SeqAt.EqAt A s (.float x t1) y1 true ∧ SeqAt.EqAt A s (.float y t2) y2 true ∧ SeqAt.EqAt A s (.float z t3) y3 true
theorem ne_eq3 {prog : Program} {w : World} {A : Around} {E : Value → Shared → Prop} {s : Shared} {h₀ : Heap} {L D1 D2 : Addr} {news : List (Addr × Obj)} {k1 k2 : Nat} {Q : Value → Shared → Prop} {x y z : UInt64} {t1 t2 t3 : Tok} {vs : List Value}
    (N : News h₀ L s.heap news) (m1 : (D1, tupO [.float x t1, .float y t2, .float z t3] k1) ∈ news) (m2 : (D2, tupO vs k2) ∈ news) (hu : A.units + 64 < cLine) (hb : NoneBooked s.heap) (hV : Eq3 x y z vs) (a1 : t1 ≠ 0) (a2 : t2 ≠ 0) (a3 : t3 ≠ 0)
    (h : Q (.bool false) s) : wpAny (model prog w) A (compareOp .NotEq (.ref D1) (.ref D2)) Q E s := by
  obtain ⟨y1, y2, y3, rfl, e⟩ := hV
  obtain ⟨e1, e2, e3⟩ := e A.in1 s t1 t2 t3 a1 a2 a3 hb
  exact ne_tup3 N m1 m2 hu e1 e2 e3 h
end Mine
end
section
open PySem PySem.W PyProof.Rows PySem.Calls PySem.Spec
set_option maxRecDepth 100000
set_option maxHeartbeats 4000000
namespace Mine
/-- an item has come out, nothing but the tokens has changed -/
noncomputable def ElT (r : UInt64) (s : Shared) (y : Value) (s' : Shared) : Prop := (∃ t : Tok, t ≠ 0 ∧ y = .float r t) ∧ ∃ tk, s' = { s with toks := tk }
noncomputable def TurnT (prog : Program) (w : World) (A : Around) (h₀ : Heap) (L : Addr) (m : Str → Option Value) (env : Env) (elt : Expr) (x : Str) (scope : Scope) (cl : List (Str × Addr)) (news : List (Addr × Obj)) (k : Int) (g : UInt64) : Prop :=
  ∀ (t : Tok) (C : Addr) (oC : Obj) (m₂ : Str → Option Value) (s₃ : Shared) (E' : Value → Shared → Prop), LCg.NsObj oC m₂ → m₂ x = some (.int k t) → Fr h₀ L s₃.heap m → News h₀ L s₃.heap ((C, oC) :: news) → 1 ≤ s₃.toks →
    wpAny (model prog w) A (eval elt (compEnvC scope cl C env)) (ElT g s₃) E' s₃
noncomputable def Src3 (prog : Program) (w : World) (A : Around) (h₀ : Heap) (L : Addr) (m : Str → Option Value) (env : Env) (elt : Expr) (x : Str) (scope : Scope) (cl : List (Str × Addr)) (g0 g1 g2 : UInt64) (Q : Value → Shared → Prop) (xv : Value) (s₁ : Shared) : Prop :=
  ∃ r t u v news, xv = .ref r ∧ IsRange s₁.heap r 0 3 1 t u v ∧ Fr h₀ L s₁.heap m ∧ News h₀ L s₁.heap news ∧ 1 ≤ s₁.toks ∧
    TurnT prog w A h₀ L m env elt x scope cl news 0 g0 ∧ TurnT prog w A h₀ L m env elt x scope cl news 1 g1 ∧ TurnT prog w A h₀ L m env elt x scope cl news 2 g2 ∧
    ∀ D h' tk n (u0 u1 u2 : Tok), u0 ≠ 0 → u1 ≠ 0 → u2 ≠ 0 → Fr h₀ L h' m → News h₀ L h' ((D, { cls := .type "list", data := .seq #[.float g0 u0, .float g1 u1, .float g2 u2] n }) :: news) → Q (.ref D) { s₁ with heap := h', toks := tk }
/-- a list comprehension over range(3) that makes floats: their tokens are not nought -/
theorem ListComp_T {prog : Program} {w : World} {A : Around} {E : Value → Shared → Prop} {s : Shared} {h₀ : Heap} {L : Addr} {m : Str → Option Value} {env : Env} {elt iter : Expr} {x : Str} {px : Pos} {scope : Scope} {cl : List (Str × Addr)} {pos : Pos} {Q : Value → Shared → Prop} (g0 g1 g2 : UInt64)
    (_ : Fr h₀ L s.heap m) (hh : A.handled = none) (hclos : closureFor scope env = pure cl) (hcell : ∀ y ∈ scope.names, y.2 ≠ .cell) (hkind : scope.kind = .function)
    (hnames : ∀ y ∈ scope.names, y.2 = .local → scope.names.lookup y.1 = some .local) (hx : scope.names.lookup x = some .local)
    (h : wpAny (model prog w) A (eval iter env) (Src3 prog w A h₀ L m env elt x scope cl g0 g1 g2 Q) E s)
    (hs : ∀ x, foldedSetIterable iter env x = pure x := by intro _; rfl) :
    wpAny (model prog w) A (eval (.ListComp elt [⟨.Name x px, iter, [], 0⟩] scope pos) env) Q E s := by
  refine wpAny_ListComp_free (fun _ => true) (fun v y => ∃ (k : Int) (t u : Tok), v = .int k t ∧ u ≠ 0 ∧ y = .float (if k = 0 then g0 else if k = 1 then g1 else g2) u) hclos hcell hkind hnames hx (wpAny_mono h (fun xv s₁ h₁ => ?_) fun _ _ e => e) hs
  obtain ⟨r, t, u, v, news, rfl, hr, F, N, htk, T0, T1, T2, fin⟩ := h₁
  have up : ∀ (s₃ : Shared), (∀ b o, b ∉ [s₁.heap.objs.size] → (s₁.heap.push { cls := .type "range_iterator", data := .fields #[rawInt 0, rawInt (Builtin.Range.rangeSize 0 3 1), rawInt 1] }).get? b = some o → s₃.heap.get? b = some o) → ∀ b o, s₁.heap.get? b = some o → s₃.heap.get? b = some o :=
    fun s₃ hk b o e => hk b o (fun hm => Nat.lt_irrefl _ (List.mem_singleton.mp hm ▸ Heap.lt_size e)) (Heap.get?_push_of_some _ e)
  have new₀ : ∀ C, s₁.heap.get? C = none → h₀.get? C = none ∧ C ≠ L := fun C hC => by
    constructor
    · cases e : h₀.get? C with
      | none => rfl
      | some o => have := F.keep C o e; rw [hC] at this; cases this
    · intro e
      obtain ⟨o, _, _, ho, _⟩ := F.ns
      rw [← e, hC] at ho
      cases ho
  have none_of : ∀ C, s₁.heap.objs.size ≤ C → s₁.heap.get? C = none := fun C hC => by
    cases e : s₁.heap.get? C with
    | none => rfl
    | some o => exact absurd (Heap.lt_size e) (Nat.not_lt.mpr hC)
  have hn : Builtin.Range.rangeSize 0 3 1 = ((3 : Nat) : Int) := rfl
  refine wpAny_pyIter_range hr (by decide) ⟨s₁.heap.objs.size, [s₁.heap.objs.size], [s₁.heap.objs.size], 3, _, _, rfl, (Walks.range hh _ 0 1 3).bound, (by rw [sizeLine_eq]; decide), (by show IsRangeIter _ _ _ _ _; rw [hn]; simpa using Heap.get?_push_size _ rfl), ?_, ⟨?_, ?_⟩, ?_⟩
  · intro b hb
    show b < (s₁.heap.push _).objs.size
    rw [Heap.size_push, List.mem_singleton.mp hb]
    exact Nat.lt_succ_self _
  · intro C i v s₃ m₃ E' hC hP hn' hm hk _
    exact wpAny_tests_nil ⟨rfl, _, _, rfl, fun _ _ e => e⟩
  · intro C i v s₃ m₃ E' hC hP _ hn' hm hk hle
    obtain ⟨oC, heC, hoC⟩ := LCg.ns_obj hn'
    have hC1 : s₁.heap.objs.size ≤ C := Nat.le_of_succ_le (by simpa [Heap.size_push] using hC)
    have hC2 := new₀ C (none_of C hC1)
    have F3 : Fr h₀ L s₃.heap m := F.keeps (up s₃ hk)
    have N3 : News h₀ L s₃.heap ((C, oC) :: news) := fun p hp => by
      rcases List.mem_cons.mp hp with rfl | hp
      · exact ⟨heC, hC2.2, hC2.1⟩
      · exact ⟨up s₃ hk _ _ (N p hp).1, (N p hp).2⟩
    have h3 : 1 ≤ s₃.toks := Nat.le_trans htk hle
    obtain ⟨hlt, t', rfl⟩ := hP
    have cases3 : i = 0 ∨ i = 1 ∨ i = 2 := by omega
    rcases cases3 with rfl | rfl | rfl
    · refine wpAny_mono (T0 t' C oC m₃ s₃ E' hoC hm F3 N3 h3) (fun y s₄ h₄ => ?_) fun _ _ e => e
      obtain ⟨⟨u, hu, rfl⟩, tk, rfl⟩ := h₄
      exact ⟨⟨_, _, u, rfl, hu, rfl⟩, _, tk, rfl, fun _ _ e => e⟩
    · refine wpAny_mono (T1 t' C oC m₃ s₃ E' hoC hm F3 N3 h3) (fun y s₄ h₄ => ?_) fun _ _ e => e
      obtain ⟨⟨u, hu, rfl⟩, tk, rfl⟩ := h₄
      exact ⟨⟨_, _, u, rfl, hu, rfl⟩, _, tk, rfl, fun _ _ e => e⟩
    · refine wpAny_mono (T2 t' C oC m₃ s₃ E' hoC hm F3 N3 h3) (fun y s₄ h₄ => ?_) fun _ _ e => e
      obtain ⟨⟨u, hu, rfl⟩, tk, rfl⟩ := h₄
      exact ⟨⟨_, _, u, rfl, hu, rfl⟩, _, tk, rfl, fun _ _ e => e⟩
  · intro D h' tk ys vs hnew hl hpl hlen hP hF hk
    have up' := up { s₁ with heap := h' } hk
    have hD : s₁.heap.get? D = none := by
      cases e : s₁.heap.get? D with
      | none => rfl
      | some o => have := Heap.get?_push_of_some { cls := .type "range_iterator", data := .fields #[rawInt 0, rawInt (Builtin.Range.rangeSize 0 3 1), rawInt 1] } e; rw [hnew] at this; cases this
    have hD2 := new₀ D hD
    obtain ⟨v0, v1, v2, rfl⟩ : ∃ v0 v1 v2, vs = [v0, v1, v2] := by
      match vs, hlen with
      | [a, b, c], _ => exact ⟨a, b, c, rfl⟩
    obtain ⟨_, t0, e0⟩ := hP 0 v0 rfl
    obtain ⟨_, t1, e1⟩ := hP 1 v1 rfl
    obtain ⟨_, t2, e2⟩ := hP 2 v2 rfl
    subst e0; subst e1; subst e2
    simp only [List.filter_cons, List.filter_nil, if_true] at hF
    obtain ⟨ys⟩ := ys
    change Paired _ _ ys at hF
    cases hF with
    | cons h0 hF => cases hF with
      | cons h1 hF => cases hF with
        | cons h2 hF =>
          cases hF
          obtain ⟨k0, t0', u0, q0, hu0, rfl⟩ := h0
          obtain ⟨k1, t1', u1, q1, hu1, rfl⟩ := h1
          obtain ⟨k2, t2', u2, q2, hu2, rfl⟩ := h2
          cases q0; cases q1; cases q2
          obtain ⟨n, hpl⟩ := hpl
          exact fin D h' tk n u0 u1 u2 hu0 hu1 hu2 (F.keeps up') (fun p hp => by
            rcases List.mem_cons.mp hp with rfl | hp
            · exact ⟨hpl, hD2.2, hD2.1⟩
            · exact ⟨up' _ _ (N p hp).1, (N p hp).2⟩)
end Mine
end
section
open PySem PySem.W PyProof.Rows PySem.Calls
open PySem.Sem (wp)
set_option maxRecDepth 100000
set_option maxHeartbeats 4000000
namespace Mine
/-- toks only grow -/
theorem wpC.toks {α : Type} {M : Model} {A : Around} {s : Shared} {t : Sem α} {Q : α → Shared → Prop} {E : Value → Shared → Prop} {n : Nat} (hn : n ≤ s.toks) (h : wpC M A t (fun a s' => n ≤ s'.toks → Q a s') E s) : wpC M A t Q E s :=
  fun Γ p hΓ hC => Sem.wp_mono M Γ t (fun _ _ _ x => x.2 x.1) (fun _ _ _ x => x.2) p s (Sem.wp_toks M Γ n t _ _ p s hn (h Γ p hΓ hC))
theorem wpC.with {α : Type} {M : Model} {A : Around} {s : Shared} {t : Sem α} {Q : α → Shared → Prop} {E : Value → Shared → Prop} {n : Nat} (hn : n ≤ s.toks) (h : wpC M A t Q E s) : wpC M A t (fun a s' => n ≤ s'.toks ∧ Q a s') E s :=
  wpC.toks hn (h.mono (fun _ _ x y => ⟨y, x⟩) fun _ _ x => x)
/-- a turn's end in a for over a range -/
noncomputable def TurnR (h₀ : Heap) (L I : Addr) (own : List (Addr × Obj)) (J : (Str → Option Value) → List (Addr × Obj) → Prop) (s : Shared) (f : Flow) (s₃ : Shared) : Prop :=
  f = .next ∧ ∃ m₂ news₂, (s₃.gens = s.gens ∧ s₃.os = s.os) ∧ Fr h₀ L s₃.heap m₂ ∧ News h₀ L s₃.heap (own ++ news₂) ∧ (∀ p ∈ news₂, p.1 ≠ I) ∧ J m₂ news₂
/-- a for over range(b), under the claim's caller -/
theorem iterRange_C {prog : Program} {w : World} {A : Around} {s : Shared} {env : Env} {h₀ : Heap} {x : Str} {px : Pos} {body : List Stmt} {R : Result → Shared → Prop} {E : Value → Shared → Prop} {r : Addr} {b : Int} {t u v : Tok} {n : Nat} {m : Str → Option Value} {news : List (Addr × Obj)}
    (hh : A.handled = none) (F : Fr h₀ env.locals s.heap m) (N : News h₀ env.locals s.heap news) (hr : IsRange s.heap r 0 b 1 t u v) (hsm : Builtin.Range.small 0 b 1 = true) (hn : Builtin.Range.rangeSize 0 b 1 = ((n : Nat) : Int))
    (J : Nat → (Str → Option Value) → List (Addr × Obj) → Prop) (h0 : J 0 m news)
    (step : ∀ I, (∀ p ∈ news, p.1 < I) → env.locals < I → ∀ i t m₁ news₁ s₁ own, i < n → J i m₁ news₁ → (∀ p ∈ news₁, p.1 ≠ I) → (∀ p ∈ own, p.1 = I) → (∃ o, (I, o) ∈ own) → (s₁.gens = s.gens ∧ s₁.os = s.os) →
      Fr h₀ env.locals s₁.heap m₁ → News h₀ env.locals s₁.heap (own ++ news₁) →
      wpAny (model prog w) A (assign (.Name x px) env (.int (i : Int) t)) (fun _ s₂ => wpC (model prog w) A (execs body env)
        (TurnR h₀ env.locals I own (J (i + 1)) s) (fun _ _ => False) s₂) (fun _ _ => False) s₁)
    (hR : ∀ s' m' news', (s'.gens = s.gens ∧ s'.os = s.os) → Fr h₀ env.locals s'.heap m' → News h₀ env.locals s'.heap news' → J n m' news' → R (.ok .next) s') :
    wpAny (model prog w) A (pyIter (.ref r)) (fun it s₂ => codeC (model prog w) A (.forLoop (.Name x px) it body [] env) R s₂) E s := by
  refine wpAny_pyIter_range hr hsm ?_
  refine turns_C (KTurns.ofWalks (Walks.range hh s.heap.objs.size 0 1 n) fun i v s Q E st q => wpAny_pure q) (m := m) (news := news) ?_ ?_ ?_ ?_ (F.push _) (fun p hp => ⟨Heap.get?_push_of_some _ (N p hp).1, (N p hp).2⟩)
    (fun i m₁ nw => (∀ p ∈ nw, p.1 ≠ s.heap.objs.size) ∧ J i m₁ nw) ⟨fun p hp => Nat.ne_of_lt (Heap.lt_size (N p hp).1), h0⟩ ?_ ?_
  · intro hI
    exact absurd F.ns.lt ((List.mem_singleton.mp hI) ▸ Nat.lt_irrefl _)
  · intro b hb
    rw [List.mem_singleton.mp hb]
    exact next_is_new F
  · intro p hp hI
    exact absurd (Heap.lt_size (N p hp).1) ((List.mem_singleton.mp hI) ▸ Nat.lt_irrefl _)
  · show IsRangeIter _ _ _ _ _
    rw [hn]
    simpa using Heap.get?_push_size _ rfl
  · intro i v m₁ news₁ s₁ own hi hP hJ hnw hown hmem hst hsm F₁ N₁
    obtain ⟨hne', hJ'⟩ := hJ
    obtain ⟨t', rfl⟩ := hP
    have e : (0 : Int) + (i : Int) * 1 = (i : Int) := by omega
    rw [e]
    refine wpAny_mono (step s.heap.objs.size (fun p hp => Heap.lt_size (N p hp).1) F.ns.lt i t' m₁ news₁ s₁ own hi hJ' hne' (fun p hp => List.mem_singleton.mp (hown p hp)) ⟨_, hmem _ (List.mem_singleton.mpr rfl) _ (next_is_new F) hst⟩ hsm F₁ N₁) (fun _ s₂ h₂ => wpC.mono h₂ (fun f s₃ h₃ => ?_) fun _ _ x => x) fun _ _ x => x
    obtain ⟨rfl, m₂, news₂, hs₃, F₃, N₃, ha₃, hJ₃⟩ := h₃
    exact ⟨rfl, m₂, news₂, hs₃, F₃, N₃, fun p hp hI => ha₃ p hp (List.mem_singleton.mp hI), ha₃, hJ₃⟩
  · intro s' m' news' hsm F' N' hJ
    exact hR s' m' news' hsm F' N' hJ.2
end Mine
end
section
open PySem PySem.W PyProof.Rows PySem.Calls Mine
local macro_rules | `(tactic| walk_at "newTuple") => `(tactic| (k_here; k_dflt (refine' newTuple_E ?F ?N ?_ ?z; (case F => k_asm); (case N => k_asm); (case z => kmk_size)); intro D' h' F' N' l1 l2; (try k_lt l1); (try k_lt2 l2); (try k_sweep)))
section
open PySem PySem.W PyProof.Rows PySem.Calls Mine
local macro_rules | `(tactic| walk_at "call ref") => `(tactic| (k_here; (try simp only [List.nil_append]); first | (k_dflt (refine' Con.useL (AlC.at ?h _ _ _ ) ?d ?u ?F ?X ?N ?T ?hk ?_; (case h => assumption); (case d => decide); (case u => decide); (case F => k_asm); (case X => k_asm); (case N => k_asm); (case T => k_asm); (case hk => exact rfl); k_whole); intro r' tl' h' tk' hP' F' N' l1; (unfold Tup at hP'); (unfold Str3 at hP'); obtain ⟨D', c', vs', ⟨t1', t2', t3', hv'⟩, hr', ht'⟩ := hP'; subst hv'; subst hr'; subst ht'; (replace l1 := lt_one l1); (try k_lt l1); (try simp only [List.cons_append, List.nil_append] at N'); (try k_sweep)) | (k_dflt (refine' Con.useL (RiC.at ?h _ _ ) ?d ?u ?F ?X ?N ?T ?hk ?_; (case h => assumption); (case d => decide); (case u => decide); (case F => k_asm); (case X => k_asm); (case N => k_asm); (case T => k_asm); (case hk => exact rfl); k_whole); intro r' tl' h' tk' hP' F' N' l1; (try unfold IsStr at hP'); (try unfold IsInt at hP'); obtain ⟨⟨t1', hr'⟩, ht'⟩ := hP'; subst hr'; subst ht'; (try clear l1); (try simp only [List.nil_append] at N'); (try k_sweep)) | (k_dflt (refine' Con.useL (TiC.at ?h _ ) ?d ?u ?F ?X ?N ?T ?hk ?_; (case h => assumption); (case d => decide); (case u => decide); (case F => k_asm); (case X => k_asm); (case N => k_asm); (case T => k_asm); (case hk => exact rfl); k_whole); intro r' tl' h' tk' hP' F' N' l1; (try unfold IsStr at hP'); (try unfold IsInt at hP'); obtain ⟨⟨t1', hr'⟩, ht'⟩ := hP'; subst hr'; subst ht'; (try clear l1); (try simp only [List.nil_append] at N'); (try k_sweep)) | (k_dflt (refine' Con.useL (CoC.at ?h _ _ ) ?d ?u ?F ?X ?N ?T ?hk ?_; (case h => assumption); (case d => decide); (case u => decide); (case F => k_asm); (case X => k_asm); (case N => k_asm); (case T => k_asm); (case hk => exact rfl); k_whole); intro r' tl' h' tk' hP' F' N' l1; (unfold Tup at hP'); (unfold Flo3 at hP'); obtain ⟨D', c', vs', ⟨t1', t2', t3', ⟨hn1, hn2, hn3⟩, hv'⟩, hr', ht'⟩ := hP'; subst hv'; subst hr'; subst ht'; (replace l1 := lt_one l1); (try k_lt l1); (try simp only [List.cons_append, List.nil_append] at N'); (try k_sweep)) | (k_dflt (refine' Con.useL (WhC.at ?h _ _ _ ) ?d ?u ?F ?X ?N ?T ?hk ?_; (case h => assumption); (case d => decide); (case u => decide); (case F => k_asm); (case X => k_asm); (case N => k_asm); (case T => k_asm); (case hk => exact rfl); k_whole); intro r' tl' h' tk' hP' F' N' l1; (unfold Tup at hP'); (unfold Flo3 at hP'); obtain ⟨D', c', vs', ⟨t1', t2', t3', ⟨hn1, hn2, hn3⟩, hv'⟩, hr', ht'⟩ := hP'; subst hv'; subst hr'; subst ht'; (replace l1 := lt_one l1); (try k_lt l1); (try simp only [List.cons_append, List.nil_append] at N'); (try k_sweep)) | (k_dflt (refine' Con.useL (HsC.at ?h _ _ _ ?z) ?d ?u ?F ?X ?N ?T ?hk ?_; (case h => assumption); (case z => first | exact Nat.succ_ne_zero _ | assumption); (case d => decide); (case u => decide); (case F => k_asm); (case X => k_asm); (case N => k_asm); (case T => k_asm); (case hk => exact rfl); k_whole); intro r' tl' h' tk' hP' F' N' l1; (unfold Tup at hP'); (unfold Flo3 at hP'); obtain ⟨D', c', vs', ⟨t1', t2', t3', ⟨hn1, hn2, hn3⟩, hv'⟩, hr', ht'⟩ := hP'; subst hv'; subst hr'; subst ht'; (replace l1 := lt_one l1); (try k_lt l1); (try simp only [List.cons_append, List.nil_append] at N'); (try k_sweep)) | (k_dflt (refine' Con.useL (RgC.at ?h _ _ _ ) ?d ?u ?F ?X ?N ?T ?hk ?_; (case h => assumption); (case d => decide); (case u => decide); (case F => k_asm); (case X => k_asm); (case N => k_asm); (case T => k_asm); (case hk => exact rfl); k_whole); intro r' tl' h' tk' hP' F' N' l1; (unfold Tup at hP'); (unfold Flo3 at hP'); obtain ⟨D', c', vs', ⟨t1', t2', t3', ⟨hn1, hn2, hn3⟩, hv'⟩, hr', ht'⟩ := hP'; subst hv'; subst hr'; subst ht'; (replace l1 := lt_one l1); (try k_lt l1); (try simp only [List.cons_append, List.nil_append] at N'); (try k_sweep)) | (k_dflt (refine' Con.useL (HlC.at ?h _ _ _ ) ?d ?u ?F ?X ?N ?T ?hk ?_; (case h => assumption); (case d => decide); (case u => decide); (case F => k_asm); (case X => k_asm); (case N => k_asm); (case T => k_asm); (case hk => exact rfl); k_whole); intro r' tl' h' tk' hP' F' N' l1; (unfold Tup at hP'); obtain ⟨D', c', vs', hV', hr', ht'⟩ := hP'; subst hr'; subst ht'; (replace l1 := lt_one l1); (try k_lt l1); (try simp only [List.cons_append, List.nil_append] at N'); (try k_sweep))))
local macro_rules | `(tactic| walk_at "compareOp NotEq ref ref") => `(tactic| (k_here; refine ne_str3 (by k_asm) (by k_mem) (by k_mem) (by ke_room) (by assumption) (by assumption) (by assumption) ?_))
section
open PySem PySem.W PyProof.Rows PySem.Calls
set_option maxRecDepth 100000
set_option maxHeartbeats 8000000
namespace Mine
theorem B3 (w : World) (mean : ExcName → Option Value) (mg mb : Str → Option Value) (h₀ : Heap) (L fa : Addr) (cd : Value) (s : Shared)
    (T : Top Mine.view (looseW Mine.view []) mean mg mb h₀) (X : (Mine.hd.heap_1 w.params).In h₀)
    (m : Str → Option Value) (news : List (Addr × Obj)) (y : Str) (t : Tok) (al : AlC w y (Str.ofString "8.1.2") (Str.ofString "5.7") y (Str.ofString "8.1.2") (Str.ofString "5.7")) (ok1 : PyData.strOk y = true) (hv1 : m (Str.ofString "title") = some (.str y t))
    (F : Fr h₀ L s.heap m) (N : News h₀ L s.heap (news))
    (hz : PySem.Challenge.rw_ny0075_01 = PySem.Challenge.rw_ny0075_01) :
    wpAny (model PySem.Challenge.rw_ny0075_01.row.prog w) (lawA L fa cd) (execs (forBody (lawP 2)) (lawEnv L fa cd))
      (Q0 h₀ L m news s) (fun _ _ => False) s := by
  w_on
  replace F : Fr h₀ L s.heap (fun z => if z = Str.ofString "title" then some (.str y t) else m z) := Fr.eqm F (fun z => by
    (repeat' split) <;> (first | rfl | (subst_vars; assumption)))
  revert X hz
  k_fill
  intro X hz
  have K0 := below_caller h₀
  dsimp only [forBody, lawP, lawT, lawU, lawB, nthS, hdS, bodyOf, List.drop, lawA, lawEnv, lawS, scopeOf]
  w_top on
  w_strict (
    have ok2 : PyData.strOk (Str.ofString "8.1.2") = true := by decide +kernel
    have ok3 : PyData.strOk (Str.ofString "5.7") = true := by decide +kernel
    k_steps
    exact ⟨rfl, ⟨rfl, rfl⟩, (Fr.eqm (by assumption) (fun z => by
      (try unfold upd)
      (repeat' split) <;> (first | rfl | (subst_vars; first | assumption | (symm; assumption)) | contradiction))), (fun p hp => (by assumption : News h₀ L _ _) p (by (repeat (first | exact hp | apply List.Mem.tail | apply List.mem_append_right))))⟩)
theorem S4 (w : World) (mean : ExcName → Option Value) (mg mb : Str → Option Value) (h₀ : Heap) (L fa : Addr) (cd : Value) (s : Shared)
    (T : Top Mine.view (looseW Mine.view []) mean mg mb h₀) (X : (Mine.hd.heap_1 w.params).In h₀)
    (m : Str → Option Value) (news : List (Addr × Obj)) (al : AlC w sunos (Str.ofString "") (Str.ofString "5.7") sunos (Str.ofString "") (Str.ofString "5.7")) 
    (F : Fr h₀ L s.heap m) (N : News h₀ L s.heap (news))
    (hz : PySem.Challenge.rw_ny0075_01 = PySem.Challenge.rw_ny0075_01) :
    wpAny (model PySem.Challenge.rw_ny0075_01.row.prog w) (lawA L fa cd) (exec (lawP 3) (lawEnv L fa cd))
      (Q0 h₀ L m news s) (fun _ _ => False) s := by
  w_on
  revert X hz
  k_fill
  intro X hz
  have K0 := below_caller h₀
  dsimp only [forBody, lawP, lawT, lawU, lawB, nthS, hdS, bodyOf, List.drop, lawA, lawEnv, lawS, scopeOf]
  w_top on
  w_strict (
    have ok1 : PyData.strOk (Str.ofString "SunOS") = true := by decide +kernel
    have ok2 : PyData.strOk (Str.ofString "") = true := by decide +kernel
    have ok3 : PyData.strOk (Str.ofString "5.7") = true := by decide +kernel
    unfold sunos at al
    k_steps
    exact ⟨rfl, ⟨rfl, rfl⟩, by assumption, (fun p hp => (by assumption : News h₀ L _ _) p (by (repeat (first | exact hp | apply List.Mem.tail | apply List.mem_append_right))))⟩)
end Mine
end
section
open PySem PySem.W PyProof.Rows PySem.Calls
set_option maxRecDepth 100000
set_option maxHeartbeats 8000000
namespace Mine
noncomputable def bothT (pl li : Int) : Str := strI pl ++ dot ++ strI li
noncomputable def spoiltT (sx : Int) (tx : Str) : Str := strI sx ++ Str.ofString "v" ++ Txt.slice tx (some ((strI sx).length : Int)) none
theorem T0 (w : World) (mean : ExcName → Option Value) (mg mb : Str → Option Value) (h₀ : Heap) (L fa : Addr) (cd : Value) (s : Shared)
    (T : Top Mine.view (looseW Mine.view []) mean mg mb h₀) (X : (Mine.hd.heap_1 w.params).In h₀)
    (m : Str → Option Value) (news : List (Addr × Obj)) (sx : Int) (t1 : Tok) (pa : Int) (t2 : Tok) (x : Str) (ri : RiC w sx pa x) (hv1 : m (Str.ofString "sixth") = some (.int sx t1)) (hv2 : m (Str.ofString "part") = some (.int pa t2))
    (F : Fr h₀ L s.heap m) (N : News h₀ L s.heap (news))
    (hz : PySem.Challenge.rw_ny0075_01 = PySem.Challenge.rw_ny0075_01) :
    wpAny (model PySem.Challenge.rw_ny0075_01.row.prog w) (lawA L fa cd) (exec (lawT 0) (lawEnv L fa cd))
      (Q1 h₀ L m news (Str.ofString "text") (fun v tl => IsStr x v ∧ tl = []) s) (fun _ _ => False) s := by
  w_on
  replace F : Fr h₀ L s.heap (fun z => if z = Str.ofString "sixth" then some (.int sx t1) else if z = Str.ofString "part" then some (.int pa t2) else m z) := Fr.eqm F (fun z => by
    (repeat' split) <;> (first | rfl | (subst_vars; assumption)))
  revert X hz
  k_fill
  intro X hz
  have K0 := below_caller h₀
  dsimp only [forBody, lawP, lawT, lawU, lawB, nthS, hdS, bodyOf, List.drop, lawA, lawEnv, lawS, scopeOf]
  w_top on
  w_strict (
    k_steps
    exact ⟨rfl, ⟨rfl, rfl⟩, Nat.succ_le_succ (Nat.zero_le _), _, [], ⟨⟨_, rfl⟩, rfl⟩, (Fr.eqm (by assumption) (fun z => by
      (try unfold upd)
      (repeat' split) <;> (first | rfl | (subst_vars; first | assumption | (symm; assumption)) | contradiction))), (fun p hp => (by assumption : News h₀ L _ _) p (by (repeat (first | exact hp | apply List.Mem.tail | apply List.mem_append_right)))), fun p hp => nomatch hp⟩)
theorem T1 (w : World) (mean : ExcName → Option Value) (mg mb : Str → Option Value) (h₀ : Heap) (L fa : Addr) (cd : Value) (s : Shared)
    (T : Top Mine.view (looseW Mine.view []) mean mg mb h₀) (X : (Mine.hd.heap_1 w.params).In h₀)
    (m : Str → Option Value) (news : List (Addr × Obj)) (pl : Int) (t3 : Tok) (li : Int) (t4 : Tok) (hb0 : 0 ≤ pl) (hb1 : pl < 9) (hb2 : 0 ≤ li) (hb3 : li < 9) (hv3 : m (Str.ofString "pale") = some (.int pl t3)) (hv4 : m (Str.ofString "light") = some (.int li t4))
    (F : Fr h₀ L s.heap m) (N : News h₀ L s.heap (news))
    (hz : PySem.Challenge.rw_ny0075_01 = PySem.Challenge.rw_ny0075_01) :
    wpAny (model PySem.Challenge.rw_ny0075_01.row.prog w) (lawA L fa cd) (exec (lawT 1) (lawEnv L fa cd))
      (Q1 h₀ L m news (Str.ofString "both") (fun v tl => IsStr (bothT pl li) v ∧ tl = []) s) (fun _ _ => False) s := by
  w_on
  replace F : Fr h₀ L s.heap (fun z => if z = Str.ofString "pale" then some (.int pl t3) else if z = Str.ofString "light" then some (.int li t4) else m z) := Fr.eqm F (fun z => by
    (repeat' split) <;> (first | rfl | (subst_vars; assumption)))
  revert X hz
  k_fill
  intro X hz
  have K0 := below_caller h₀
  dsimp only [forBody, lawP, lawT, lawU, lawB, nthS, hdS, bodyOf, List.drop, lawA, lawEnv, lawS, scopeOf]
  w_top on
  w_strict (
    k_steps
    unfold bothT strI
    exact ⟨rfl, ⟨rfl, rfl⟩, Nat.succ_le_succ (Nat.zero_le _), _, [], ⟨⟨_, rfl⟩, rfl⟩, (Fr.eqm (by assumption) (fun z => by
      (try unfold upd)
      (repeat' split) <;> (first | rfl | (subst_vars; first | assumption | (symm; assumption)) | contradiction))), (fun p hp => (by assumption : News h₀ L _ _) p (by (repeat (first | exact hp | apply List.Mem.tail | apply List.mem_append_right)))), fun p hp => nomatch hp⟩)
theorem T2 (w : World) (mean : ExcName → Option Value) (mg mb : Str → Option Value) (h₀ : Heap) (L fa : Addr) (cd : Value) (s : Shared)
    (T : Top Mine.view (looseW Mine.view []) mean mg mb h₀) (X : (Mine.hd.heap_1 w.params).In h₀)
    (m : Str → Option Value) (news : List (Addr × Obj)) (sx : Int) (t1 : Tok) (n : Int) (ri : TiC w sx n) (hv1 : m (Str.ofString "sixth") = some (.int sx t1))
    (F : Fr h₀ L s.heap m) (N : News h₀ L s.heap (news))
    (hz : PySem.Challenge.rw_ny0075_01 = PySem.Challenge.rw_ny0075_01) :
    wpAny (model PySem.Challenge.rw_ny0075_01.row.prog w) (lawA L fa cd) (exec (lawT 2) (lawEnv L fa cd))
      (Q1 h₀ L m news (Str.ofString "times") (fun v tl => IsInt n v ∧ tl = []) s) (fun _ _ => False) s := by
  w_on
  replace F : Fr h₀ L s.heap (fun z => if z = Str.ofString "sixth" then some (.int sx t1) else m z) := Fr.eqm F (fun z => by
    (repeat' split) <;> (first | rfl | (subst_vars; assumption)))
  revert X hz
  k_fill
  intro X hz
  have K0 := below_caller h₀
  dsimp only [forBody, lawP, lawT, lawU, lawB, nthS, hdS, bodyOf, List.drop, lawA, lawEnv, lawS, scopeOf]
  w_top on
  w_strict (
    k_steps
    exact ⟨rfl, ⟨rfl, rfl⟩, Nat.succ_le_succ (Nat.zero_le _), _, [], ⟨⟨_, rfl⟩, rfl⟩, (Fr.eqm (by assumption) (fun z => by
      (try unfold upd)
      (repeat' split) <;> (first | rfl | (subst_vars; first | assumption | (symm; assumption)) | contradiction))), (fun p hp => (by assumption : News h₀ L _ _) p (by (repeat (first | exact hp | apply List.Mem.tail | apply List.mem_append_right)))), fun p hp => nomatch hp⟩)
theorem T3 (w : World) (mean : ExcName → Option Value) (mg mb : Str → Option Value) (h₀ : Heap) (L fa : Addr) (cd : Value) (s : Shared)
    (T : Top Mine.view (looseW Mine.view []) mean mg mb h₀) (X : (Mine.hd.heap_1 w.params).In h₀)
    (m : Str → Option Value) (news : List (Addr × Obj)) (ti : Int) (t7 : Tok)  (hv7 : m (Str.ofString "times") = some (.int ti t7))
    (F : Fr h₀ L s.heap m) (N : News h₀ L s.heap (news))
    (hz : PySem.Challenge.rw_ny0075_01 = PySem.Challenge.rw_ny0075_01) :
    wpAny (model PySem.Challenge.rw_ny0075_01.row.prog w) (lawA L fa cd) (exec (lawT 3) (lawEnv L fa cd))
      (Q1 h₀ L m news (Str.ofString "named") (fun v tl => IsStr (if 0 < ti then solaris else sunos) v ∧ tl = []) s) (fun _ _ => False) s := by
  w_on
  replace F : Fr h₀ L s.heap (fun z => if z = Str.ofString "times" then some (.int ti t7) else m z) := Fr.eqm F (fun z => by
    (repeat' split) <;> (first | rfl | (subst_vars; assumption)))
  revert X hz
  k_fill
  intro X hz
  have K0 := below_caller h₀
  dsimp only [forBody, lawP, lawT, lawU, lawB, nthS, hdS, bodyOf, List.drop, lawA, lawEnv, lawS, scopeOf]
  w_top on
  w_strict (
    k_steps
    all_goals first | rw [if_pos (by assumption)] | rw [if_neg (by assumption)]
    all_goals exact ⟨rfl, ⟨rfl, rfl⟩, Nat.succ_le_succ (Nat.zero_le _), _, [], ⟨⟨_, rfl⟩, rfl⟩, (Fr.eqm (by assumption) (fun z => by
      (try unfold upd)
      (repeat' split) <;> (first | rfl | (subst_vars; first | assumption | (symm; assumption)) | contradiction))), (fun p hp => (by assumption : News h₀ L _ _) p (by (repeat (first | exact hp | apply List.Mem.tail | apply List.mem_append_right)))), fun p hp => nomatch hp⟩)
theorem T4 (w : World) (mean : ExcName → Option Value) (mg mb : Str → Option Value) (h₀ : Heap) (L fa : Addr) (cd : Value) (s : Shared)
    (T : Top Mine.view (looseW Mine.view []) mean mg mb h₀) (X : (Mine.hd.heap_1 w.params).In h₀)
    (m : Str → Option Value) (news : List (Addr × Obj)) (sx : Int) (t1 : Tok) (pa : Int) (t2 : Tok) (tx : Str) (t5 : Tok) (ti : Int) (t7 : Tok) (x : Str) (ri : 0 < ti → RiC w (sx - 3) pa x) (rx : ¬ 0 < ti → x = tx) (hv1 : m (Str.ofString "sixth") = some (.int sx t1)) (hv2 : m (Str.ofString "part") = some (.int pa t2)) (hv5 : m (Str.ofString "text") = some (.str tx t5)) (hv7 : m (Str.ofString "times") = some (.int ti t7))
    (F : Fr h₀ L s.heap m) (N : News h₀ L s.heap (news))
    (hz : PySem.Challenge.rw_ny0075_01 = PySem.Challenge.rw_ny0075_01) :
    wpAny (model PySem.Challenge.rw_ny0075_01.row.prog w) (lawA L fa cd) (exec (lawT 4) (lawEnv L fa cd))
      (Q1 h₀ L m news (Str.ofString "lower") (fun v tl => IsStr x v ∧ tl = []) s) (fun _ _ => False) s := by
  w_on
  replace F : Fr h₀ L s.heap (fun z => if z = Str.ofString "sixth" then some (.int sx t1) else if z = Str.ofString "part" then some (.int pa t2) else if z = Str.ofString "text" then some (.str tx t5) else if z = Str.ofString "times" then some (.int ti t7) else m z) := Fr.eqm F (fun z => by
    (repeat' split) <;> (first | rfl | (subst_vars; assumption)))
  revert X hz
  k_fill
  intro X hz
  have K0 := below_caller h₀
  dsimp only [forBody, lawP, lawT, lawU, lawB, nthS, hdS, bodyOf, List.drop, lawA, lawEnv, lawS, scopeOf]
  w_top on
  w_strict (
    by_cases h : 0 < ti
    · replace ri := ri h
      k_steps
      exact ⟨rfl, ⟨rfl, rfl⟩, Nat.succ_le_succ (Nat.zero_le _), _, [], ⟨⟨_, rfl⟩, rfl⟩, (Fr.eqm (by assumption) (fun z => by
      (try unfold upd)
      (repeat' split) <;> (first | rfl | (subst_vars; first | assumption | (symm; assumption)) | contradiction))), (fun p hp => (by assumption : News h₀ L _ _) p (by (repeat (first | exact hp | apply List.Mem.tail | apply List.mem_append_right)))), fun p hp => nomatch hp⟩
    · have e := rx h
      clear rx
      subst e
      k_steps
      exact ⟨rfl, ⟨rfl, rfl⟩, Nat.succ_le_succ (Nat.zero_le _), _, [], ⟨⟨_, rfl⟩, rfl⟩, (Fr.eqm (by assumption) (fun z => by
      (try unfold upd)
      (repeat' split) <;> (first | rfl | (subst_vars; first | assumption | (symm; assumption)) | contradiction))), (fun p hp => (by assumption : News h₀ L _ _) p (by (repeat (first | exact hp | apply List.Mem.tail | apply List.mem_append_right)))), fun p hp => nomatch hp⟩)
theorem T5 (w : World) (mean : ExcName → Option Value) (mg mb : Str → Option Value) (h₀ : Heap) (L fa : Addr) (cd : Value) (s : Shared)
    (T : Top Mine.view (looseW Mine.view []) mean mg mb h₀) (X : (Mine.hd.heap_1 w.params).In h₀)
    (m : Str → Option Value) (news : List (Addr × Obj)) (sx : Int) (t1 : Tok) (tx : Str) (t5 : Tok) (hb0 : 0 ≤ sx) (hb1 : sx < 1000000) (hlt : tx.length ≤ 600) (hv1 : m (Str.ofString "sixth") = some (.int sx t1)) (hv5 : m (Str.ofString "text") = some (.str tx t5))
    (F : Fr h₀ L s.heap m) (N : News h₀ L s.heap (news))
    (hz : PySem.Challenge.rw_ny0075_01 = PySem.Challenge.rw_ny0075_01) :
    wpAny (model PySem.Challenge.rw_ny0075_01.row.prog w) (lawA L fa cd) (exec (lawT 5) (lawEnv L fa cd))
      (Q1 h₀ L m news (Str.ofString "spoilt") (fun v tl => IsStr (spoiltT sx tx) v ∧ tl = []) s) (fun _ _ => False) s := by
  w_on
  replace F : Fr h₀ L s.heap (fun z => if z = Str.ofString "sixth" then some (.int sx t1) else if z = Str.ofString "text" then some (.str tx t5) else m z) := Fr.eqm F (fun z => by
    (repeat' split) <;> (first | rfl | (subst_vars; assumption)))
  revert X hz
  k_fill
  intro X hz
  have K0 := below_caller h₀
  dsimp only [forBody, lawP, lawT, lawU, lawB, nthS, hdS, bodyOf, List.drop, lawA, lawEnv, lawS, scopeOf]
  w_top on
  w_strict (
    k_steps
    unfold spoiltT strI
    exact ⟨rfl, ⟨rfl, rfl⟩, Nat.succ_le_succ (Nat.zero_le _), _, [], ⟨⟨_, rfl⟩, rfl⟩, (Fr.eqm (by assumption) (fun z => by
      (try unfold upd)
      (repeat' split) <;> (first | rfl | (subst_vars; first | assumption | (symm; assumption)) | contradiction))), (fun p hp => (by assumption : News h₀ L _ _) p (by (repeat (first | exact hp | apply List.Mem.tail | apply List.mem_append_right)))), fun p hp => nomatch hp⟩)
end Mine
end
section
open PySem PySem.W PyProof.Rows PySem.Calls Mine
local macro_rules | `(tactic| walk_at "storeName") => `(tactic| (k_here; k_dflt (refine' storeX_C ?F ?N ?c ?U ?d ?_ ?a ?b; (case a => rfl); (case b => rfl); (case F => k_asm); (case N => k_asm); (case c => rfl); (case U => (first | (refine' UpdF.head ?a; (case a => (first | assumption | (refine List.forall_mem_cons.mpr ⟨by k_ne, ?_⟩; assumption) | (refine List.forall_mem_cons.mpr ⟨by k_ne, ?_⟩; refine List.forall_mem_cons.mpr ⟨by k_ne, ?_⟩; assumption)))) | (refine' UpdF.tail ?a ?b; (case a => k_ne); (case b => (first | (refine' UpdF.head ?a; (case a => (first | assumption | (refine List.forall_mem_cons.mpr ⟨by k_ne, ?_⟩; assumption) | (refine List.forall_mem_cons.mpr ⟨by k_ne, ?_⟩; refine List.forall_mem_cons.mpr ⟨by k_ne, ?_⟩; assumption)))) | (refine' UpdF.tail ?a ?b; (case a => k_ne); (case b => (first | (refine' UpdF.head ?a; (case a => (first | assumption | (refine List.forall_mem_cons.mpr ⟨by k_ne, ?_⟩; assumption) | (refine List.forall_mem_cons.mpr ⟨by k_ne, ?_⟩; refine List.forall_mem_cons.mpr ⟨by k_ne, ?_⟩; assumption)))) | (refine' UpdF.tail ?a ?b; (case a => k_ne); (case b => (first | (refine' UpdF.head ?a; (case a => (first | assumption | (refine List.forall_mem_cons.mpr ⟨by k_ne, ?_⟩; assumption) | (refine List.forall_mem_cons.mpr ⟨by k_ne, ?_⟩; refine List.forall_mem_cons.mpr ⟨by k_ne, ?_⟩; assumption)))) | (refine' UpdF.tail ?a ?b; (case a => k_ne); (case b => (first | (refine' UpdF.head ?a; (case a => (first | assumption | (refine List.forall_mem_cons.mpr ⟨by k_ne, ?_⟩; assumption) | (refine List.forall_mem_cons.mpr ⟨by k_ne, ?_⟩; refine List.forall_mem_cons.mpr ⟨by k_ne, ?_⟩; assumption)))) | (refine' UpdF.tail ?a ?b; (case a => k_ne); (case b => (refine' UpdF.head ?a; (case a => (first | assumption | (refine List.forall_mem_cons.mpr ⟨by k_ne, ?_⟩; assumption) | (refine List.forall_mem_cons.mpr ⟨by k_ne, ?_⟩; refine List.forall_mem_cons.mpr ⟨by k_ne, ?_⟩; assumption)))))))))))))))))))); (case d => k_asm)); k_whole; intro h' o' F' N' d'; (try dsimp only at N'); (try k_sweep)))
section
open PySem PySem.W PyProof.Rows PySem.Calls
set_option maxRecDepth 100000
set_option maxHeartbeats 8000000
namespace Mine
theorem News.rot {h₀ h : Heap} {L : Addr} {a b c : Addr × Obj} {r : List (Addr × Obj)} (N : News h₀ L h (a :: b :: c :: r)) : News h₀ L h (b :: c :: a :: r) := fun p hp => N p (by
  cases hp with
  | head => exact .tail _ (.head _)
  | tail _ hp => cases hp with
    | head => exact .tail _ (.tail _ (.head _))
    | tail _ hp => cases hp with
      | head => exact .head _
      | tail _ hp => exact .tail _ (.tail _ (.tail _ hp)))
noncomputable def Q8 (h₀ : Heap) (L : Addr) (m : Str → Option Value) (news : List (Addr × Obj)) (oT : Obj) (x y z : UInt64) (s : Shared) (f : Flow) (s' : Shared) : Prop :=
  f = .next ∧ Same s s' ∧ Fr h₀ L s'.heap m ∧ ∃ D c vs oH, Flo3 x y z vs ∧ oH.data = .cell (some (.ref D)) ∧ News h₀ L s'.heap ((L + 2, oT) :: (L + 1, oH) :: (D, tupO vs c) :: news) ∧ D ≠ L + 1 ∧ D ≠ L + 2 ∧ ∀ p ∈ news, p.1 < D
theorem T7 (w : World) (mean : ExcName → Option Value) (mg mb : Str → Option Value) (h₀ : Heap) (L fa : Addr) (cd : Value) (s : Shared)
    (T : Top Mine.view (looseW Mine.view []) mean mg mb h₀) (X : (Mine.hd.heap_1 w.params).In h₀)
    (m : Str → Option Value) (news : List (Addr × Obj)) (tx : Str) (t5 : Tok) (bo : Str) (t6 : Tok) (na : Str) (t8 : Tok) (lo : Str) (t9 : Tok) (al : AlC w (Str.ofString "SunOS") (tx ++ Str.ofString "..007.x y") bo na (lo ++ Str.ofString "..007.x y") bo) (hlt : tx.length ≤ 600) (hll : lo.length ≤ 600) (ok1 : PyData.strOk na = true) (ok2 : PyData.strOk (lo ++ Str.ofString "..007.x y") = true) (ok3 : PyData.strOk bo = true) (hv5 : m (Str.ofString "text") = some (.str tx t5)) (hv6 : m (Str.ofString "both") = some (.str bo t6)) (hv8 : m (Str.ofString "named") = some (.str na t8)) (hv9 : m (Str.ofString "lower") = some (.str lo t9))
    (F : Fr h₀ L s.heap m) (N : News h₀ L s.heap (news))
    (hz : PySem.Challenge.rw_ny0075_01 = PySem.Challenge.rw_ny0075_01) :
    wpAny (model PySem.Challenge.rw_ny0075_01.row.prog w) (lawA L fa cd) (exec (lawT 7) (lawEnv L fa cd))
      (Q0 h₀ L m news s) (fun _ _ => False) s := by
  w_on
  replace F : Fr h₀ L s.heap (fun z => if z = Str.ofString "text" then some (.str tx t5) else if z = Str.ofString "both" then some (.str bo t6) else if z = Str.ofString "named" then some (.str na t8) else if z = Str.ofString "lower" then some (.str lo t9) else m z) := Fr.eqm F (fun z => by
    (repeat' split) <;> (first | rfl | (subst_vars; assumption)))
  revert X hz
  k_fill
  intro X hz
  have K0 := below_caller h₀
  dsimp only [forBody, lawP, lawT, lawU, lawB, nthS, hdS, bodyOf, List.drop, lawA, lawEnv, lawS, scopeOf]
  w_top on
  w_strict (
    k_steps
    first | exact ⟨rfl, ⟨rfl, rfl⟩, (Fr.eqm (by assumption) (fun z => by
      (try unfold upd)
      (repeat' split) <;> (first | rfl | (subst_vars; first | assumption | (symm; assumption)) | contradiction))), (fun p hp => (by assumption : News h₀ L _ _) p (by (repeat (first | exact hp | apply List.Mem.tail | apply List.mem_append_right))))⟩)
theorem T8 (w : World) (mean : ExcName → Option Value) (mg mb : Str → Option Value) (h₀ : Heap) (L fa : Addr) (cd : Value) (s : Shared)
    (T : Top Mine.view (looseW Mine.view []) mean mg mb h₀) (X : (Mine.hd.heap_1 w.params).In h₀)
    (m : Str → Option Value) (news : List (Addr × Obj)) (tx : Str) (t5 : Tok) (bo : Str) (t6 : Tok) (oT oH : Obj) (vT vH : Option Value) (hoT : oT.data = .cell vT) (hoH : oH.data = .cell vH) (hc1 : ∀ p ∈ news, p.1 ≠ L + 1) (hc2 : ∀ p ∈ news, p.1 ≠ L + 2)(x y z : UInt64) (co : CoC w tx bo x y z) (hv5 : m (Str.ofString "text") = some (.str tx t5)) (hv6 : m (Str.ofString "both") = some (.str bo t6))
    (F : Fr h₀ L s.heap m) (N : News h₀ L s.heap ((L + 2, oT) :: (L + 1, oH) :: news))
    (hz : PySem.Challenge.rw_ny0075_01 = PySem.Challenge.rw_ny0075_01) :
    wpAny (model PySem.Challenge.rw_ny0075_01.row.prog w) (lawA L fa cd) (exec (lawT 8) (lawEnv L fa cd))
      (Q8 h₀ L m news oT x y z s) (fun _ _ => False) s := by
  w_on
  replace F : Fr h₀ L s.heap (fun z => if z = Str.ofString "text" then some (.str tx t5) else if z = Str.ofString "both" then some (.str bo t6) else m z) := Fr.eqm F (fun z => by
    (repeat' split) <;> (first | rfl | (subst_vars; assumption)))
  revert X hz
  k_fill
  intro X hz
  have K0 := below_caller h₀
  dsimp only [forBody, lawP, lawT, lawU, lawB, nthS, hdS, bodyOf, List.drop, lawA, lawEnv, lawS, scopeOf]
  w_top on
  w_strict (
    k_steps
    have l9 := (by assumption : L + 2 < _ ∧ L + 1 < _ ∧ AllLt _ _)
    refine ⟨rfl, ⟨rfl, rfl⟩, (Fr.eqm (by assumption) (fun z => by
      (try unfold upd)
      (repeat' split) <;> (first | rfl | (subst_vars; first | assumption | (symm; assumption)) | contradiction))), _, _, _, _, ⟨_, _, _, ?_, rfl⟩, by assumption, News.rot (by assumption), neN (by omega), neN (by omega), ktn_ltOf l9.2.2⟩
    exact ⟨by assumption, by assumption, by assumption⟩)
end Mine
end
section
open PySem PySem.W PyProof.Rows PySem.Calls
set_option maxRecDepth 100000
set_option maxHeartbeats 8000000
namespace Mine
local macro_rules | `(tactic| walk_at "compareOp NotEq ref ref") => `(tactic| (k_here; k_dflt (refine ne_flo3 (by k_asm) (by k_mem) (by k_mem) (by ke_room) (booked' (by k_asm) (by k_asm)) (by assumption) (by assumption) (by assumption) (by assumption) (by assumption) (by assumption) (by assumption) (by assumption) (by assumption) ?_)))
theorem T9 (w : World) (mean : ExcName → Option Value) (mg mb : Str → Option Value) (h₀ : Heap) (L fa : Addr) (cd : Value) (s : Shared)
    (T : Top Mine.view (looseW Mine.view []) mean mg mb h₀) (X : (Mine.hd.heap_1 w.params).In h₀)
    (m : Str → Option Value) (news : List (Addr × Obj)) (sx : Int) (t1 : Tok) (pa : Int) (t2 : Tok) (pl : Int) (t3 : Tok) (li : Int) (t4 : Tok) (D : Addr) (c : Nat) (x y z : UInt64) (a1 a2 a3 : Tok) (hn1 : a1 ≠ 0) (hn2 : a2 ≠ 0) (hn3 : a3 ≠ 0) (oT oH : Obj) (vT : Option Value) (hoT : oT.data = .cell vT) (hoH : oH.data = .cell (some (.ref D)))(x9 y9 z9 : UInt64) (hx1 : (Float64.cmp x x9 == some Ordering.eq) = true) (hx2 : (Float64.cmp y y9 == some Ordering.eq) = true) (hx3 : (Float64.cmp z z9 == some Ordering.eq) = true) (wh : WhC w (sx * 16 + pa) pl li x9 y9 z9) (hv1 : m (Str.ofString "sixth") = some (.int sx t1)) (hv2 : m (Str.ofString "part") = some (.int pa t2)) (hv3 : m (Str.ofString "pale") = some (.int pl t3)) (hv4 : m (Str.ofString "light") = some (.int li t4))
    (F : Fr h₀ L s.heap m) (N : News h₀ L s.heap ((L + 2, oT) :: (L + 1, oH) :: (D, tupO [.float x a1, .float y a2, .float z a3] c) :: news))
    (hz : PySem.Challenge.rw_ny0075_01 = PySem.Challenge.rw_ny0075_01) :
    wpAny (model PySem.Challenge.rw_ny0075_01.row.prog w) (lawA L fa cd) (exec (lawT 9) (lawEnv L fa cd))
      (Q0 h₀ L m ((L + 2, oT) :: (L + 1, oH) :: (D, tupO [.float x a1, .float y a2, .float z a3] c) :: news) s) (fun _ _ => False) s := by
  w_on
  replace F : Fr h₀ L s.heap (fun z => if z = Str.ofString "sixth" then some (.int sx t1) else if z = Str.ofString "part" then some (.int pa t2) else if z = Str.ofString "pale" then some (.int pl t3) else if z = Str.ofString "light" then some (.int li t4) else m z) := Fr.eqm F (fun z => by
    (repeat' split) <;> (first | rfl | (subst_vars; assumption)))
  revert X hz
  k_fill
  intro X hz
  have K0 := below_caller h₀
  dsimp only [forBody, lawP, lawT, lawU, lawB, nthS, hdS, bodyOf, List.drop, lawA, lawEnv, lawS, scopeOf]
  w_top on
  w_strict (
    k_steps
    all_goals first | exact ⟨rfl, ⟨rfl, rfl⟩, (Fr.eqm (by assumption) (fun z => by
      (try unfold upd)
      (repeat' split) <;> (first | rfl | (subst_vars; first | assumption | (symm; assumption)) | contradiction))), (fun p hp => (by assumption : News h₀ L _ _) p (by (repeat (first | exact hp | apply List.Mem.tail | apply List.mem_append_right))))⟩)
end Mine
end
section
open PySem PySem.W PyProof.Rows PySem.Calls
set_option maxRecDepth 100000
set_option maxHeartbeats 8000000
namespace Mine
noncomputable def Q4 (h₀ : Heap) (L : Addr) (m : Str → Option Value) (news : List (Addr × Obj)) (oH : Obj) (x y z : UInt64) (s : Shared) (f : Flow) (s' : Shared) : Prop :=
  f = .next ∧ Same s s' ∧ Fr h₀ L s'.heap m ∧ ∃ D c vs oT, Flo3 x y z vs ∧ oT.data = .cell (some (.ref D)) ∧ News h₀ L s'.heap ((L + 2, oT) :: (L + 1, oH) :: (D, tupO vs c) :: news) ∧ D ≠ L + 1 ∧ D ≠ L + 2 ∧ ∀ p ∈ news, p.1 < D
noncomputable def Q10 (h₀ : Heap) (L : Addr) (m : Str → Option Value) (news : List (Addr × Obj)) (oT : Obj) (v : Value) (s : Shared) (f : Flow) (s' : Shared) : Prop :=
  f = .next ∧ Same s s' ∧ Fr h₀ L s'.heap m ∧ ∃ oH, oH.data = .cell (some v) ∧ News h₀ L s'.heap ((L + 2, oT) :: (L + 1, oH) :: news)
theorem T11 (w : World) (mean : ExcName → Option Value) (mg mb : Str → Option Value) (h₀ : Heap) (L fa : Addr) (cd : Value) (s : Shared)
    (T : Top Mine.view (looseW Mine.view []) mean mg mb h₀) (X : (Mine.hd.heap_1 w.params).In h₀)
    (m : Str → Option Value) (news : List (Addr × Obj)) (tx : Str) (t5 : Tok) (bo : Str) (t6 : Tok) (ti : Int) (t7 : Tok) (al : ti < 5 → AlC w (Str.ofString "SunOS") tx bo (Str.ofString "SunOS") tx bo) (ok1 : PyData.strOk tx = true) (ok2 : PyData.strOk bo = true) (hv5 : m (Str.ofString "text") = some (.str tx t5)) (hv6 : m (Str.ofString "both") = some (.str bo t6)) (hv7 : m (Str.ofString "times") = some (.int ti t7))
    (F : Fr h₀ L s.heap m) (N : News h₀ L s.heap (news))
    (hz : PySem.Challenge.rw_ny0075_01 = PySem.Challenge.rw_ny0075_01) :
    wpAny (model PySem.Challenge.rw_ny0075_01.row.prog w) (lawA L fa cd) (exec (lawT 11) (lawEnv L fa cd))
      (Q0 h₀ L m news s) (fun _ _ => False) s := by
  w_on
  replace F : Fr h₀ L s.heap (fun z => if z = Str.ofString "text" then some (.str tx t5) else if z = Str.ofString "both" then some (.str bo t6) else if z = Str.ofString "times" then some (.int ti t7) else m z) := Fr.eqm F (fun z => by
    (repeat' split) <;> (first | rfl | (subst_vars; assumption)))
  revert X hz
  k_fill
  intro X hz
  have K0 := below_caller h₀
  dsimp only [forBody, lawP, lawT, lawU, lawB, nthS, hdS, bodyOf, List.drop, lawA, lawEnv, lawS, scopeOf]
  w_top on
  w_strict (
    have ok9 : PyData.strOk (Str.ofString "SunOS") = true := by decide +kernel
    have ok8 : PyData.strOk (Str.ofString "Solaris") = true := by decide +kernel
    by_cases h : ti < 5
    · replace al := al h
      k_steps
      all_goals first | exact ⟨rfl, ⟨rfl, rfl⟩, (Fr.eqm (by assumption) (fun z => by
      (try unfold upd)
      (repeat' split) <;> (first | rfl | (subst_vars; first | assumption | (symm; assumption)) | contradiction))), (fun p hp => (by assumption : News h₀ L _ _) p (by (repeat (first | exact hp | apply List.Mem.tail | apply List.mem_append_right))))⟩
    · clear al
      k_steps
      all_goals first | exact ⟨rfl, ⟨rfl, rfl⟩, (Fr.eqm (by assumption) (fun z => by
      (try unfold upd)
      (repeat' split) <;> (first | rfl | (subst_vars; first | assumption | (symm; assumption)) | contradiction))), (fun p hp => (by assumption : News h₀ L _ _) p (by (repeat (first | exact hp | apply List.Mem.tail | apply List.mem_append_right))))⟩)
theorem U0 (w : World) (mean : ExcName → Option Value) (mg mb : Str → Option Value) (h₀ : Heap) (L fa : Addr) (cd : Value) (s : Shared)
    (T : Top Mine.view (looseW Mine.view []) mean mg mb h₀) (X : (Mine.hd.heap_1 w.params).In h₀)
    (m : Str → Option Value) (news : List (Addr × Obj)) (sx : Int) (t1 : Tok) (st : Int) (t11 : Tok)  (hv1 : m (Str.ofString "sixth") = some (.int sx t1)) (hv11 : m (Str.ofString "step") = some (.int st t11))
    (F : Fr h₀ L s.heap m) (N : News h₀ L s.heap (news))
    (hz : PySem.Challenge.rw_ny0075_01 = PySem.Challenge.rw_ny0075_01) :
    wpAny (model PySem.Challenge.rw_ny0075_01.row.prog w) (lawA L fa cd) (exec (lawU 0) (lawEnv L fa cd))
      (Q1 h₀ L m news (Str.ofString "left") (fun v tl => IsInt (sx - 3 * st - 3) v ∧ tl = []) s) (fun _ _ => False) s := by
  w_on
  replace F : Fr h₀ L s.heap (fun z => if z = Str.ofString "sixth" then some (.int sx t1) else if z = Str.ofString "step" then some (.int st t11) else m z) := Fr.eqm F (fun z => by
    (repeat' split) <;> (first | rfl | (subst_vars; assumption)))
  revert X hz
  k_fill
  intro X hz
  have K0 := below_caller h₀
  dsimp only [forBody, lawP, lawT, lawU, lawB, nthS, hdS, bodyOf, List.drop, lawA, lawEnv, lawS, scopeOf]
  w_top on
  w_strict (
    k_steps
    all_goals first | exact ⟨rfl, ⟨rfl, rfl⟩, Nat.succ_le_succ (Nat.zero_le _), _, [], ⟨⟨_, rfl⟩, rfl⟩, (Fr.eqm (by assumption) (fun z => by
      (try unfold upd)
      (repeat' split) <;> (first | rfl | (subst_vars; first | assumption | (symm; assumption)) | contradiction))), (fun p hp => (by assumption : News h₀ L _ _) p (by (repeat (first | exact hp | apply List.Mem.tail | apply List.mem_append_right)))), fun p hp => nomatch hp⟩)
theorem U1 (w : World) (mean : ExcName → Option Value) (mg mb : Str → Option Value) (h₀ : Heap) (L fa : Addr) (cd : Value) (s : Shared)
    (T : Top Mine.view (looseW Mine.view []) mean mg mb h₀) (X : (Mine.hd.heap_1 w.params).In h₀)
    (m : Str → Option Value) (news : List (Addr × Obj)) (tx : Str) (t5 : Tok) (bo : Str) (t6 : Tok) (re : Str) (al : AlC w (Str.ofString "SunOS") tx bo (Str.ofString "Solaris") re bo) (hv5 : m (Str.ofString "text") = some (.str tx t5)) (hv6 : m (Str.ofString "both") = some (.str bo t6))
    (F : Fr h₀ L s.heap m) (N : News h₀ L s.heap (news))
    (hz : PySem.Challenge.rw_ny0075_01 = PySem.Challenge.rw_ny0075_01) :
    wpAny (model PySem.Challenge.rw_ny0075_01.row.prog w) (lawA L fa cd) (exec (lawU 1) (lawEnv L fa cd))
      (Q1 h₀ L m news (Str.ofString "told") (Tup (Str3 (Str.ofString "Solaris") re bo)) s) (fun _ _ => False) s := by
  w_on
  replace F : Fr h₀ L s.heap (fun z => if z = Str.ofString "text" then some (.str tx t5) else if z = Str.ofString "both" then some (.str bo t6) else m z) := Fr.eqm F (fun z => by
    (repeat' split) <;> (first | rfl | (subst_vars; assumption)))
  revert X hz
  k_fill
  intro X hz
  have K0 := below_caller h₀
  dsimp only [forBody, lawP, lawT, lawU, lawB, nthS, hdS, bodyOf, List.drop, lawA, lawEnv, lawS, scopeOf]
  w_top on
  w_strict (
    k_steps
    refine ⟨rfl, ⟨rfl, rfl⟩, Nat.succ_le_succ (Nat.zero_le _), _, [(_, _)], ⟨_, _, _, ⟨_, _, _, rfl⟩, rfl, rfl⟩, (Fr.eqm (by assumption) (fun z => by
      (try unfold upd)
      (repeat' split) <;> (first | rfl | (subst_vars; first | assumption | (symm; assumption)) | contradiction))), (by assumption : News h₀ L _ (_ :: news)), fun p hp q hq => ?_⟩
    rw [List.mem_singleton.mp hp]
    exact (by assumption : ∀ q ∈ news, q.1 < _) q hq)
theorem U2 (w : World) (mean : ExcName → Option Value) (mg mb : Str → Option Value) (h₀ : Heap) (L fa : Addr) (cd : Value) (s : Shared)
    (T : Top Mine.view (looseW Mine.view []) mean mg mb h₀) (X : (Mine.hd.heap_1 w.params).In h₀)
    (m : Str → Option Value) (news : List (Addr × Obj)) (pa : Int) (t2 : Tok) (bo : Str) (t6 : Tok) (le : Int) (t12 : Tok) (Dt : Addr) (re : Str) (b1 b2 b3 : Tok) (ct : Nat) (ri : RiC w le pa re)(ok1 : PyData.strOk re = true) (ok2 : PyData.strOk bo = true) (hv2 : m (Str.ofString "part") = some (.int pa t2)) (hv6 : m (Str.ofString "both") = some (.str bo t6)) (hv12 : m (Str.ofString "left") = some (.int le t12)) (hv14 : m (Str.ofString "told") = some (.ref Dt))
    (F : Fr h₀ L s.heap m) (N : News h₀ L s.heap ((Dt, tupO [.str (Str.ofString "Solaris") b1, .str re b2, .str bo b3] ct) :: news))
    (hz : PySem.Challenge.rw_ny0075_01 = PySem.Challenge.rw_ny0075_01) :
    wpAny (model PySem.Challenge.rw_ny0075_01.row.prog w) (lawA L fa cd) (exec (lawU 2) (lawEnv L fa cd))
      (Q0 h₀ L m ((Dt, tupO [.str (Str.ofString "Solaris") b1, .str re b2, .str bo b3] ct) :: news) s) (fun _ _ => False) s := by
  w_on
  replace F : Fr h₀ L s.heap (fun z => if z = Str.ofString "part" then some (.int pa t2) else if z = Str.ofString "both" then some (.str bo t6) else if z = Str.ofString "left" then some (.int le t12) else if z = Str.ofString "told" then some (.ref Dt) else m z) := Fr.eqm F (fun z => by
    (repeat' split) <;> (first | rfl | (subst_vars; assumption)))
  revert X hz
  k_fill
  intro X hz
  have K0 := below_caller h₀
  dsimp only [forBody, lawP, lawT, lawU, lawB, nthS, hdS, bodyOf, List.drop, lawA, lawEnv, lawS, scopeOf]
  w_top on
  w_strict (
    have ok9 : PyData.strOk (Str.ofString "SunOS") = true := by decide +kernel
    have ok8 : PyData.strOk (Str.ofString "Solaris") = true := by decide +kernel
    k_steps
    all_goals first | exact ⟨rfl, ⟨rfl, rfl⟩, (Fr.eqm (by assumption) (fun z => by
      (try unfold upd)
      (repeat' split) <;> (first | rfl | (subst_vars; first | assumption | (symm; assumption)) | contradiction))), (fun p hp => (by assumption : News h₀ L _ _) p (by (repeat (first | exact hp | apply List.Mem.tail | apply List.mem_append_right))))⟩)
theorem U3 (w : World) (mean : ExcName → Option Value) (mg mb : Str → Option Value) (h₀ : Heap) (L fa : Addr) (cd : Value) (s : Shared)
    (T : Top Mine.view (looseW Mine.view []) mean mg mb h₀) (X : (Mine.hd.heap_1 w.params).In h₀)
    (m : Str → Option Value) (news : List (Addr × Obj)) (Dt : Addr) (sy re : Str) (b1 b2 b3 : Tok) (ct : Nat) (bo : Str) (hv14 : m (Str.ofString "told") = some (.ref Dt))
    (F : Fr h₀ L s.heap m) (N : News h₀ L s.heap ((Dt, tupO [.str sy b1, .str re b2, .str bo b3] ct) :: news))
    (hz : PySem.Challenge.rw_ny0075_01 = PySem.Challenge.rw_ny0075_01) :
    wpAny (model PySem.Challenge.rw_ny0075_01.row.prog w) (lawA L fa cd) (exec (lawU 3) (lawEnv L fa cd))
      (Q1 h₀ L m ((Dt, tupO [.str sy b1, .str re b2, .str bo b3] ct) :: news) (Str.ofString "text") (fun v tl => IsStr re v ∧ tl = []) s) (fun _ _ => False) s := by
  w_on
  replace F : Fr h₀ L s.heap (fun z => if z = Str.ofString "told" then some (.ref Dt) else m z) := Fr.eqm F (fun z => by
    (repeat' split) <;> (first | rfl | (subst_vars; assumption)))
  revert X hz
  k_fill
  intro X hz
  have K0 := below_caller h₀
  dsimp only [forBody, lawP, lawT, lawU, lawB, nthS, hdS, bodyOf, List.drop, lawA, lawEnv, lawS, scopeOf]
  w_top on
  w_strict (
    k_steps
    all_goals first | exact ⟨rfl, ⟨rfl, rfl⟩, Nat.succ_le_succ (Nat.zero_le _), _, [], ⟨⟨_, rfl⟩, rfl⟩, (Fr.eqm (by assumption) (fun z => by
      (try unfold upd)
      (repeat' split) <;> (first | rfl | (subst_vars; first | assumption | (symm; assumption)) | contradiction))), (fun p hp => (by assumption : News h₀ L _ _) p (by (repeat (first | exact hp | apply List.Mem.tail | apply List.mem_append_right)))), fun p hp => nomatch hp⟩)
theorem U4 (w : World) (mean : ExcName → Option Value) (mg mb : Str → Option Value) (h₀ : Heap) (L fa : Addr) (cd : Value) (s : Shared)
    (T : Top Mine.view (looseW Mine.view []) mean mg mb h₀) (X : (Mine.hd.heap_1 w.params).In h₀)
    (m : Str → Option Value) (news : List (Addr × Obj)) (tx : Str) (t5 : Tok) (Dt : Addr) (sy re : Str) (b1 b2 b3 : Tok) (ct : Nat) (bo : Str)(oT oH : Obj) (vT vH : Option Value) (hoT : oT.data = .cell vT) (hoH : oH.data = .cell vH) (hc1 : ∀ p ∈ (Dt, tupO [.str sy b1, .str re b2, .str bo b3] ct) :: news, p.1 ≠ L + 1) (hc2 : ∀ p ∈ (Dt, tupO [.str sy b1, .str re b2, .str bo b3] ct) :: news, p.1 ≠ L + 2)(x y z : UInt64) (co : CoC w tx bo x y z) (hv5 : m (Str.ofString "text") = some (.str tx t5)) (hv14 : m (Str.ofString "told") = some (.ref Dt))
    (F : Fr h₀ L s.heap m) (N : News h₀ L s.heap ((L + 2, oT) :: (L + 1, oH) :: (Dt, tupO [.str sy b1, .str re b2, .str bo b3] ct) :: news))
    (hz : PySem.Challenge.rw_ny0075_01 = PySem.Challenge.rw_ny0075_01) :
    wpAny (model PySem.Challenge.rw_ny0075_01.row.prog w) (lawA L fa cd) (exec (lawU 4) (lawEnv L fa cd))
      (Q4 h₀ L m ((Dt, tupO [.str sy b1, .str re b2, .str bo b3] ct) :: news) oH x y z s) (fun _ _ => False) s := by
  w_on
  replace F : Fr h₀ L s.heap (fun z => if z = Str.ofString "text" then some (.str tx t5) else if z = Str.ofString "told" then some (.ref Dt) else m z) := Fr.eqm F (fun z => by
    (repeat' split) <;> (first | rfl | (subst_vars; assumption)))
  revert X hz
  k_fill
  intro X hz
  have K0 := below_caller h₀
  dsimp only [forBody, lawP, lawT, lawU, lawB, nthS, hdS, bodyOf, List.drop, lawA, lawEnv, lawS, scopeOf]
  w_top on
  w_strict (
    k_steps
    have l9 := (by assumption : L + 2 < _ ∧ L + 1 < _ ∧ _ < _ ∧ AllLt _ _)
    refine ⟨rfl, ⟨rfl, rfl⟩, (Fr.eqm (by assumption) (fun z => by
      (try unfold upd)
      (repeat' split) <;> (first | rfl | (subst_vars; first | assumption | (symm; assumption)) | contradiction))), _, _, _, _, ⟨_, _, _, ?_, rfl⟩, by assumption, News.rot (by assumption), neN (by omega), neN (by omega), List.forall_mem_cons.mpr ⟨l9.2.2.1, ktn_ltOf l9.2.2.2⟩⟩
    exact ⟨by assumption, by assumption, by assumption⟩)
theorem U7 (w : World) (mean : ExcName → Option Value) (mg mb : Str → Option Value) (h₀ : Heap) (L fa : Addr) (cd : Value) (s : Shared)
    (T : Top Mine.view (looseW Mine.view []) mean mg mb h₀) (X : (Mine.hd.heap_1 w.params).In h₀)
    (m : Str → Option Value) (news : List (Addr × Obj)) (pl : Int) (t3 : Tok)  (hv3 : m (Str.ofString "pale") = some (.int pl t3))
    (F : Fr h₀ L s.heap m) (N : News h₀ L s.heap (news))
    (hz : PySem.Challenge.rw_ny0075_01 = PySem.Challenge.rw_ny0075_01) :
    wpAny (model PySem.Challenge.rw_ny0075_01.row.prog w) (lawA L fa cd) (exec (lawU 7) (lawEnv L fa cd))
      (Q1 h₀ L m news (Str.ofString "short") (fun v tl => IsInt (2 * pl + 1) v ∧ tl = []) s) (fun _ _ => False) s := by
  w_on
  replace F : Fr h₀ L s.heap (fun z => if z = Str.ofString "pale" then some (.int pl t3) else m z) := Fr.eqm F (fun z => by
    (repeat' split) <;> (first | rfl | (subst_vars; assumption)))
  revert X hz
  k_fill
  intro X hz
  have K0 := below_caller h₀
  dsimp only [forBody, lawP, lawT, lawU, lawB, nthS, hdS, bodyOf, List.drop, lawA, lawEnv, lawS, scopeOf]
  w_top on
  w_strict (
    k_steps
    all_goals first | exact ⟨rfl, ⟨rfl, rfl⟩, Nat.succ_le_succ (Nat.zero_le _), _, [], ⟨⟨_, rfl⟩, rfl⟩, (Fr.eqm (by assumption) (fun z => by
      (try unfold upd)
      (repeat' split) <;> (first | rfl | (subst_vars; first | assumption | (symm; assumption)) | contradiction))), (fun p hp => (by assumption : News h₀ L _ _) p (by (repeat (first | exact hp | apply List.Mem.tail | apply List.mem_append_right)))), fun p hp => nomatch hp⟩)
theorem U10 (w : World) (mean : ExcName → Option Value) (mg mb : Str → Option Value) (h₀ : Heap) (L fa : Addr) (cd : Value) (s : Shared)
    (T : Top Mine.view (looseW Mine.view []) mean mg mb h₀) (X : (Mine.hd.heap_1 w.params).In h₀)
    (m : Str → Option Value) (news : List (Addr × Obj)) (D : Addr) (oT oH : Obj) (vH : Option Value) (hoT : oT.data = .cell (some (.ref D))) (hoH : oH.data = .cell vH) (hc1 : ∀ p ∈ news, p.1 ≠ L + 1) (hc2 : ∀ p ∈ news, p.1 ≠ L + 2) 
    (F : Fr h₀ L s.heap m) (N : News h₀ L s.heap ((L + 2, oT) :: (L + 1, oH) :: news))
    (hz : PySem.Challenge.rw_ny0075_01 = PySem.Challenge.rw_ny0075_01) :
    wpAny (model PySem.Challenge.rw_ny0075_01.row.prog w) (lawA L fa cd) (exec (lawU 10) (lawEnv L fa cd))
      (Q10 h₀ L m news oT (.ref D) s) (fun _ _ => False) s := by
  w_on
  revert X hz
  k_fill
  intro X hz
  have K0 := below_caller h₀
  dsimp only [forBody, lawP, lawT, lawU, lawB, nthS, hdS, bodyOf, List.drop, lawA, lawEnv, lawS, scopeOf]
  w_top on
  w_strict (
    k_steps
    exact ⟨rfl, ⟨rfl, rfl⟩, by assumption, _, by assumption, by assumption⟩)
end Mine
end
section
open PySem PySem.W PyProof.Rows PySem.Calls
set_option maxRecDepth 100000
set_option maxHeartbeats 8000000
namespace Mine
local macro_rules | `(tactic| walk_at "compareOp NotEq ref ref") => `(tactic| (k_here; k_dflt (refine ne_eq3 (by k_asm) (by k_mem) (by k_mem) (by ke_room) (booked' (by k_asm) (by k_asm)) (by assumption) (by assumption) (by assumption) (by assumption) ?_)))
theorem U6 (w : World) (mean : ExcName → Option Value) (mg mb : Str → Option Value) (h₀ : Heap) (L fa : Addr) (cd : Value) (s : Shared)
    (T : Top Mine.view (looseW Mine.view []) mean mg mb h₀) (X : (Mine.hd.heap_1 w.params).In h₀)
    (m : Str → Option Value) (news : List (Addr × Obj)) (pa : Int) (t2 : Tok) (pl : Int) (t3 : Tok) (li : Int) (t4 : Tok) (le : Int) (t12 : Tok) (D : Addr) (c : Nat) (x y z : UInt64) (a1 a2 a3 : Tok) (hn1 : a1 ≠ 0) (hn2 : a2 ≠ 0) (hn3 : a3 ≠ 0) (oT oH : Obj) (vH : Option Value) (hoT : oT.data = .cell (some (.ref D))) (hoH : oH.data = .cell vH)(h l sa : UInt64) (rg : RgC w x y z h l sa) (hl : HlC w (le * 16 + pa) pl li (Eq3 h l sa)) (hv2 : m (Str.ofString "part") = some (.int pa t2)) (hv3 : m (Str.ofString "pale") = some (.int pl t3)) (hv4 : m (Str.ofString "light") = some (.int li t4)) (hv12 : m (Str.ofString "left") = some (.int le t12))
    (F : Fr h₀ L s.heap m) (N : News h₀ L s.heap ((L + 2, oT) :: (L + 1, oH) :: (D, tupO [.float x a1, .float y a2, .float z a3] c) :: news))
    (hz : PySem.Challenge.rw_ny0075_01 = PySem.Challenge.rw_ny0075_01) :
    wpAny (model PySem.Challenge.rw_ny0075_01.row.prog w) (lawA L fa cd) (exec (lawU 6) (lawEnv L fa cd))
      (Q0 h₀ L m ((L + 2, oT) :: (L + 1, oH) :: (D, tupO [.float x a1, .float y a2, .float z a3] c) :: news) s) (fun _ _ => False) s := by
  w_on
  replace F : Fr h₀ L s.heap (fun z => if z = Str.ofString "part" then some (.int pa t2) else if z = Str.ofString "pale" then some (.int pl t3) else if z = Str.ofString "light" then some (.int li t4) else if z = Str.ofString "left" then some (.int le t12) else m z) := Fr.eqm F (fun z => by
    (repeat' split) <;> (first | rfl | (subst_vars; assumption)))
  revert X hz
  k_fill
  intro X hz
  have K0 := below_caller h₀
  dsimp only [forBody, lawP, lawT, lawU, lawB, nthS, hdS, bodyOf, List.drop, lawA, lawEnv, lawS, scopeOf]
  w_top on
  w_strict (
    k_steps
    all_goals first | exact ⟨rfl, ⟨rfl, rfl⟩, (Fr.eqm (by assumption) (fun z => by
      (try unfold upd)
      (repeat' split) <;> (first | rfl | (subst_vars; first | assumption | (symm; assumption)) | contradiction))), (fun p hp => (by assumption : News h₀ L _ _) p (by (repeat (first | exact hp | apply List.Mem.tail | apply List.mem_append_right))))⟩)
theorem U8 (w : World) (mean : ExcName → Option Value) (mg mb : Str → Option Value) (h₀ : Heap) (L fa : Addr) (cd : Value) (s : Shared)
    (T : Top Mine.view (looseW Mine.view []) mean mg mb h₀) (X : (Mine.hd.heap_1 w.params).In h₀)
    (m : Str → Option Value) (news : List (Addr × Obj)) (le : Int) (t12 : Tok) (so : Int) (t13 : Tok) (hb0 : 0 ≤ le) (hb1 : le < 1000000) (hb2 : 0 ≤ so) (hb3 : so < 100) (x y z : UInt64) (hs : HsC w (fdivI le 6) (fdivI so (2 ^ 53)) (fdivI 8 8) x y z) (hv12 : m (Str.ofString "left") = some (.int le t12)) (hv13 : m (Str.ofString "short") = some (.int so t13))
    (F : Fr h₀ L s.heap m) (N : News h₀ L s.heap (news))
    (hz : PySem.Challenge.rw_ny0075_01 = PySem.Challenge.rw_ny0075_01) :
    wpAny (model PySem.Challenge.rw_ny0075_01.row.prog w) (lawA L fa cd) (exec (lawU 8) (lawEnv L fa cd))
      (Q1 h₀ L m news (Str.ofString "white") (Tup (Flo3 x y z)) s) (fun _ _ => False) s := by
  w_on
  replace F : Fr h₀ L s.heap (fun z => if z = Str.ofString "left" then some (.int le t12) else if z = Str.ofString "short" then some (.int so t13) else m z) := Fr.eqm F (fun z => by
    (repeat' split) <;> (first | rfl | (subst_vars; assumption)))
  revert X hz
  k_fill
  intro X hz
  have K0 := below_caller h₀
  dsimp only [forBody, lawP, lawT, lawU, lawB, nthS, hdS, bodyOf, List.drop, lawA, lawEnv, lawS, scopeOf]
  w_top on
  w_strict (
    k_steps
    all_goals first
    | (exfalso; refine fin_all (by assumption) ?_ (by decide); omega)
    | skip
    refine ⟨rfl, ⟨rfl, rfl⟩, Nat.succ_le_succ (Nat.zero_le _), _, [(_, _)], ⟨_, _, _, ⟨_, _, _, ?_, rfl⟩, rfl, rfl⟩, (Fr.eqm (by assumption) (fun z => by
      (try unfold upd)
      (repeat' split) <;> (first | rfl | (subst_vars; first | assumption | (symm; assumption)) | contradiction))), (by assumption : News h₀ L _ (_ :: news)), fun p hp q hq => ?_⟩
    · exact ⟨by assumption, by assumption, by assumption⟩
    · rw [List.mem_singleton.mp hp]
      exact (by assumption : ∀ q ∈ news, q.1 < _) q hq)
local macro_rules | `(tactic| walk_at "compareOp NotEq ref ref") => `(tactic| (k_here; k_dflt (refine ne_tup3 (by k_asm) (by k_mem) (by k_mem) (by ke_room) (eqAt_cc (by assumption) (Nat.succ_ne_zero _) (booked' (by k_asm) (by k_asm)) (by assumption)) (eqAt_cc (by assumption) (Nat.succ_ne_zero _) (booked' (by k_asm) (by k_asm)) (by assumption)) (eqAt_fi (by assumption)) ?_)))
theorem U9 (w : World) (mean : ExcName → Option Value) (mg mb : Str → Option Value) (h₀ : Heap) (L fa : Addr) (cd : Value) (s : Shared)
    (T : Top Mine.view (looseW Mine.view []) mean mg mb h₀) (X : (Mine.hd.heap_1 w.params).In h₀)
    (m : Str → Option Value) (news : List (Addr × Obj)) (le : Int) (t12 : Tok) (so : Int) (t13 : Tok) (Dw : Addr) (c : Nat) (x y z : UInt64) (a1 a2 a3 : Tok) (hn1 : a1 ≠ 0) (hn2 : a2 ≠ 0) (hn3 : a3 ≠ 0) (hb0 : 0 ≤ le) (hb1 : le < 1000000) (hb2 : 0 ≤ so) (hb3 : so < 100) (h l sa : UInt64) (rg : RgC w x y z h l sa) (hw1 : (Float64.cmp h (fdivI (le.fmod 6) 6) == some Ordering.eq) = true) (hw2 : (Float64.cmp l (fdivI ((2 : Int) ^ Int.toNat 54 - so) ((2 : Int) ^ Int.toNat 54)) == some Ordering.eq) = true) (hw3 : (Float64.cmpInt sa 1 == some Ordering.eq) = true) (hv12 : m (Str.ofString "left") = some (.int le t12)) (hv13 : m (Str.ofString "short") = some (.int so t13)) (hv15 : m (Str.ofString "white") = some (.ref Dw))
    (F : Fr h₀ L s.heap m) (N : News h₀ L s.heap ((Dw, tupO [.float x a1, .float y a2, .float z a3] c) :: news))
    (hz : PySem.Challenge.rw_ny0075_01 = PySem.Challenge.rw_ny0075_01) :
    wpAny (model PySem.Challenge.rw_ny0075_01.row.prog w) (lawA L fa cd) (exec (lawU 9) (lawEnv L fa cd))
      (Q0 h₀ L m ((Dw, tupO [.float x a1, .float y a2, .float z a3] c) :: news) s) (fun _ _ => False) s := by
  w_on
  replace F : Fr h₀ L s.heap (fun z => if z = Str.ofString "left" then some (.int le t12) else if z = Str.ofString "short" then some (.int so t13) else if z = Str.ofString "white" then some (.ref Dw) else m z) := Fr.eqm F (fun z => by
    (repeat' split) <;> (first | rfl | (subst_vars; assumption)))
  revert X hz
  k_fill
  intro X hz
  have K0 := below_caller h₀
  dsimp only [forBody, lawP, lawT, lawU, lawB, nthS, hdS, bodyOf, List.drop, lawA, lawEnv, lawS, scopeOf]
  w_top on
  w_strict (
    k_steps
    all_goals first
    | exact ⟨rfl, ⟨rfl, rfl⟩, (Fr.eqm (by assumption) (fun z => by
      (try unfold upd)
      (repeat' split) <;> (first | rfl | (subst_vars; first | assumption | (symm; assumption)) | contradiction))), (fun p hp => (by assumption : News h₀ L _ _) p (by (repeat (first | exact hp | apply List.Mem.tail | apply List.mem_append_right))))⟩
    | (exfalso; refine fin_all (by assumption) ?_ (by decide); have : (0 : Int) ≤ le.fmod 6 ∧ le.fmod 6 < 6 := (by rw [Int.fmod_eq_emod_of_nonneg _ (by decide)]; omega); omega))
end Mine
end
section
open PySem PySem.W PyProof.Rows PySem.Calls
set_option maxRecDepth 100000
set_option maxHeartbeats 8000000
namespace Mine
theorem U5 (w : World) (mean : ExcName → Option Value) (mg mb : Str → Option Value) (h₀ : Heap) (L fa : Addr) (cd : Value) (s : Shared)
    (T : Top Mine.view (looseW Mine.view []) mean mg mb h₀) (X : (Mine.hd.heap_1 w.params).In h₀)
    (m : Str → Option Value) (news : List (Addr × Obj)) (pl : Int) (t3 : Tok) (li : Int) (t4 : Tok) (D1 D2 : Addr) (c1 c2 : Nat) (x1 y1 z1 x2 y2 z2 : UInt64) (a1 a2 a3 b1 b2 b3 : Tok) (oT oH : Obj) (hoT : oT.data = .cell (some (.ref D2))) (hoH : oH.data = .cell (some (.ref D1)))(hb0 : 0 ≤ pl) (hb1 : pl < 9) (hb2 : 0 ≤ li) (hb3 : li < 9) (hs1 : 1 ≤ s.toks) (e1 : (Float64.cmp (Float64.add x1 x2) (fdivI (li * (16 - pl)) 64) == some Ordering.eq) = true) (e2 : (Float64.cmp (Float64.add y1 y2) (fdivI (li * (16 - pl)) 64) == some Ordering.eq) = true) (e3 : (Float64.cmp (Float64.add z1 z2) (fdivI (li * (16 - pl)) 64) == some Ordering.eq) = true) (hv3 : m (Str.ofString "pale") = some (.int pl t3)) (hv4 : m (Str.ofString "light") = some (.int li t4))
    (F : Fr h₀ L s.heap m) (N : News h₀ L s.heap ((L + 2, oT) :: (L + 1, oH) :: (D1, tupO [.float x1 a1, .float y1 a2, .float z1 a3] c1) :: (D2, tupO [.float x2 b1, .float y2 b2, .float z2 b3] c2) :: news))
    (hz : PySem.Challenge.rw_ny0075_01 = PySem.Challenge.rw_ny0075_01) :
    wpAny (model PySem.Challenge.rw_ny0075_01.row.prog w) (lawA L fa cd) (exec (lawU 5) (lawEnv L fa cd))
      (Q0 h₀ L m ((L + 2, oT) :: (L + 1, oH) :: (D1, tupO [.float x1 a1, .float y1 a2, .float z1 a3] c1) :: (D2, tupO [.float x2 b1, .float y2 b2, .float z2 b3] c2) :: news) s) (fun _ _ => False) s := by
  w_on
  replace F : Fr h₀ L s.heap (fun z => if z = Str.ofString "pale" then some (.int pl t3) else if z = Str.ofString "light" then some (.int li t4) else m z) := Fr.eqm F (fun z => by
    (repeat' split) <;> (first | rfl | (subst_vars; assumption)))
  revert X hz
  k_fill
  intro X hz
  have K0 := below_caller h₀
  dsimp only [forBody, lawP, lawT, lawU, lawB, nthS, hdS, bodyOf, List.drop, lawA, lawEnv, lawS, scopeOf]
  w_top on
  w_strict (
    iterate 2 (first | walk1 | (dsimp only; walk1))
    refine ListComp_T (h₀ := h₀) (L := L) (Float64.add x1 x2) (Float64.add y1 y2) (Float64.add z1 z2) (by k_asm) (by rfl) (by with_unfolding_all rfl) (by decide) (by rfl) (by decide) (by rfl) ?_
    refine wpAny_with_toks (n := 1) hs1 ?_
    iterate 8 (first | walk1 | (dsimp only; walk1))
    refine ⟨_, _, _, _, _, rfl, by assumption, by assumption, by assumption, by assumption, ?_, ?_, ?_, ?_⟩
    · unfold TurnT
      intro t' C' oC' m' s3 E' hC' hx' F' N' h3
      k_steps
      exact ⟨⟨_, Nat.ne_of_gt h3, rfl⟩, _, rfl⟩
    · unfold TurnT
      intro t' C' oC' m' s3 E' hC' hx' F' N' h3
      k_steps
      exact ⟨⟨_, Nat.ne_of_gt h3, rfl⟩, _, rfl⟩
    · unfold TurnT
      intro t' C' oC' m' s3 E' hC' hx' F' N' h3
      k_steps
      exact ⟨⟨_, Nat.ne_of_gt h3, rfl⟩, _, rfl⟩
    · intro D' h' tk' n' u0 u1 u2 hu0 hu1 hu2 F' N'
      k_steps
      · have hT := twice_in hb0 hb1 hb2 hb3
        exact fin_all (by assumption) (by omega) (by decide)
      refine' KMa.mul (vs := [_]) (ws := [_, _, _]) ?F ?N ⟨_, News.get (by k_asm) (by k_mem), rfl, _, rfl⟩ (by decide) (by decide) (show 1 * 3 ≤ 256 by decide) rfl ?_
      case F => k_asm
      case N => k_asm
      intro D9 h9 F9 N9 l9
      refine ne_lst3 N9 (by k_mem) (by k_mem) rfl rfl rfl rfl rfl rfl (by ke_room) (eqAt_cc hu0 (Nat.succ_ne_zero _) (booked' (by k_asm) (by k_asm)) e1) (eqAt_cc hu1 (Nat.succ_ne_zero _) (booked' (by k_asm) (by k_asm)) e2) (eqAt_cc hu2 (Nat.succ_ne_zero _) (booked' (by k_asm) (by k_asm)) e3) ?_
      k_steps
      exact ⟨rfl, ⟨rfl, rfl⟩, (Fr.eqm (by assumption) (fun z => by
      (try unfold upd)
      (repeat' split) <;> (first | rfl | (subst_vars; first | assumption | (symm; assumption)) | contradiction))), (fun p hp => (by assumption : News h₀ L _ _) p (by (repeat (first | exact hp | apply List.Mem.tail | apply List.mem_append_right))))⟩)
end Mine
end
end
section
open PySem PySem.W PyProof.Rows PySem.Calls
set_option maxRecDepth 100000
set_option maxHeartbeats 8000000
namespace Mine
theorem body10 : forBody (lawT 10) = [lawU 0, lawU 1, lawU 2, lawU 3, lawU 4, lawU 5, lawU 6, lawU 7, lawU 8, lawU 9, lawU 10] := rfl
theorem body6 : forBody (lawP 6) = [lawT 0, lawT 1, lawT 2, lawT 3, lawT 4, lawT 5, lawT 6, lawT 7, lawT 8, lawT 9, lawT 10, lawT 11] := rfl
theorem body0 : lawB = [lawP 0, lawP 1, lawP 2, lawP 3, lawP 4, lawP 5, lawP 6, lawP 7] := rfl
theorem wpC.seq {M : Model} {A : Around} {E : Value → Shared → Prop} {s : Shared} {env : Env} {st : Stmt} {rest : List Stmt} {Q Q1 : Flow → Shared → Prop}
    (h1 : wpC M A (exec st env) Q1 E s) (h2 : ∀ f s', Q1 f s' → f = .next ∧ wpC M A (PySem.execs rest env) Q E s') : wpC M A (PySem.execs (st :: rest) env) Q E s :=
  wpC.execs (h1.mono (fun f s' h => by obtain ⟨rfl, h'⟩ := h2 f s' h; exact h') fun _ _ x => x)
theorem wpC.seqR {M : Model} {A : Around} {E : Value → Shared → Prop} {s : Shared} {env : Env} {st : Stmt} {rest : List Stmt} {Q Q1 : Flow → Shared → Prop}
    (h1 : RunC M A st env Q1 E s) (h2 : ∀ f s', Q1 f s' → f = .next ∧ wpC M A (PySem.execs rest env) Q E s') : wpC M A (PySem.execs (st :: rest) env) Q E s := wpC.seq h1.out h2
theorem News.sub {h₀ h : Heap} {L : Addr} {a b : List (Addr × Obj)} (N : News h₀ L h a) (hs : ∀ p ∈ b, p ∈ a) : News h₀ L h b := fun p hp => N p (hs p hp)
theorem Same.trans {a b c : Shared} (h : Same a b) (k : Same b c) : Same a c := ⟨k.1.trans h.1, k.2.trans h.2⟩
/-- one turn's facts -/
structure StepOk (w : World) (le pa pl li : Int) (tx tx' bo : Str) (x y z x' y' z' : UInt64) : Prop where
  al : AlC w (Str.ofString "SunOS") tx bo (Str.ofString "Solaris") tx' bo
  ri : RiC w le pa tx'
  ok1 : PyData.strOk tx' = true
  ok2 : PyData.strOk bo = true
  co : CoC w tx' bo x' y' z'
  e1 : (Float64.cmp (Float64.add x x') (fdivI (li * (16 - pl)) 64) == some Ordering.eq) = true
  e2 : (Float64.cmp (Float64.add y y') (fdivI (li * (16 - pl)) 64) == some Ordering.eq) = true
  e3 : (Float64.cmp (Float64.add z z') (fdivI (li * (16 - pl)) 64) == some Ordering.eq) = true
  hls : ∃ h l sa, RgC w x' y' z' h l sa ∧ HlC w (le * 16 + pa) pl li (Eq3 h l sa)
  wh : ∃ a b c h l sa, HsC w (fdivI le 6) (fdivI (2 * pl + 1) (2 ^ 53)) (fdivI 8 8) a b c ∧ RgC w a b c h l sa ∧ (Float64.cmp h (fdivI (le.fmod 6) 6) == some Ordering.eq) = true ∧ (Float64.cmp l (fdivI ((2 : Int) ^ Int.toNat 54 - (2 * pl + 1)) ((2 : Int) ^ Int.toNat 54)) == some Ordering.eq) = true ∧ (Float64.cmpInt sa 1 == some Ordering.eq) = true
  b0 : 0 ≤ le
  b1 : le < 1000000
  c0 : 0 ≤ pl
  c1 : pl < 9
  d0 : 0 ≤ li
  d1 : li < 9
noncomputable def inner (z : Str) : Bool := z == Str.ofString "left" || z == Str.ofString "told" || z == Str.ofString "text" || z == Str.ofString "short" || z == Str.ofString "white"
/-- a turn's end -/
noncomputable def UEnd (h₀ : Heap) (L : Addr) (m : Str → Option Value) (news : List (Addr × Obj)) (tx' : Str) (x' y' z' : UInt64) (s : Shared) (f : Flow) (s' : Shared) : Prop :=
  f = .next ∧ Same s s' ∧ ∃ m' oT oH D c vs, (∀ z, inner z = false → m' z = m z) ∧ (∃ t, m' (Str.ofString "text") = some (.str tx' t)) ∧ oT.data = .cell (some (.ref D)) ∧ oH.data = .cell (some (.ref D)) ∧ Flo3 x' y' z' vs ∧
    Fr h₀ L s'.heap m' ∧ News h₀ L s'.heap ((L + 2, oT) :: (L + 1, oH) :: (D, tupO vs c) :: news) ∧ D ≠ L + 1 ∧ D ≠ L + 2 ∧ ∀ p ∈ news, p.1 < D
theorem UT (w : World) (mean : ExcName → Option Value) (mg mb : Str → Option Value) (h₀ : Heap) (L fa : Addr) (cd : Value) (s : Shared)
    (T : Top Mine.view (looseW Mine.view []) mean mg mb h₀) (X : (Mine.hd.heap_1 w.params).In h₀)
    (m : Str → Option Value) (news : List (Addr × Obj)) (sx pa pl li st : Int) (t1 t2 t3 t4 t5 t6 t11 : Tok) (tx tx' bo : Str) (x y z x' y' z' : UInt64) (oT oH : Obj) (vT : Option Value) (D : Addr) (c : Nat) (vs : List Value)
    (ok : StepOk w (sx - 3 * st - 3) pa pl li tx tx' bo x y z x' y' z')
    (hv1 : m (Str.ofString "sixth") = some (.int sx t1)) (hv2 : m (Str.ofString "part") = some (.int pa t2)) (hv3 : m (Str.ofString "pale") = some (.int pl t3)) (hv4 : m (Str.ofString "light") = some (.int li t4))
    (hv5 : m (Str.ofString "text") = some (.str tx t5)) (hv6 : m (Str.ofString "both") = some (.str bo t6)) (hv11 : m (Str.ofString "step") = some (.int st t11))
    (hoT : oT.data = .cell vT) (hoH : oH.data = .cell (some (.ref D))) (hfl : Flo3 x y z vs) (hD1 : D ≠ L + 1) (hD2 : D ≠ L + 2) (hc1 : ∀ p ∈ news, p.1 ≠ L + 1) (hc2 : ∀ p ∈ news, p.1 ≠ L + 2)
    (F : Fr h₀ L s.heap m) (N : News h₀ L s.heap ((L + 2, oT) :: (L + 1, oH) :: (D, tupO vs c) :: news)) :
    wpC (model PySem.Challenge.rw_ny0075_01.row.prog w) (lawA L fa cd) (execs (forBody (lawT 10)) (lawEnv L fa cd)) (UEnd h₀ L m news tx' x' y' z' s) (fun _ _ => False) s := by
  obtain ⟨a1, a2, a3, ⟨ha1, ha2, ha3⟩, rfl⟩ := hfl
  rw [body10]
  -- left
  refine wpC.seq (wpC.of (U0 w mean mg mb h₀ L fa cd s T X m _ sx t1 st t11 hv1 hv11 F N rfl)) ?_
  rintro f s1 ⟨rfl, g1, p1, v, tl, ⟨⟨t12, rfl⟩, rfl⟩, F1, N1, -⟩
  refine ⟨rfl, ?_⟩
  rw [List.nil_append] at N1
  generalize hle : sx - 3 * st - 3 = le at *
  -- told
  refine wpC.seq (wpC.of (U1 w mean mg mb h₀ L fa cd s1 T X _ _ tx t5 bo t6 tx' ok.al (upd_ne (by decide +kernel) hv5) (upd_ne (by decide +kernel) hv6) F1 N1 rfl)) ?_
  rintro f s2 ⟨rfl, g2, p2, v, tl, ⟨Dt, ct, vs, ⟨b1, b2, b3, rfl⟩, rfl, rfl⟩, F2, N2, l2⟩
  refine ⟨rfl, ?_⟩
  have lt2 := l2 _ (List.mem_singleton.mpr rfl)
  dsimp only at lt2
  simp only [List.cons_append, List.nil_append] at N2
  -- if told != ..
  refine wpC.seq (wpC.of (U2 w mean mg mb h₀ L fa cd s2 T X _ ((L + 2, oT) :: (L + 1, oH) :: (D, tupO [.float x a1, .float y a2, .float z a3] c) :: news) pa t2 bo t6 le t12 Dt tx' b1 b2 b3 ct ok.ri ok.ok1 ok.ok2
    (upd_ne (by decide +kernel) (upd_ne (by decide +kernel) hv2)) (upd_ne (by decide +kernel) (upd_ne (by decide +kernel) hv6)) (upd_ne (by decide +kernel) upd_at) upd_at F2 N2 rfl)) ?_
  rintro f s3 ⟨rfl, g3, F3, N3⟩
  refine ⟨rfl, ?_⟩
  -- text = told[1]
  refine wpC.seq (wpC.of (U3 w mean mg mb h₀ L fa cd s3 T X _ _ Dt _ tx' b1 b2 b3 ct bo upd_at F3 N3 rfl)) ?_
  rintro f s4 ⟨rfl, g4, p4, v, tl, ⟨⟨t5', rfl⟩, rfl⟩, F4, N4, -⟩
  refine ⟨rfl, ?_⟩
  rw [List.nil_append] at N4
  have q1 : ∀ p ∈ (Dt, tupO [.str (Str.ofString "Solaris") b1, .str tx' b2, .str bo b3] ct) :: (D, tupO [.float x a1, .float y a2, .float z a3] c) :: news, p.1 ≠ L + 1 := by
    refine List.forall_mem_cons.mpr ⟨?_, List.forall_mem_cons.mpr ⟨hD1, hc1⟩⟩
    exact Nat.ne_of_gt (lt2 (L + 1, oH) (by simp))
  have q2 : ∀ p ∈ (Dt, tupO [.str (Str.ofString "Solaris") b1, .str tx' b2, .str bo b3] ct) :: (D, tupO [.float x a1, .float y a2, .float z a3] c) :: news, p.1 ≠ L + 2 := by
    refine List.forall_mem_cons.mpr ⟨?_, List.forall_mem_cons.mpr ⟨hD2, hc2⟩⟩
    exact Nat.ne_of_gt (lt2 (L + 2, oT) (by simp))
  -- there
  refine wpC.seq (wpC.with p4 (wpC.of (U4 w mean mg mb h₀ L fa cd s4 T X _ ((D, tupO [.float x a1, .float y a2, .float z a3] c) :: news) tx' t5' Dt _ tx' b1 b2 b3 ct bo oT oH vT _ hoT hoH q1 q2 x' y' z' ok.co upd_at (upd_ne (by decide +kernel) upd_at) F4 (News.sub N4 (by intro p hp; grind)) rfl))) ?_
  rintro f s5 ⟨p5, rfl, g5, F5, D', c', vs', oT', ⟨d1, d2, d3, ⟨hd1, hd2, hd3⟩, rfl⟩, hoT', N5, hD1', hD2', lt5⟩
  refine ⟨rfl, ?_⟩
  -- the sums
  refine wpC.seq (wpC.of (U5 w mean mg mb h₀ L fa cd s5 T X _ ((Dt, tupO [.str (Str.ofString "Solaris") b1, .str tx' b2, .str bo b3] ct) :: news) pl t3 li t4 D D' c c' x y z x' y' z' a1 a2 a3 d1 d2 d3 oT' oH hoT' hoH ok.c0 ok.c1 ok.d0 ok.d1 p5 ok.e1 ok.e2 ok.e3
    (upd_ne (by decide +kernel) (upd_ne (by decide +kernel) (upd_ne (by decide +kernel) hv3))) (upd_ne (by decide +kernel) (upd_ne (by decide +kernel) (upd_ne (by decide +kernel) hv4))) F5 (News.sub N5 (by intro p hp; grind)) rfl)) ?_
  rintro f s6 ⟨rfl, g6, F6, N6⟩
  refine ⟨rfl, ?_⟩
  -- rgb_to_hls
  obtain ⟨h, l, sa, rg, hl⟩ := ok.hls
  refine wpC.seq (wpC.of (U6 w mean mg mb h₀ L fa cd s6 T X _ news pa t2 pl t3 li t4 le t12 D' c' x' y' z' d1 d2 d3 hd1 hd2 hd3 oT' oH _ hoT' hoH h l sa rg hl
    (upd_ne (by decide +kernel) (upd_ne (by decide +kernel) (upd_ne (by decide +kernel) hv2))) (upd_ne (by decide +kernel) (upd_ne (by decide +kernel) (upd_ne (by decide +kernel) hv3))) (upd_ne (by decide +kernel) (upd_ne (by decide +kernel) (upd_ne (by decide +kernel) hv4))) (upd_ne (by decide +kernel) (upd_ne (by decide +kernel) upd_at)) F6 (News.sub N6 (by intro p hp; grind)) rfl)) ?_
  rintro f s7 ⟨rfl, g7, F7, N7⟩
  refine ⟨rfl, ?_⟩
  -- short
  refine wpC.seq (wpC.of (U7 w mean mg mb h₀ L fa cd s7 T X _ _ pl t3 (upd_ne (by decide +kernel) (upd_ne (by decide +kernel) (upd_ne (by decide +kernel) hv3))) F7 N7 rfl)) ?_
  rintro f s8 ⟨rfl, g8, -, v, tl, ⟨⟨t13, rfl⟩, rfl⟩, F8, N8, -⟩
  refine ⟨rfl, ?_⟩
  rw [List.nil_append] at N8
  -- white
  obtain ⟨wa, wb, wc, hh, hl', ws, hs, rw1, ch1, ch2, cw⟩ := ok.wh
  refine wpC.seq (wpC.of (U8 w mean mg mb h₀ L fa cd s8 T X _ _ le t12 (2 * pl + 1) t13 ok.b0 ok.b1 (by have := ok.c0; omega) (by have := ok.c1; omega) wa wb wc hs (upd_ne (by decide +kernel) (upd_ne (by decide +kernel) (upd_ne (by decide +kernel) upd_at))) upd_at F8 N8 rfl)) ?_
  rintro f s9 ⟨rfl, g9, -, v, tl, ⟨Dw, cw', vs, ⟨w1, w2, w3, ⟨hw1, hw2, hw3⟩, rfl⟩, rfl, rfl⟩, F9, N9, l9⟩
  refine ⟨rfl, ?_⟩
  simp only [List.cons_append, List.nil_append] at N9
  refine wpC.seq (wpC.of (U9 w mean mg mb h₀ L fa cd s9 T X _ _ le t12 (2 * pl + 1) t13 Dw cw' wa wb wc w1 w2 w3 hw1 hw2 hw3 ok.b0 ok.b1 (by have := ok.c0; omega) (by have := ok.c1; omega) hh hl' ws rw1 ch1 ch2 cw (upd_ne (by decide +kernel) (upd_ne (by decide +kernel) (upd_ne (by decide +kernel) (upd_ne (by decide +kernel) upd_at)))) (upd_ne (by decide +kernel) upd_at) upd_at F9 N9 rfl)) ?_
  rintro f s10 ⟨rfl, g10, F10, N10⟩
  refine ⟨rfl, ?_⟩
  -- here = there
  have r1 : ∀ p ∈ (D', tupO [.float x' d1, .float y' d2, .float z' d3] c') :: news, p.1 ≠ L + 1 := List.forall_mem_cons.mpr ⟨hD1', hc1⟩
  have r2 : ∀ p ∈ (D', tupO [.float x' d1, .float y' d2, .float z' d3] c') :: news, p.1 ≠ L + 2 := List.forall_mem_cons.mpr ⟨hD2', hc2⟩
  refine wpC.seq (wpC.of (U10 w mean mg mb h₀ L fa cd s10 T X _ ((D', tupO [.float x' d1, .float y' d2, .float z' d3] c') :: news) D' oT' oH _ hoT' hoH r1 r2 F10 (News.sub N10 (by intro p hp; grind)) rfl)) ?_
  rintro f s11 ⟨rfl, g11, F11, oH', hoH', N11⟩
  refine ⟨rfl, ?_⟩
  refine wpC.of (wpAny_execs_nil ?_)
  refine ⟨rfl, (((((((((g1.trans g2).trans g3).trans g4).trans g5).trans g6).trans g7).trans g8).trans g9).trans g10).trans g11, _, oT', oH', D', c', _, fun z hz => ?_, ⟨t5', ?_⟩, hoT', hoH', ⟨d1, d2, d3, ⟨hd1, hd2, hd3⟩, rfl⟩, F11, N11, hD1', hD2', fun p hp => lt5 p (by grind)⟩
  · unfold inner at hz
    simp only [Bool.or_eq_false_iff] at hz
    obtain ⟨⟨⟨⟨z1, z2⟩, z3⟩, z4⟩, z5⟩ := hz
    exact upd_ne z5 (upd_ne z4 (upd_ne z3 (upd_ne z2 (upd_ne z1 rfl))))
  · exact upd_ne (by decide +kernel) (upd_ne (by decide +kernel) upd_at)
end Mine
end
section
open PySem PySem.W PyProof.Rows PySem.Calls
set_option maxRecDepth 100000
set_option maxHeartbeats 8000000
namespace Mine
theorem store_law {M : Model} {A : Around} {E : Value → Shared → Prop} {s : Shared} {h₀ : Heap} {L fa : Addr} {cd : Value} {m : Str → Option Value} {news : List (Addr × Obj)} {x : Str} {px : Pos} {v : Value} {Q : Unit → Shared → Prop}
    (F : Fr h₀ L s.heap m) (N : News h₀ L s.heap news) (hx : (lawEnv L fa cd).kindOf x = some .local)
    (h : ∀ h', Fr h₀ L h' (upd m x v) → News h₀ L h' news → Q () { s with heap := h', toks := s.toks + 1 }) : wpAny M A (assign (.Name x px) (lawEnv L fa cd) v) Q E s :=
  wpAny_assign_Name (wpAny_storeName_local hx F.ns (fun h' hn hs => h h' (F.set hn hs) (N.set hs)) rfl)
noncomputable def innerS (z : Str) : Bool := inner z || z == Str.ofString "step"
noncomputable def T10End (h₀ : Heap) (L : Addr) (m : Str → Option Value) (news : List (Addr × Obj)) (tx : Str) (s : Shared) (f : Flow) (s' : Shared) : Prop :=
  f = .next ∧ Same s s' ∧ ∃ m' oT oH vT vH, (∀ z, innerS z = false → m' z = m z) ∧ (∃ t, m' (Str.ofString "text") = some (.str tx t)) ∧ oT.data = .cell vT ∧ oH.data = .cell vH ∧ Fr h₀ L s'.heap m' ∧ News h₀ L s'.heap ((L + 2, oT) :: (L + 1, oH) :: news)
/-- the invariant of the inner loop -/
noncomputable def J10 (L : Addr) (m : Str → Option Value) (news : List (Addr × Obj)) (tx : Nat → Str) (xf yf zf : Nat → UInt64) (i : Nat) (m₁ : Str → Option Value) (nw : List (Addr × Obj)) : Prop :=
  (∀ z, innerS z = false → m₁ z = m z) ∧ (∃ t, m₁ (Str.ofString "text") = some (.str (tx i) t)) ∧ ∃ oT oH vT D c vs, oT.data = .cell vT ∧ oH.data = .cell (some (.ref D)) ∧ Flo3 (xf i) (yf i) (zf i) vs ∧ D ≠ L + 1 ∧ D ≠ L + 2 ∧ nw = (L + 2, oT) :: (L + 1, oH) :: (D, tupO vs c) :: news
theorem T10 (w : World) (mean : ExcName → Option Value) (mg mb : Str → Option Value) (h₀ : Heap) (L fa : Addr) (cd : Value) (s : Shared)
    (T : Top Mine.view (looseW Mine.view []) mean mg mb h₀) (X : (Mine.hd.heap_1 w.params).In h₀)
    (m : Str → Option Value) (news : List (Addr × Obj)) (sx : Int) (t1 : Tok) (pa : Int) (t2 : Tok) (pl : Int) (t3 : Tok) (li : Int) (t4 : Tok) (bo : Str) (t6 : Tok) (ti : Int) (t7 : Tok) (tx : Nat → Str) (xf yf zf : Nat → UInt64) (n : Nat) (t5 : Tok) (oT oH : Obj) (vT : Option Value) (D : Addr) (c : Nat) (vs : List Value)
    (hv5 : m (Str.ofString "text") = some (.str (tx 0) t5)) (hti : 0 ≤ ti) (htj : ti < 1000000) (hn : Builtin.Range.rangeSize 0 (if ti < 4 then ti else 4) 1 = ((n : Nat) : Int))
    (ok : ∀ i : Nat, i < n → StepOk w (sx - 3 * (i : Int) - 3) pa pl li (tx i) (tx (i + 1)) bo (xf i) (yf i) (zf i) (xf (i + 1)) (yf (i + 1)) (zf (i + 1)))
    (hoT : oT.data = .cell vT) (hoH : oH.data = .cell (some (.ref D))) (hfl : Flo3 (xf 0) (yf 0) (zf 0) vs) (hD1 : D ≠ L + 1) (hD2 : D ≠ L + 2) (hc1 : ∀ p ∈ news, p.1 ≠ L + 1) (hc2 : ∀ p ∈ news, p.1 ≠ L + 2) (hv1 : m (Str.ofString "sixth") = some (.int sx t1)) (hv2 : m (Str.ofString "part") = some (.int pa t2)) (hv3 : m (Str.ofString "pale") = some (.int pl t3)) (hv4 : m (Str.ofString "light") = some (.int li t4)) (hv6 : m (Str.ofString "both") = some (.str bo t6)) (hv7 : m (Str.ofString "times") = some (.int ti t7))
    (F : Fr h₀ L s.heap m) (N : News h₀ L s.heap ((L + 2, oT) :: (L + 1, oH) :: (D, tupO vs c) :: news))
    (hz : PySem.Challenge.rw_ny0075_01 = PySem.Challenge.rw_ny0075_01) :
    wpC (model PySem.Challenge.rw_ny0075_01.row.prog w) (lawA L fa cd) (exec (lawT 10) (lawEnv L fa cd))
      (T10End h₀ L m news (tx n) s) (fun _ _ => False) s := by
  w_on
  replace F : Fr h₀ L s.heap (fun z => if z = Str.ofString "sixth" then some (.int sx t1) else if z = Str.ofString "part" then some (.int pa t2) else if z = Str.ofString "pale" then some (.int pl t3) else if z = Str.ofString "light" then some (.int li t4) else if z = Str.ofString "both" then some (.str bo t6) else if z = Str.ofString "times" then some (.int ti t7) else m z) := Fr.eqm F (fun z => by
    (repeat' split) <;> (first | rfl | (subst_vars; assumption)))
  revert X hz
  k_fill
  intro X hz
  have K0 := below_caller h₀
  dsimp only [forBody, lawP, lawT, lawU, lawB, nthS, hdS, bodyOf, List.drop, lawA, lawEnv, lawS, scopeOf]
  refine wpC.forStmt (Q := T10End h₀ L m news (tx n) s) ?_ ?_
  rotate_left
  · intro _; rfl
  w_top on
  w_strict (
    iterate 15 ((first | walk1 | (dsimp only; walk1)); (try dsimp only))
    have hB : (0 : Int) ≤ (if ti < 4 then ti else 4) ∧ (if ti < 4 then ti else 4) ≤ 4 := by split <;> omega
    refine iterRange_C (n := n) (m := m) rfl (Fr.eqm (by k_asm) (fun z => by (repeat' split) <;> (first | rfl | (subst_vars; first | assumption | (symm; assumption)) | contradiction))) (by k_asm) (by assumption) (small_one (by omega) (by omega) (by omega) (by omega)) hn (J10 L m news tx xf yf zf) ?h0 ?step ?hR
    case h0 => exact ⟨fun z hz => rfl, ⟨t5, hv5⟩, oT, oH, vT, D, c, vs, hoT, hoH, hfl, hD1, hD2, rfl⟩
    case hR =>
      intro s' m' news' hs F' N' hJ
      obtain ⟨hm, htx, oT', oH', vT', D', c', vs', h1, h2, _, _, _, rfl⟩ := hJ
      exact ⟨rfl, hs, m', oT', oH', vT', _, hm, htx, h1, h2, F', News.sub N' (by intro p hp; grind)⟩
    intro I lt1 lt2 i t m1 nw s1 own hi hJ hnw hown hmem hs F1 N1
    obtain ⟨hm, ⟨t5', htx⟩, oT', oH', vT', D', c', vs', h1, h2, hf, hD1', hD2', rfl⟩ := hJ
    obtain ⟨oI, hmI⟩ := hmem
    refine store_law F1 N1 rfl ?_
    intro h3 F3 N3
    have I1 : L + 1 < I := lt1 (L + 1, oH) (by simp)
    have I2 : L + 2 < I := lt1 (L + 2, oT) (by simp)
    refine wpC.mono (UT w mean mg mb h₀ L fa cd _ T X (upd m1 (Str.ofString "step") (.int (i : Int) t)) (own ++ news) sx pa pl li (i : Int) t1 t2 t3 t4 t5' t6 t (tx i) (tx (i + 1)) bo _ _ _ _ _ _ oT' oH' vT' D' c' vs' (ok i hi)
      (upd_ne (by decide +kernel) ((hm _ (by decide +kernel)).trans hv1)) (upd_ne (by decide +kernel) ((hm _ (by decide +kernel)).trans hv2)) (upd_ne (by decide +kernel) ((hm _ (by decide +kernel)).trans hv3)) (upd_ne (by decide +kernel) ((hm _ (by decide +kernel)).trans hv4)) (upd_ne (by decide +kernel) htx) (upd_ne (by decide +kernel) ((hm _ (by decide +kernel)).trans hv6)) upd_at h1 h2 hf hD1' hD2'
      (fun p hp => by
        rcases List.mem_append.mp hp with hp | hp
        · rw [hown p hp]; exact Nat.ne_of_gt I1
        · exact hc1 p hp)
      (fun p hp => by
        rcases List.mem_append.mp hp with hp | hp
        · rw [hown p hp]; exact Nat.ne_of_gt I2
        · exact hc2 p hp) F3 (News.sub N3 (by intro p hp; grind))) (fun f s4 h4 => ?_) (fun _ _ x => x)
    obtain ⟨rfl, g4, m2, oT2, oH2, D2, c2, vs2, hm2, htx2, k1, k2, hf2, F4, N4, e1, e2, lt4⟩ := h4
    refine ⟨rfl, m2, _, ⟨g4.1.trans hs.1, g4.2.trans hs.2⟩, F4, News.sub (b := own ++ ((L + 2, oT2) :: (L + 1, oH2) :: (D2, tupO vs2 c2) :: news)) N4 (by intro p hp; grind), ?_, ?_⟩
    · refine List.forall_mem_cons.mpr ⟨Nat.ne_of_lt I2, List.forall_mem_cons.mpr ⟨Nat.ne_of_lt I1, List.forall_mem_cons.mpr ⟨Nat.ne_of_gt (lt4 (I, oI) (List.mem_append_left _ hmI)), fun p hp => hnw p (by grind)⟩⟩⟩
    · refine ⟨fun z hz => ?_, htx2, oT2, oH2, _, D2, c2, vs2, k1, k2, hf2, e1, e2, rfl⟩
      unfold innerS at hz
      rw [Bool.or_eq_false_iff] at hz
      exact (hm2 z hz.1).trans (upd_ne hz.2 (hm z (by unfold innerS; rw [hz.1, hz.2]; rfl))))
end Mine
end
section
open PySem PySem.W PyProof.Rows PySem.Calls
set_option maxRecDepth 100000
set_option maxHeartbeats 8000000
namespace Mine
theorem AlB.useL {w : World} {sy re ve sy' re' ve' : Str} (h : AlB w sy re ve sy' re' ve') {t1 t2 t3 : Tok}
    {mean : ExcName → Option Value} {mg mb : Str → Option Value} {cn : Str} {cs : Scope} {a : Addr} {ccd : Value}
    {h₀ : Heap} {L : Addr} {m : Str → Option Value} {news : List (Addr × Obj)} {s : Shared} {Q : Value → Shared → Prop}
    (F : Fr h₀ L s.heap m) (X : (Mine.hd.heap_1 w.params).In h₀) (N : News h₀ L s.heap news)
    (T : Top Mine.view (looseW Mine.view []) mean mg mb h₀) (hk : cs.kind = .function)
    (ret : ∀ D c u1 u2 u3 h' tk', Fr h₀ L h' m → News h₀ L h' ((D, tupO [.str sy' u1, .str re' u2, .str ve' u3] c) :: news) → (∀ q ∈ news, q.1 < D) → Q (.ref D) { s with heap := h', toks := tk' }) :
    wpC (model PySem.Challenge.rw_ny0075_01.row.prog w) (callerA.deeper (envOfC cn cs L a ccd)) (call (.ref 21) [.str sy t1, .str re t2, .str ve t3]) Q (fun _ _ => False) s := by
  have hd1 : 1 + claimMargin + 1 + 1 < recursionLimit := by decide +kernel
  have hu1 : 4 + 3 + 20 < cLine := by decide +kernel
  have e : callerA.deeper (envOfC cn cs L a ccd) = ktrTop (1 + claimMargin + 1) (4 + 3) (some []) cn cs L a ccd (cellsFrom (L + 1) cs.names []) [] := rfl
  rw [e]
  refine h t1 t2 t3 mean mg mb _ _ _ _ _ _ _ _ h₀ L m news s Q F X N T hk hd1 hu1 ?_
  intro r tl h' tk' hP F' N' l
  obtain ⟨D, c, vs, ⟨u1, u2, u3, rfl⟩, rfl, rfl⟩ := hP
  exact ret D c u1 u2 u3 h' tk' F' N' (l _ (List.mem_singleton.mpr rfl))
theorem T6B (w : World) (mean : ExcName → Option Value) (mg mb : Str → Option Value) (h₀ : Heap) (L fa : Addr) (cd : Value) (s : Shared)
    (T : Top Mine.view (looseW Mine.view []) mean mg mb h₀) (X : (Mine.hd.heap_1 w.params).In h₀)
    (m : Str → Option Value) (news : List (Addr × Obj)) (bo : Str) (t6 : Tok) (gi : Str) (t21 : Tok) (ai : Str) (t22 : Tok) (du : Str) (t23 : Tok) (al : AlB w gi du bo ai du bo) (ok1 : PyData.strOk ai = true) (ok2 : PyData.strOk du = true) (ok3 : PyData.strOk bo = true) (hv6 : m (Str.ofString "both") = some (.str bo t6)) (hv21 : m (Str.ofString "given") = some (.str gi t21)) (hv22 : m (Str.ofString "alias") = some (.str ai t22)) (hv23 : m (Str.ofString "due") = some (.str du t23))
    (F : Fr h₀ L s.heap m) (N : News h₀ L s.heap (news))
    (hz : PySem.Challenge.rw_ny0075_01 = PySem.Challenge.rw_ny0075_01) :
    wpC (model PySem.Challenge.rw_ny0075_01.row.prog w) (lawA L fa cd) (execs (forBody (lawT 6)) (lawEnv L fa cd))
      (Q0 h₀ L m news s) (fun _ _ => False) s := by
  w_on
  replace F : Fr h₀ L s.heap (fun z => if z = Str.ofString "both" then some (.str bo t6) else if z = Str.ofString "given" then some (.str gi t21) else if z = Str.ofString "alias" then some (.str ai t22) else if z = Str.ofString "due" then some (.str du t23) else m z) := Fr.eqm F (fun z => by
    (repeat' split) <;> (first | rfl | (subst_vars; assumption)))
  revert X hz
  k_fill
  intro X hz
  have K0 := below_caller h₀
  dsimp only [forBody, lawP, lawT, lawU, lawB, nthS, hdS, bodyOf, List.drop, lawA, lawEnv, lawS, scopeOf]
  w_top on
  w_strict (
    refine wpC.execs (wpC.exec_If (wpC.isTrue_Compare1 (wpC.eval_Call ?_ rfl) rfl))
    walk1
    refine wpC.callWith_K (K := Mine.hd.heap_1 w.params) (by k_is) ?_ rfl rfl
    iterate 7 ((first | walk1 | (dsimp only; walk1)); (try dsimp only))
    refine ⟨X.keeps (Fr.keep (by k_asm)), ?_⟩
    refine AlB.useL al (by k_asm) X (by k_asm) T rfl ?_
    intro D' c' u1 u2 u3 h' tk' F' N' l1
    k_steps
    refine wpC.of (wpAny_execs_nil ?_)
    refine wpC.of (wpAny_execs_nil ?_)
    exact ⟨rfl, ⟨rfl, rfl⟩, (Fr.eqm (by assumption) (fun z => by
      (try unfold upd)
      (repeat' split) <;> (first | rfl | (subst_vars; first | assumption | (symm; assumption)) | contradiction))), (fun p hp => (by assumption : News h₀ L _ _) p (by (repeat (first | exact hp | apply List.Mem.tail | apply List.mem_append_right))))⟩)
end Mine
end
section
open PySem PySem.W PyProof.Rows PySem.Calls
set_option maxRecDepth 100000
set_option maxHeartbeats 8000000
namespace Mine
noncomputable def STOP2 (p : Prop) : Prop := p
theorem stop2 {p : Prop} (h : STOP2 p) : p := h
local macro_rules | `(tactic| walk_at "pyIter") => `(tactic| (k_here; refine stop2 ?_))
local macro_rules | `(tactic| walk_at "pyIter ref") => `(tactic| (k_here; refine stop2 ?_))
/-- an entry of the list -/
noncomputable def Ent (w : World) (bo : Str) (nw : List (Addr × Obj)) (v : Value) : Prop := ∃ D c g a d t1 t2 t3, v = .ref D ∧ (D, tupO [.str g t1, .str a t2, .str d t3] c) ∈ nw ∧ AlB w g d bo a d bo ∧ PyData.strOk a = true ∧ PyData.strOk d = true
noncomputable def outer3 (z : Str) : Bool := z == Str.ofString "given" || z == Str.ofString "alias" || z == Str.ofString "due"
noncomputable def T6End (h₀ : Heap) (L : Addr) (m : Str → Option Value) (news : List (Addr × Obj)) (s : Shared) (f : Flow) (s' : Shared) : Prop :=
  f = .next ∧ Same s s' ∧ ∃ m', (∀ z, outer3 z = false → m' z = m z) ∧ Fr h₀ L s'.heap m' ∧ News h₀ L s'.heap news
noncomputable abbrev forTgt : Stmt → Expr
  | .For t _ _ _ _ => t
  | _ => .Constant .none 0 default
theorem iterEnt (w : World) (mean : ExcName → Option Value) (mg mb : Str → Option Value) (h₀ : Heap) (L fa : Addr) (cd : Value) (s : Shared)
    (T : Top Mine.view (looseW Mine.view []) mean mg mb h₀) (X : (Mine.hd.heap_1 w.params).In h₀)
    (m : Str → Option Value) (news nws : List (Addr × Obj)) (bo : Str) (t6 : Tok) (ok3 : PyData.strOk bo = true) (ax : Addr) (lo : Obj) (vs : List Value) (n : Nat) (R : Result → Shared → Prop) (E : Value → Shared → Prop)
    (hv6 : m (Str.ofString "both") = some (.str bo t6)) (F : Fr h₀ L s.heap m) (N : News h₀ L s.heap ((ax, lo) :: nws)) (hc : lo.cls = .type "list") (hd : lo.data = .seq vs.toArray n) (hent : ∀ v ∈ vs, Ent w bo nws v) (hsub : ∀ p ∈ news, p ∈ nws)
    (hR : ∀ s', T6End h₀ L m news s .next s' → R (.ok .next) s')
    (hz : PySem.Challenge.rw_ny0075_01 = PySem.Challenge.rw_ny0075_01) :
    wpAny (model PySem.Challenge.rw_ny0075_01.row.prog w) (lawA L fa cd) (pyIter (.ref ax)) (fun it s₂ => codeC (model PySem.Challenge.rw_ny0075_01.row.prog w) (lawA L fa cd) (.forLoop (forTgt (lawT 6)) it (forBody (lawT 6)) [] (lawEnv L fa cd)) R s₂) E s := by
  w_on
  revert X hz
  k_fill
  intro X hz
  have K0 := below_caller h₀
  dsimp only [forBody, forTgt, lawP, lawT, lawU, lawB, nthS, hdS, bodyOf, List.drop, lawA, lawEnv, lawS, scopeOf]
  w_top on
  w_strict (
    refine iterList_C (m := m) rfl F N hc hd (fun _ m1 nw => (∀ z, outer3 z = false → m1 z = m z) ∧ nw = nws) ⟨fun z _ => rfl, rfl⟩ ?_ ?_
    rotate_left
    · intro s' m' news' hs F' N' hJ
      obtain ⟨hm, rfl⟩ := hJ
      exact hR s' ⟨rfl, hs, m', hm, F', News.sub N' (fun p hp => List.mem_cons_of_mem _ (hsub p hp))⟩
    intro I lt1 lt2 lt3 i v m1 nw s1 own hv hJ hnw hown _ hs F1 N1
    obtain ⟨hm, rfl⟩ := hJ
    obtain ⟨D, c, g, a, d, u1, u2, u3, rfl, hmem, al, ok1, ok2⟩ := hent v (List.mem_of_getElem? hv)
    have N2 : News h₀ L s1.heap ((D, tupO [.str g u1, .str a u2, .str d u3] c) :: (own ++ (ax, lo) :: nw)) := News.sub N1 (by intro p hp; grind)
    replace F1 : Fr h₀ L s1.heap m1 := F1
    clear hv hent N1
    k_steps
    refine wpC.mono (T6B w mean mg mb h₀ L fa cd _ T X (upd (upd (upd m1 (Str.ofString "given") (.str g u1)) (Str.ofString "alias") (.str a u2)) (Str.ofString "due") (.str d u3)) _ bo t6 g u1 a u2 d u3 al ok1 ok2 ok3 (upd_ne (by decide +kernel) (upd_ne (by decide +kernel) (upd_ne (by decide +kernel) ((hm _ (by decide +kernel)).trans hv6)))) (upd_ne (by decide +kernel) (upd_ne (by decide +kernel) upd_at)) (upd_ne (by decide +kernel) upd_at) upd_at (Fr.eqm (by assumption) (fun _ => rfl)) (by assumption) rfl) (fun f s4 h4 => ?_) (fun _ _ x => x)
    obtain ⟨rfl, g4, F6, N6⟩ := h4
    refine ⟨rfl, _, nw, ⟨g4.1.trans hs.1, g4.2.trans hs.2⟩, F6, News.sub N6 (by intro p hp; grind), hnw, fun z hz => ?_, rfl⟩
    have hz' := hz
    unfold outer3 at hz
    simp only [Bool.or_eq_false_iff] at hz
    obtain ⟨⟨z1, z2⟩, z3⟩ := hz
    exact upd_ne z3 (upd_ne z2 (upd_ne z1 (hm z hz'))))
theorem T6 (w : World) (mean : ExcName → Option Value) (mg mb : Str → Option Value) (h₀ : Heap) (L fa : Addr) (cd : Value) (s : Shared)
    (T : Top Mine.view (looseW Mine.view []) mean mg mb h₀) (X : (Mine.hd.heap_1 w.params).In h₀)
    (m : Str → Option Value) (news : List (Addr × Obj)) (sg : Str) (t20 : Tok) (tx : Str) (t5 : Tok) (bo : Str) (t6 : Tok) (na : Str) (t8 : Tok) (sp : Str) (t10 : Tok) (al0 : AlB w sg tx bo sg tx bo) (al1 : AlB w (Str.ofString "win32") tx bo (Str.ofString "Windows") tx bo) (al2 : AlB w (Str.ofString "win16") tx bo (Str.ofString "Windows") tx bo) (al3 : AlB w (Str.ofString "SunOS") ((Str.ofString "-") ++ tx) bo (Str.ofString "SunOS") ((Str.ofString "-") ++ tx) bo) (al4 : AlB w (Str.ofString "SunOS") ((Str.ofString "+") ++ tx) bo (Str.ofString "SunOS") ((Str.ofString "+") ++ tx) bo) (al5 : AlB w (Str.ofString "SunOS") ((Str.ofString "0") ++ tx) bo (Str.ofString "SunOS") ((Str.ofString "0") ++ tx) bo) (al6 : AlB w (Str.ofString "SunOS") ((Str.ofString "v") ++ tx) bo (Str.ofString "Solaris") ((Str.ofString "v") ++ tx) bo) (al7 : AlB w (Str.ofString "SunOS") sp bo na sp bo) (hlt : tx.length ≤ 600) (okT : PyData.strOk tx = true) (okS : PyData.strOk sg = true) (okN : PyData.strOk na = true) (okP : PyData.strOk sp = true) (okB : PyData.strOk bo = true) (ok0 : PyData.strOk ((Str.ofString "-") ++ tx) = true) (ok1 : PyData.strOk ((Str.ofString "+") ++ tx) = true) (ok2 : PyData.strOk ((Str.ofString "0") ++ tx) = true) (ok3 : PyData.strOk ((Str.ofString "v") ++ tx) = true) (hv20 : m (Str.ofString "strange") = some (.str sg t20)) (hv5 : m (Str.ofString "text") = some (.str tx t5)) (hv6 : m (Str.ofString "both") = some (.str bo t6)) (hv8 : m (Str.ofString "named") = some (.str na t8)) (hv10 : m (Str.ofString "spoilt") = some (.str sp t10))
    (F : Fr h₀ L s.heap m) (N : News h₀ L s.heap (news))
    (hz : PySem.Challenge.rw_ny0075_01 = PySem.Challenge.rw_ny0075_01) :
    wpC (model PySem.Challenge.rw_ny0075_01.row.prog w) (lawA L fa cd) (exec (lawT 6) (lawEnv L fa cd))
      (T6End h₀ L m news s) (fun _ _ => False) s := by
  w_on
  replace F : Fr h₀ L s.heap (fun z => if z = Str.ofString "strange" then some (.str sg t20) else if z = Str.ofString "text" then some (.str tx t5) else if z = Str.ofString "both" then some (.str bo t6) else if z = Str.ofString "named" then some (.str na t8) else if z = Str.ofString "spoilt" then some (.str sp t10) else m z) := Fr.eqm F (fun z => by
    (repeat' split) <;> (first | rfl | (subst_vars; assumption)))
  revert X hz
  k_fill
  intro X hz
  have K0 := below_caller h₀
  dsimp only [forBody, lawP, lawT, lawU, lawB, nthS, hdS, bodyOf, List.drop, lawA, lawEnv, lawS, scopeOf]
  refine wpC.forStmt (Q := T6End h₀ L m news s) ?_ ?_
  rotate_left
  · intro _; rfl
  w_top on
  w_strict (
    repeat ((first | walk1 | (dsimp only; walk1)); (try dsimp only))
    unfold STOP2
    refine iterEnt w mean mg mb h₀ L fa cd _ T X m news _ bo t6 okB _ _ [_, _, _, _, _, _, _, _] _ _ _ hv6 (Fr.eqm (by k_asm) (fun z => by (repeat' split) <;> (first | rfl | (subst_vars; first | assumption | (symm; assumption)) | contradiction))) (by k_asm) rfl rfl ?_ ?_ ?_ rfl
    · intro v hv
      have k1 : PyData.strOk (Str.ofString "SunOS") = true := by decide +kernel
      have k2 : PyData.strOk (Str.ofString "Solaris") = true := by decide +kernel
      have k3 : PyData.strOk (Str.ofString "Windows") = true := by decide +kernel
      simp only [List.mem_cons, List.not_mem_nil, or_false] at hv
      rcases hv with rfl | rfl | rfl | rfl | rfl | rfl | rfl | rfl
      all_goals exact ⟨_, _, _, _, _, _, _, _, rfl, by k_mem, by assumption, by assumption, by assumption⟩
    · intro p hp
      (repeat (first | exact hp | apply List.Mem.tail))
    · intro s' h
      exact h)
end Mine
end
section
open PySem PySem.W PyProof.Rows PySem.Calls
set_option maxRecDepth 100000
set_option maxHeartbeats 8000000
namespace Mine
/-- what the law's turn over one drawn tuple needs -/
structure DrawOk (w : World) (sg : Str) (sx pa pl li : Int) (bo na lo sp : Str) (ti : Int) (tx : Nat → Str) (xf yf zf : Nat → UInt64) (n : Nat) : Prop where
  b0 : 0 ≤ sx
  b1 : sx < 1000000
  c0 : 0 ≤ pl
  c1 : pl < 9
  d0 : 0 ≤ li
  d1 : li < 9
  t0 : 0 ≤ ti
  t1 : ti < 1000000
  ri : RiC w sx pa (tx 0)
  tc : TiC w sx ti
  hbo : bo = bothT pl li
  hna : na = if 0 < ti then solaris else sunos
  hsp : sp = spoiltT sx (tx 0)
  lt : (tx 0).length ≤ 600
  ll : lo.length ≤ 600
  lo1 : 0 < ti → RiC w (sx - 3) pa lo
  lo2 : ¬ 0 < ti → lo = tx 0
  al0 : AlB w sg (tx 0) bo sg (tx 0) bo
  al1 : AlB w (Str.ofString "win32") (tx 0) bo (Str.ofString "Windows") (tx 0) bo
  al2 : AlB w (Str.ofString "win16") (tx 0) bo (Str.ofString "Windows") (tx 0) bo
  al3 : AlB w (Str.ofString "SunOS") (Str.ofString "-" ++ tx 0) bo (Str.ofString "SunOS") (Str.ofString "-" ++ tx 0) bo
  al4 : AlB w (Str.ofString "SunOS") (Str.ofString "+" ++ tx 0) bo (Str.ofString "SunOS") (Str.ofString "+" ++ tx 0) bo
  al5 : AlB w (Str.ofString "SunOS") (Str.ofString "0" ++ tx 0) bo (Str.ofString "SunOS") (Str.ofString "0" ++ tx 0) bo
  al6 : AlB w (Str.ofString "SunOS") (Str.ofString "v" ++ tx 0) bo (Str.ofString "Solaris") (Str.ofString "v" ++ tx 0) bo
  al7 : AlB w (Str.ofString "SunOS") sp bo na sp bo
  al8 : AlC w (Str.ofString "SunOS") (tx 0 ++ Str.ofString "..007.x y") bo na (lo ++ Str.ofString "..007.x y") bo
  okT : PyData.strOk (tx 0) = true
  okS : PyData.strOk sg = true
  okN : PyData.strOk na = true
  okP : PyData.strOk sp = true
  okB : PyData.strOk bo = true
  ok0 : PyData.strOk (Str.ofString "-" ++ tx 0) = true
  ok1 : PyData.strOk (Str.ofString "+" ++ tx 0) = true
  ok2 : PyData.strOk (Str.ofString "0" ++ tx 0) = true
  ok3 : PyData.strOk (Str.ofString "v" ++ tx 0) = true
  okL : PyData.strOk (lo ++ Str.ofString "..007.x y") = true
  co : CoC w (tx 0) bo (xf 0) (yf 0) (zf 0)
  wh : ∃ x y z, (Float64.cmp (xf 0) x == some Ordering.eq) = true ∧ (Float64.cmp (yf 0) y == some Ordering.eq) = true ∧ (Float64.cmp (zf 0) z == some Ordering.eq) = true ∧ WhC w (sx * 16 + pa) pl li x y z
  hn : Builtin.Range.rangeSize 0 (if ti < 4 then ti else 4) 1 = ((n : Nat) : Int)
  steps : ∀ i : Nat, i < n → StepOk w (sx - 3 * (i : Int) - 3) pa pl li (tx i) (tx (i + 1)) bo (xf i) (yf i) (zf i) (xf (i + 1)) (yf (i + 1)) (zf (i + 1))
  al9 : ti < 5 → AlC w (Str.ofString "SunOS") (tx n) bo (Str.ofString "SunOS") (tx n) bo
  okE : PyData.strOk (tx n) = true
noncomputable def outN (z : Str) : Bool := innerS z || outer3 z || z == Str.ofString "both" || z == Str.ofString "times" || z == Str.ofString "named" || z == Str.ofString "lower" || z == Str.ofString "spoilt"
noncomputable def TEnd (h₀ : Heap) (L : Addr) (m : Str → Option Value) (news : List (Addr × Obj)) (s : Shared) (f : Flow) (s' : Shared) : Prop :=
  f = .next ∧ Same s s' ∧ ∃ m' oT oH vT vH, (∀ z, outN z = false → m' z = m z) ∧ oT.data = .cell vT ∧ oH.data = .cell vH ∧ Fr h₀ L s'.heap m' ∧ News h₀ L s'.heap ((L + 2, oT) :: (L + 1, oH) :: news)
theorem TT (w : World) (mean : ExcName → Option Value) (mg mb : Str → Option Value) (h₀ : Heap) (L fa : Addr) (cd : Value) (s : Shared)
    (T : Top Mine.view (looseW Mine.view []) mean mg mb h₀) (X : (Mine.hd.heap_1 w.params).In h₀)
    (m : Str → Option Value) (news : List (Addr × Obj)) (sx pa pl li : Int) (t1 t2 t3 t4 t20 : Tok) (sg bo na lo sp : Str) (ti : Int) (tx : Nat → Str) (xf yf zf : Nat → UInt64) (n : Nat) (oT oH : Obj) (vT vH : Option Value)
    (ok : DrawOk w sg sx pa pl li bo na lo sp ti tx xf yf zf n)
    (hv1 : m (Str.ofString "sixth") = some (.int sx t1)) (hv2 : m (Str.ofString "part") = some (.int pa t2)) (hv3 : m (Str.ofString "pale") = some (.int pl t3)) (hv4 : m (Str.ofString "light") = some (.int li t4)) (hv20 : m (Str.ofString "strange") = some (.str sg t20))
    (hoT : oT.data = .cell vT) (hoH : oH.data = .cell vH) (hc1 : ∀ p ∈ news, p.1 ≠ L + 1) (hc2 : ∀ p ∈ news, p.1 ≠ L + 2)
    (F : Fr h₀ L s.heap m) (N : News h₀ L s.heap ((L + 2, oT) :: (L + 1, oH) :: news)) :
    wpC (model PySem.Challenge.rw_ny0075_01.row.prog w) (lawA L fa cd) (execs (forBody (lawP 6)) (lawEnv L fa cd)) (TEnd h₀ L m news s) (fun _ _ => False) s := by
  rw [body6]
  -- text
  refine wpC.seq (wpC.of (T0 w mean mg mb h₀ L fa cd s T X m _ sx t1 pa t2 (tx 0) ok.ri hv1 hv2 F N rfl)) ?_
  rintro f s1 ⟨rfl, g1, -, v, tl, ⟨⟨t5, rfl⟩, rfl⟩, F1, N1, -⟩
  refine ⟨rfl, ?_⟩
  rw [List.nil_append] at N1
  -- both
  refine wpC.seq (wpC.of (T1 w mean mg mb h₀ L fa cd s1 T X _ _ pl t3 li t4 ok.c0 ok.c1 ok.d0 ok.d1 (upd_ne (by decide +kernel) hv3) (upd_ne (by decide +kernel) hv4) F1 N1 rfl)) ?_
  rintro f s2 ⟨rfl, g2, -, v, tl, ⟨⟨t6, rfl⟩, rfl⟩, F2, N2, -⟩
  refine ⟨rfl, ?_⟩
  rw [List.nil_append] at N2
  rw [← ok.hbo] at F2
  -- times
  refine wpC.seq (wpC.of (T2 w mean mg mb h₀ L fa cd s2 T X _ _ sx t1 ti ok.tc (upd_ne (by decide +kernel) (upd_ne (by decide +kernel) hv1)) F2 N2 rfl)) ?_
  rintro f s3 ⟨rfl, g3, -, v, tl, ⟨⟨t7, rfl⟩, rfl⟩, F3, N3, -⟩
  refine ⟨rfl, ?_⟩
  rw [List.nil_append] at N3
  -- named
  refine wpC.seq (wpC.of (T3 w mean mg mb h₀ L fa cd s3 T X _ _ ti t7 upd_at F3 N3 rfl)) ?_
  rintro f s4 ⟨rfl, g4, -, v, tl, ⟨⟨t8, rfl⟩, rfl⟩, F4, N4, -⟩
  refine ⟨rfl, ?_⟩
  rw [List.nil_append] at N4
  rw [← ok.hna] at F4
  -- lower
  refine wpC.seq (wpC.of (T4 w mean mg mb h₀ L fa cd s4 T X _ _ sx t1 pa t2 (tx 0) t5 ti t7 lo ok.lo1 ok.lo2 (upd_ne (by decide +kernel) (upd_ne (by decide +kernel) (upd_ne (by decide +kernel) (upd_ne (by decide +kernel) hv1)))) (upd_ne (by decide +kernel) (upd_ne (by decide +kernel) (upd_ne (by decide +kernel) (upd_ne (by decide +kernel) hv2))))
    (upd_ne (by decide +kernel) (upd_ne (by decide +kernel) (upd_ne (by decide +kernel) upd_at))) (upd_ne (by decide +kernel) upd_at) F4 N4 rfl)) ?_
  rintro f s5 ⟨rfl, g5, -, v, tl, ⟨⟨t9, rfl⟩, rfl⟩, F5, N5, -⟩
  refine ⟨rfl, ?_⟩
  rw [List.nil_append] at N5
  -- spoilt
  refine wpC.seq (wpC.of (T5 w mean mg mb h₀ L fa cd s5 T X _ _ sx t1 (tx 0) t5 ok.b0 ok.b1 ok.lt (upd_ne (by decide +kernel) (upd_ne (by decide +kernel) (upd_ne (by decide +kernel) (upd_ne (by decide +kernel) (upd_ne (by decide +kernel) hv1))))) (upd_ne (by decide +kernel) (upd_ne (by decide +kernel) (upd_ne (by decide +kernel) (upd_ne (by decide +kernel) upd_at)))) F5 N5 rfl)) ?_
  rintro f s6 ⟨rfl, g6, -, v, tl, ⟨⟨t10, rfl⟩, rfl⟩, F6, N6, -⟩
  refine ⟨rfl, ?_⟩
  rw [List.nil_append] at N6
  rw [← ok.hsp] at F6
  -- the map so far
  generalize hm6 : upd _ (Str.ofString "spoilt") _ = m6 at F6
  have e1 : m6 (Str.ofString "sixth") = some (.int sx t1) := by rw [← hm6]; exact upd_ne (by decide +kernel) (upd_ne (by decide +kernel) (upd_ne (by decide +kernel) (upd_ne (by decide +kernel) (upd_ne (by decide +kernel) (upd_ne (by decide +kernel) hv1)))))
  have e2 : m6 (Str.ofString "part") = some (.int pa t2) := by rw [← hm6]; exact upd_ne (by decide +kernel) (upd_ne (by decide +kernel) (upd_ne (by decide +kernel) (upd_ne (by decide +kernel) (upd_ne (by decide +kernel) (upd_ne (by decide +kernel) hv2)))))
  have e3 : m6 (Str.ofString "pale") = some (.int pl t3) := by rw [← hm6]; exact upd_ne (by decide +kernel) (upd_ne (by decide +kernel) (upd_ne (by decide +kernel) (upd_ne (by decide +kernel) (upd_ne (by decide +kernel) (upd_ne (by decide +kernel) hv3)))))
  have e4 : m6 (Str.ofString "light") = some (.int li t4) := by rw [← hm6]; exact upd_ne (by decide +kernel) (upd_ne (by decide +kernel) (upd_ne (by decide +kernel) (upd_ne (by decide +kernel) (upd_ne (by decide +kernel) (upd_ne (by decide +kernel) hv4)))))
  have e20 : m6 (Str.ofString "strange") = some (.str sg t20) := by rw [← hm6]; exact upd_ne (by decide +kernel) (upd_ne (by decide +kernel) (upd_ne (by decide +kernel) (upd_ne (by decide +kernel) (upd_ne (by decide +kernel) (upd_ne (by decide +kernel) hv20)))))
  have e5 : m6 (Str.ofString "text") = some (.str (tx 0) t5) := by rw [← hm6]; exact upd_ne (by decide +kernel) (upd_ne (by decide +kernel) (upd_ne (by decide +kernel) (upd_ne (by decide +kernel) (upd_ne (by decide +kernel) upd_at))))
  have e6 : m6 (Str.ofString "both") = some (.str bo t6) := by rw [← hm6]; exact upd_ne (by decide +kernel) (upd_ne (by decide +kernel) (upd_ne (by decide +kernel) (upd_ne (by decide +kernel) upd_at)))
  have e7 : m6 (Str.ofString "times") = some (.int ti t7) := by rw [← hm6]; exact upd_ne (by decide +kernel) (upd_ne (by decide +kernel) (upd_ne (by decide +kernel) upd_at))
  have e8 : m6 (Str.ofString "named") = some (.str na t8) := by rw [← hm6]; exact upd_ne (by decide +kernel) (upd_ne (by decide +kernel) upd_at)
  have e9 : m6 (Str.ofString "lower") = some (.str lo t9) := by rw [← hm6]; exact upd_ne (by decide +kernel) upd_at
  have e10 : m6 (Str.ofString "spoilt") = some (.str sp t10) := by rw [← hm6]; exact upd_at
  have es : ∀ z, outN z = false → m6 z = m z := fun z hz => by
    unfold outN innerS inner at hz
    simp only [Bool.or_eq_false_iff] at hz
    obtain ⟨⟨⟨⟨⟨⟨⟨⟨⟨⟨⟨_, _⟩, z3⟩, _⟩, _⟩, _⟩, _⟩, z8⟩, z9⟩, z10⟩, z11⟩, z12⟩ := hz
    rw [← hm6]
    exact upd_ne z12 (upd_ne z11 (upd_ne z10 (upd_ne z9 (upd_ne z8 (upd_ne z3 rfl)))))
  clear hm6
  -- the eight
  refine wpC.seq (T6 w mean mg mb h₀ L fa cd s6 T X m6 _ sg t20 (tx 0) t5 bo t6 na t8 sp t10 ok.al0 ok.al1 ok.al2 ok.al3 ok.al4 ok.al5 ok.al6 ok.al7 ok.lt ok.okT ok.okS ok.okN ok.okP ok.okB ok.ok0 ok.ok1 ok.ok2 ok.ok3 e20 e5 e6 e8 e10 F6 N6 rfl) ?_
  rintro f s7 ⟨rfl, g7, m7, hm7, F7, N7⟩
  refine ⟨rfl, ?_⟩
  replace e1 := (hm7 _ (by decide +kernel)).trans e1
  replace e2 := (hm7 _ (by decide +kernel)).trans e2
  replace e3 := (hm7 _ (by decide +kernel)).trans e3
  replace e4 := (hm7 _ (by decide +kernel)).trans e4
  replace e5 := (hm7 _ (by decide +kernel)).trans e5
  replace e6 := (hm7 _ (by decide +kernel)).trans e6
  replace e7 := (hm7 _ (by decide +kernel)).trans e7
  replace e8 := (hm7 _ (by decide +kernel)).trans e8
  replace e9 := (hm7 _ (by decide +kernel)).trans e9
  -- ..007
  refine wpC.seq (wpC.of (T7 w mean mg mb h₀ L fa cd s7 T X m7 _ (tx 0) t5 bo t6 na t8 lo t9 ok.al8 ok.lt ok.ll ok.okN ok.okL ok.okB e5 e6 e8 e9 F7 N7 rfl)) ?_
  rintro f s8 ⟨rfl, g8, F8, N8⟩
  refine ⟨rfl, ?_⟩
  -- here
  refine wpC.seq (wpC.of (T8 w mean mg mb h₀ L fa cd s8 T X m7 news (tx 0) t5 bo t6 oT oH vT vH hoT hoH hc1 hc2 _ _ _ ok.co e5 e6 F8 N8 rfl)) ?_
  rintro f s9 ⟨rfl, g9, F9, D, c, vs, oH', hfl, hoH', N9, hD1, hD2, -⟩
  refine ⟨rfl, ?_⟩
  obtain ⟨a1, a2, a3, ⟨ha1, ha2, ha3⟩, rfl⟩ := id hfl
  -- the wheel
  obtain ⟨wx, wy, wz, cw1, cw2, cw3, cwh⟩ := ok.wh
  refine wpC.seq (wpC.of (T9 w mean mg mb h₀ L fa cd s9 T X m7 news sx t1 pa t2 pl t3 li t4 D c _ _ _ a1 a2 a3 ha1 ha2 ha3 oT oH' vT hoT hoH' wx wy wz cw1 cw2 cw3 cwh e1 e2 e3 e4 F9 N9 rfl)) ?_
  rintro f s10 ⟨rfl, g10, F10, N10⟩
  refine ⟨rfl, ?_⟩
  -- the steps
  refine wpC.seq (T10 w mean mg mb h₀ L fa cd s10 T X m7 news sx t1 pa t2 pl t3 li t4 bo t6 ti t7 tx xf yf zf n t5 oT oH' vT D c _ e5 ok.t0 ok.t1 ok.hn ok.steps hoT hoH' hfl hD1 hD2 hc1 hc2 e1 e2 e3 e4 e6 e7 F10 N10 rfl) ?_
  rintro f s11 ⟨rfl, g11, m11, oT', oH'', vT', vH', hm11, ⟨t5', e5'⟩, hoT', hoH'', F11, N11⟩
  refine ⟨rfl, ?_⟩
  -- the end
  refine wpC.seq (wpC.of (T11 w mean mg mb h₀ L fa cd s11 T X m11 _ (tx n) t5' bo t6 ti t7 ok.al9 ok.okE ok.okB e5' ((hm11 _ (by decide +kernel)).trans e6) ((hm11 _ (by decide +kernel)).trans e7) F11 N11 rfl)) ?_
  rintro f s12 ⟨rfl, g12, F12, N12⟩
  refine ⟨rfl, ?_⟩
  refine wpC.of (wpAny_execs_nil ?_)
  refine ⟨rfl, ((((((((((g1.trans g2).trans g3).trans g4).trans g5).trans g6).trans g7).trans g8).trans g9).trans g10).trans g11).trans g12, m11, oT', oH'', vT', vH', fun z hz => ?_, hoT', hoH'', F12, N12⟩
  have hz' := hz
  unfold outN at hz
  simp only [Bool.or_eq_false_iff] at hz
  obtain ⟨⟨⟨⟨⟨⟨z1, z2⟩, _⟩, _⟩, _⟩, _⟩, _⟩ := hz
  exact (hm11 z z1).trans ((hm7 z z2).trans (es z hz'))
end Mine
end
section
open PySem PySem.W PyProof.Rows PySem.Calls
set_option maxRecDepth 100000
set_option maxHeartbeats 8000000
namespace Mine
/-- a drawn tuple -/
noncomputable def Quad (nw : List (Addr × Obj)) (v : Value) : Prop := ∃ (D : Addr) (c : Nat) (sx pa pl li : Int) (t1 t2 t3 t4 : Tok), v = .ref D ∧ (D, tupO [.int sx t1, .int pa t2, .int pl t3, .int li t4] c) ∈ nw ∧ 0 ≤ sx ∧ sx < 1000000 ∧ 0 ≤ pa ∧ pa < 16 ∧ 0 ≤ pl ∧ pl < 9 ∧ 0 ≤ li ∧ li < 9
noncomputable abbrev lstO (vs : List Value) (n : Nat) : Obj := { cls := .type "list", data := .seq vs.toArray n }
/-- the drawn tuples in the ledger -/
noncomputable def Dr (h₀ : Heap) (L : Addr) (news : List (Addr × Obj)) (k : Nat) (Dd : Addr) (h : Heap) : Prop := ∃ (n : Nat) (vs : List Value) (tups : List (Addr × Obj)), News h₀ L h ((Dd, lstO vs n) :: (tups ++ news)) ∧ (∀ v ∈ vs, Quad tups v) ∧ vs.length = k ∧ (∀ p ∈ tups, p.1 ≠ Dd) ∧ (∀ p ∈ tups, ∀ q ∈ news, q.1 < p.1) ∧ (∀ q ∈ news, q.1 < Dd)
noncomputable def P5 (h₀ : Heap) (L : Addr) (m : Str → Option Value) (news : List (Addr × Obj)) (s : Shared) (f : Flow) (s' : Shared) : Prop :=
  f = .next ∧ Same s s' ∧ ∃ Dd, Fr h₀ L s'.heap (upd m (Str.ofString "drawn") (.ref Dd)) ∧ Dr h₀ L news 4 Dd s'.heap
theorem S5 (w : World) (mean : ExcName → Option Value) (mg mb : Str → Option Value) (h₀ : Heap) (L fa : Addr) (cd : Value) (s : Shared)
    (T : Top Mine.view (looseW Mine.view []) mean mg mb h₀) (X : (Mine.hd.heap_1 w.params).In h₀)
    (m : Str → Option Value) (news : List (Addr × Obj))  
    (F : Fr h₀ L s.heap m) (N : News h₀ L s.heap (news))
    (hz : PySem.Challenge.rw_ny0075_01 = PySem.Challenge.rw_ny0075_01) :
    RunC (model PySem.Challenge.rw_ny0075_01.row.prog w) (lawA L fa cd) (lawP 4) (lawEnv L fa cd)
      (P5 h₀ L m news s) (fun _ _ => False) s := by
  refine ⟨wpC.of ?_⟩
  w_on
  revert X hz
  k_fill
  intro X hz
  have K0 := below_caller h₀
  dsimp only [forBody, lawP, lawT, lawU, lawB, nthS, hdS, bodyOf, List.drop, lawA, lawEnv, lawS, scopeOf]
  w_top on
  w_strict (
    repeat ((first | walk1 | (dsimp only; walk1)); (try dsimp only))
    refine ⟨rfl, ⟨rfl, rfl⟩, _, Fr.eqm (by assumption) (fun _ => rfl), 0, [_, _, _, _], [_, _, _, _], by assumption, ?_, rfl, ?_, ?_, ?_⟩
    · intro v hv
      simp only [List.mem_cons, List.not_mem_nil, or_false] at hv
      rcases hv with rfl | rfl | rfl | rfl
      all_goals exact ⟨_, _, _, _, _, _, _, _, _, _, rfl, by k_mem, by decide, by decide, by decide, by decide, by decide, by decide, by decide, by decide⟩
    · intro p hp
      simp only [List.mem_cons, List.not_mem_nil, or_false] at hp
      rcases hp with rfl | rfl | rfl | rfl
      all_goals exact neN (by (try dsimp only); omega)
    · intro p hp q hq
      have h3 := ltN ((by assumption : ∀ p ∈ news, p.1 < _) q hq)
      simp only [List.mem_cons, List.not_mem_nil, or_false] at hp
      rcases hp with rfl | rfl | rfl | rfl
      all_goals exact ltN (by (try dsimp only); omega)
    · intro q hq
      have h3 := ltN ((by assumption : ∀ p ∈ news, p.1 < _) q hq)
      exact ltN (by (try dsimp only); omega))
end Mine
end
end
section
open PySem PySem.W PyProof.Rows PySem.Calls Mine
local macro_rules | `(tactic| walk_at "pyIter ref") => `(tactic| (k_here; refine stop2 ?_))
local macro_rules | `(tactic| walk_at "pyIter") => `(tactic| (k_here; refine stop2 ?_))
section
open PySem PySem.W PyProof.Rows PySem.Calls
set_option maxRecDepth 100000
set_option maxHeartbeats 8000000
namespace Mine
noncomputable def Q6 (h₀ : Heap) (L : Addr) (m : Str → Option Value) (news : List (Addr × Obj)) (Dd : Addr) (ws : List Value) (n : Nat) (k : Int) (s : Shared) (f : Flow) (s' : Shared) : Prop :=
  f = .next ∧ Same s s' ∧ Fr h₀ L s'.heap m ∧ ∃ D c t1 t2 t3 t4, News h₀ L s'.heap ((Dd, lstO (ws ++ [.ref D]) (n + 1)) :: (D, tupO [.int (k.fmod 1000000) t1, .int ((k.fdiv 1000000).fmod 16) t2, .int ((k.fdiv 16000000 + 5).fmod 9) t3, .int ((k.fdiv 144000000 + 7).fmod 9) t4] c) :: news) ∧ Dd < D ∧ ∀ p ∈ news, p.1 < D
theorem News.swap {h₀ h : Heap} {L : Addr} {a b : Addr × Obj} {r : List (Addr × Obj)} (N : News h₀ L h (a :: b :: r)) : News h₀ L h (b :: a :: r) := News.sub N (by intro p hp; grind)
theorem S6B (w : World) (mean : ExcName → Option Value) (mg mb : Str → Option Value) (h₀ : Heap) (L fa : Addr) (cd : Value) (s : Shared)
    (T : Top Mine.view (looseW Mine.view []) mean mg mb h₀) (X : (Mine.hd.heap_1 w.params).In h₀)
    (m : Str → Option Value) (news : List (Addr × Obj)) (Dd : Addr) (k : Int) (t33 : Tok) (n : Nat) (ws : List Value) (hw : ws.length ≤ 100) (hne : ∀ p ∈ news, p.1 ≠ Dd) (hv30 : m (Str.ofString "drawn") = some (.ref Dd)) (hv33 : m (Str.ofString "number") = some (.int k t33))
    (F : Fr h₀ L s.heap m) (N : News h₀ L s.heap ((Dd, lstO ws n) :: news))
    (hz : PySem.Challenge.rw_ny0075_01 = PySem.Challenge.rw_ny0075_01) :
    wpAny (model PySem.Challenge.rw_ny0075_01.row.prog w) (lawA L fa cd) (execs (forBody (lawP 5)) (lawEnv L fa cd))
      (Q6 h₀ L m news Dd ws n k s) (fun _ _ => False) s := by
  w_on
  replace F : Fr h₀ L s.heap (fun z => if z = Str.ofString "drawn" then some (.ref Dd) else if z = Str.ofString "number" then some (.int k t33) else m z) := Fr.eqm F (fun z => by
    (repeat' split) <;> (first | rfl | (subst_vars; assumption)))
  revert X hz
  k_fill
  intro X hz
  have K0 := below_caller h₀
  dsimp only [forBody, lawP, lawT, lawU, lawB, nthS, hdS, bodyOf, List.drop, lawA, lawEnv, lawS, scopeOf]
  w_top on
  w_strict (
    repeat ((first | walk1 | (dsimp only; walk1)); (try dsimp only))
    dsimp only [List.cons_append, List.nil_append]
    refine append_K (its := ws.toArray) (n := n) (by k_asm) (by k_asm) (Upd.tail (by k_ne) (Upd.head hne)) ?_ (by rw [sizeLine_eq, List.size_toArray]; omega)
    intro h9 F9 N9
    rw [List.push_toArray] at N9
    repeat ((first | walk1 | (dsimp only; walk1)); (try dsimp only))
    have l9 := (by assumption : Dd < _ ∧ AllLt _ news)
    exact ⟨rfl, ⟨rfl, rfl⟩, (Fr.eqm (by assumption) (fun z => by
      (try unfold upd)
      (repeat' split) <;> (first | rfl | (subst_vars; first | assumption | (symm; assumption)) | contradiction))), _, _, _, _, _, _, News.swap N9, l9.1, ktn_ltOf l9.2⟩)
end Mine
end
section
open PySem PySem.W PyProof.Rows PySem.Calls
set_option maxRecDepth 100000
set_option maxHeartbeats 8000000
namespace Mine
noncomputable def P6 (h₀ : Heap) (L : Addr) (m : Str → Option Value) (news : List (Addr × Obj)) (Dd : Addr) (s : Shared) (f : Flow) (s' : Shared) : Prop :=
  f = .next ∧ Same s s' ∧ ∃ m' k, (∀ z, (z == Str.ofString "number") = false → m' z = m z) ∧ Fr h₀ L s'.heap m' ∧ Dr h₀ L news k Dd s'.heap
theorem News.front {h₀ h : Heap} {L : Addr} {own r : List (Addr × Obj)} {x d : Addr × Obj} (N : News h₀ L h (own ++ x :: d :: r)) : News h₀ L h (d :: (own ++ x :: r)) := News.sub N (by intro p hp; grind)
theorem News.back {h₀ h : Heap} {L : Addr} {own t nw : List (Addr × Obj)} {x d e : Addr × Obj} (N : News h₀ L h (d :: e :: (own ++ x :: (t ++ nw)))) : News h₀ L h (own ++ x :: (d :: ((e :: t) ++ nw))) := News.sub N (by intro p hp; grind)
theorem fmod_in (a b : Int) (h : 0 < b) : 0 ≤ a.fmod b ∧ a.fmod b < b := by
  rw [Int.fmod_eq_emod_of_nonneg _ (Int.le_of_lt h)]
  exact ⟨Int.emod_nonneg _ (by omega), Int.emod_lt_of_pos _ h⟩
theorem ax_ne {h₀ h : Heap} {L ax Dd : Addr} {us ws : List Value} {n : Nat} {ns : List Int} {r tups : List (Addr × Obj)} (N : News h₀ L h ((ax, W.listOf us.toArray 0) :: (Dd, lstO ws n) :: r)) (hI : IntsAre us ns) (hq : ∀ v ∈ ws, Quad tups v) (hw : ws.length = 4) : ax ≠ Dd := by
  intro e
  subst e
  have e1 := (N _ (List.Mem.head _)).1
  have e2 := (N _ (List.Mem.tail _ (List.Mem.head _))).1
  dsimp only at e1 e2
  rw [e1] at e2
  have e3 : us = ws := by
    have := Option.some.inj e2
    simp only [lstO, W.listOf, Obj.mk.injEq, Data.seq.injEq, true_and, and_true] at this
    have h2 := congrArg Array.toList this.1
    simpa using h2
  subst e3
  cases hI with
  | nil => cases hw
  | cons k t r =>
    obtain ⟨D, c, _, _, _, _, _, _, _, _, e, _⟩ := hq _ (List.Mem.head _)
    cases e
noncomputable def J6 (m : Str → Option Value) (news : List (Addr × Obj)) (Dd : Addr) (i : Nat) (m1 : Str → Option Value) (nw : List (Addr × Obj)) : Prop :=
  (∀ z, (z == Str.ofString "number") = false → m1 z = m z) ∧ ∃ (n : Nat) (ws : List Value) (tups : List (Addr × Obj)), nw = (Dd, lstO ws n) :: (tups ++ news) ∧ (∀ v ∈ ws, Quad tups v) ∧ ws.length = 4 + i ∧ (∀ p ∈ tups, p.1 ≠ Dd) ∧ (∀ p ∈ tups, ∀ q ∈ news, q.1 < p.1) ∧ (∀ q ∈ news, q.1 < Dd)
theorem S6 (w : World) (mean : ExcName → Option Value) (mg mb : Str → Option Value) (h₀ : Heap) (L fa : Addr) (cd : Value) (s : Shared)
    (T : Top Mine.view (looseW Mine.view []) mean mg mb h₀) (X : (Mine.hd.heap_1 w.params).In h₀)
    (m : Str → Option Value) (news : List (Addr × Obj)) (a : Addr) (Dd : Addr) (vs : List Value) (ns : List Int) (hL : h₀.IsList a vs.toArray) (hI : IntsAre vs ns) (hlen : ns.length ≤ 63) (n : Nat) (ws : List Value) (tups : List (Addr × Obj)) (hq : ∀ v ∈ ws, Quad tups v) (hw : ws.length = 4) (hne : ∀ p ∈ tups, p.1 ≠ Dd) (hfr : ∀ p ∈ tups, ∀ q ∈ news, q.1 < p.1) (hfd : ∀ q ∈ news, q.1 < Dd) (hv31 : m (Str.ofString "script") = some (.ref a)) (hv30 : m (Str.ofString "drawn") = some (.ref Dd))
    (F : Fr h₀ L s.heap m) (N : News h₀ L s.heap ((Dd, lstO ws n) :: (tups ++ news)))
    (hz : PySem.Challenge.rw_ny0075_01 = PySem.Challenge.rw_ny0075_01) :
    RunC (model PySem.Challenge.rw_ny0075_01.row.prog w) (lawA L fa cd) (lawP 5) (lawEnv L fa cd)
      (P6 h₀ L m news Dd s) (fun _ _ => False) s := by
  refine ⟨?_⟩
  w_on
  replace F : Fr h₀ L s.heap (fun z => if z = Str.ofString "script" then some (.ref a) else if z = Str.ofString "drawn" then some (.ref Dd) else m z) := Fr.eqm F (fun z => by
    (repeat' split) <;> (first | rfl | (subst_vars; assumption)))
  revert X hz
  k_fill
  intro X hz
  have K0 := below_caller h₀
  dsimp only [forBody, lawP, lawT, lawU, lawB, nthS, hdS, bodyOf, List.drop, lawA, lawEnv, lawS, scopeOf]
  refine wpC.forStmt (Q := P6 h₀ L m news Dd s) ?_ ?_
  rotate_left
  · intro _; rfl
  w_top on
  w_strict (
    repeat (first | walk1 | (dsimp only; walk1))
    unfold STOP2
    have hI9 := (by assumption : IntsAre _ (List.take 4 ns))
    have hlen9 : (List.take 4 ns).length ≤ 4 := by rw [List.length_take]; omega
    have hl9 := IntsAre.length hI9
    have axne := ax_ne (by assumption) hI9 hq hw
    refine iterList_C (m := m) rfl (Fr.eqm (by k_asm) (fun z => by (repeat' split) <;> (first | rfl | (subst_vars; first | assumption | (symm; assumption)) | contradiction))) (by k_asm) rfl rfl (J6 m news Dd) ?h0 ?step ?hR
    case h0 => exact ⟨fun z _ => rfl, n, ws, tups, rfl, hq, hw, hne, hfr, hfd⟩
    case hR =>
      intro s' m' news' hs F' N' hJ
      obtain ⟨hm, n', ws', tups', rfl, q1, q2, q3, q4, q5⟩ := hJ
      exact ⟨rfl, hs, m', _, hm, F', n', ws', tups', News.sub N' (by intro p hp; grind), q1, q2, q3, q4, q5⟩
    intro I lt1 lt2 lt3 i v m1 nw s1 own hv hJ hnw hown hmem hs F1 N1
    obtain ⟨hm, n', ws', tups', rfl, q1, q2, q3, q4, q5⟩ := hJ
    obtain ⟨k, t, rfl, _⟩ := IntsAre.at hI9 i v hv
    have hi : i < (List.take 4 ns).length := by
      have := (List.getElem?_eq_some_iff.mp hv).1
      omega
    refine store_law F1 N1 rfl ?_
    intro h3 F3 N3
    have ID : Dd < I := lt1 (Dd, lstO ws n) (by simp)
    obtain ⟨oI, hmI⟩ := hmem
    refine wpC.mono (wpC.of (S6B w mean mg mb h₀ L fa cd _ T X (upd m1 (Str.ofString "number") (.int k t)) _ Dd k t n' ws' (by omega) ?_ (upd_ne (by decide +kernel) ((hm _ (by decide +kernel)).trans hv30)) upd_at F3 (News.front N3) rfl)) (fun f s4 h4 => ?_) (fun _ _ x => x)
    · intro p hp
      rcases List.mem_append.mp hp with hp | hp
      · rcases hown p hp with e | e
        · rw [e]; exact Nat.ne_of_gt ID
        · rw [e]; exact axne
      · rcases List.mem_cons.mp hp with rfl | hp
        · exact axne
        · rcases List.mem_append.mp hp with hp | hp
          · exact q3 p hp
          · exact Nat.ne_of_lt (q5 p hp)
    obtain ⟨rfl, g4, F4, D, c, u1, u2, u3, u4, N4, lD, l4⟩ := h4
    refine ⟨rfl, _, _, ⟨g4.1.trans hs.1, g4.2.trans hs.2⟩, F4, News.back N4, ?_, fun z hz => (upd_ne hz (hm z hz)), n' + 1, ws' ++ [.ref D], (D, _) :: tups', rfl, ?_, ?_, ?_, ?_, q5⟩
    · refine List.forall_mem_cons.mpr ⟨Nat.ne_of_lt ID, List.forall_mem_cons.mpr ⟨Nat.ne_of_gt (l4 (I, oI) (List.mem_append_left _ hmI)), fun p hp => hnw p (List.mem_cons_of_mem _ hp)⟩⟩
    · intro v hv
      rcases List.mem_append.mp hv with hv | hv
      · obtain ⟨D1, c1, a1, a2, a3, a4, b1, b2, b3, b4, r1, r2, r3⟩ := q1 v hv
        exact ⟨D1, c1, a1, a2, a3, a4, b1, b2, b3, b4, r1, List.mem_cons_of_mem _ r2, r3⟩
      · rw [List.mem_singleton.mp hv]
        have f1 := fmod_in k 1000000 (by decide)
        have f2 := fmod_in (k.fdiv 1000000) 16 (by decide)
        have f3 := fmod_in (k.fdiv 16000000 + 5) 9 (by decide)
        have f4 := fmod_in (k.fdiv 144000000 + 7) 9 (by decide)
        exact ⟨D, c, _, _, _, _, u1, u2, u3, u4, rfl, List.Mem.head _, f1.1, f1.2, f2.1, f2.2, f3.1, f3.2, f4.1, f4.2⟩
    · rw [List.length_append, q2]; simp; omega
    · exact List.forall_mem_cons.mpr ⟨Nat.ne_of_gt lD, q3⟩
    · exact List.forall_mem_cons.mpr ⟨fun q hq => l4 q (List.mem_append_right _ (List.mem_cons_of_mem _ (List.mem_append_right _ hq))), q4⟩)
end Mine
end
section
open PySem PySem.W PyProof.Rows PySem.Calls
set_option maxRecDepth 100000
set_option maxHeartbeats 8000000
namespace Mine
noncomputable def P7 (h₀ : Heap) (L : Addr) (s : Shared) (f : Flow) (s' : Shared) : Prop := f = .next ∧ Same s s' ∧ ∃ m', Fr h₀ L s'.heap m'
/-- every drawn tuple is as the law says -/
noncomputable def AllDraw (w : World) (sg : Str) : Prop := ∀ sx pa pl li : Int, 0 ≤ sx → sx < 1000000 → 0 ≤ pa → pa < 16 → 0 ≤ pl → pl < 9 → 0 ≤ li → li < 9 → ∃ bo na lo sp ti tx xf yf zf n, DrawOk w sg sx pa pl li bo na lo sp ti tx xf yf zf n
noncomputable def J7 (L : Addr) (sg : Str) (tups : List (Addr × Obj)) (m1 : Str → Option Value) (nw : List (Addr × Obj)) : Prop :=
  (∃ t, m1 (Str.ofString "strange") = some (.str sg t)) ∧ ∃ oT oH vT vH, oT.data = .cell vT ∧ oH.data = .cell vH ∧ nw = (L + 2, oT) :: (L + 1, oH) :: tups
theorem News.in7 {h₀ h : Heap} {L : Addr} {own t : List (Addr × Obj)} {x a b : Addr × Obj} (N : News h₀ L h (own ++ x :: a :: b :: t)) : News h₀ L h (a :: b :: (own ++ x :: t)) := News.sub N (by intro p hp; grind)
theorem News.out7 {h₀ h : Heap} {L : Addr} {own t : List (Addr × Obj)} {x a b : Addr × Obj} (N : News h₀ L h (a :: b :: (own ++ x :: t))) : News h₀ L h (own ++ x :: (a :: b :: t)) := News.sub N (by intro p hp; grind)
theorem News.dup {h₀ h : Heap} {L : Addr} {own t : List (Addr × Obj)} {x a b p : Addr × Obj} (N : News h₀ L h (own ++ x :: a :: b :: t)) (hp : p ∈ t) : News h₀ L h (p :: (own ++ x :: a :: b :: t)) := News.sub N (by intro q hq; grind)
theorem S7 (w : World) (mean : ExcName → Option Value) (mg mb : Str → Option Value) (h₀ : Heap) (L fa : Addr) (cd : Value) (s : Shared)
    (T : Top Mine.view (looseW Mine.view []) mean mg mb h₀) (X : (Mine.hd.heap_1 w.params).In h₀)
    (m : Str → Option Value) (Dd : Addr) (sg : Str) (t20 : Tok) (oT oH : Obj) (vT vH : Option Value) (hoT : oT.data = .cell vT) (hoH : oH.data = .cell vH) (hdr : AllDraw w sg) (n : Nat) (vs : List Value) (tups : List (Addr × Obj)) (hq : ∀ v ∈ vs, Quad tups v) (hc1 : ∀ p ∈ tups, p.1 ≠ L + 1) (hc2 : ∀ p ∈ tups, p.1 ≠ L + 2) (hd1 : Dd ≠ L + 1) (hd2 : Dd ≠ L + 2) (hv30 : m (Str.ofString "drawn") = some (.ref Dd)) (hv20 : m (Str.ofString "strange") = some (.str sg t20))
    (F : Fr h₀ L s.heap m) (N : News h₀ L s.heap ((Dd, lstO vs n) :: (L + 2, oT) :: (L + 1, oH) :: tups))
    (hz : PySem.Challenge.rw_ny0075_01 = PySem.Challenge.rw_ny0075_01) :
    RunC (model PySem.Challenge.rw_ny0075_01.row.prog w) (lawA L fa cd) (lawP 6) (lawEnv L fa cd)
      (P7 h₀ L s) (fun _ _ => False) s := by
  refine ⟨?_⟩
  w_on
  replace F : Fr h₀ L s.heap (fun z => if z = Str.ofString "drawn" then some (.ref Dd) else if z = Str.ofString "strange" then some (.str sg t20) else m z) := Fr.eqm F (fun z => by
    (repeat' split) <;> (first | rfl | (subst_vars; assumption)))
  revert X hz
  k_fill
  intro X hz
  have K0 := below_caller h₀
  dsimp only [forBody, lawP, lawT, lawU, lawB, nthS, hdS, bodyOf, List.drop, lawA, lawEnv, lawS, scopeOf]
  refine wpC.forStmt (Q := P7 h₀ L s) ?_ ?_
  rotate_left
  · intro _; rfl
  w_top on
  w_strict (
    repeat (first | walk1 | (dsimp only; walk1))
    unfold STOP2
    refine iterList_C (m := m) rfl (Fr.eqm (by k_asm) (fun z => by (repeat' split) <;> (first | rfl | (subst_vars; first | assumption | (symm; assumption)) | contradiction))) (by k_asm) rfl rfl (fun _ => J7 L sg tups) ?h0 ?step ?hR
    case h0 => exact ⟨⟨t20, hv20⟩, oT, oH, vT, vH, hoT, hoH, rfl⟩
    case hR =>
      intro s' m' news' hs F' N' hJ
      exact ⟨rfl, hs, m', F'⟩
    intro I lt1 lt2 lt3 i v m1 nw s1 own hv hJ hnw hown hmem hs F1 N1
    obtain ⟨⟨t9, e9⟩, oT', oH', vT', vH', k1, k2, rfl⟩ := hJ
    obtain ⟨D, c, sx, pa, pl, li, u1, u2, u3, u4, rfl, hin, b0, b1, b2, b3, b4, b5, b6, b7⟩ := hq v (List.mem_of_getElem? hv)
    obtain ⟨bo, na, lo', sp, ti, tx, xf, yf, zf, n', ok⟩ := hdr sx pa pl li b0 b1 b2 b3 b4 b5 b6 b7
    have I1 : L + 1 < I := lt1 (L + 1, oH) (by simp)
    have I2 : L + 2 < I := lt1 (L + 2, oT) (by simp)
    have N2 := News.dup N1 hin
    replace N2 : News h₀ L s1.heap _ := N2
    replace F1 : Fr h₀ L s1.heap m1 := F1
    have cc1 : ∀ p ∈ own ++ (Dd, lstO vs n) :: tups, p.1 ≠ L + 1 := fun p hp => by
      rcases List.mem_append.mp hp with hp | hp
      · rcases hown p hp with e | e
        · rw [e]; exact Nat.ne_of_gt I1
        · rw [e]; exact hd1
      · rcases List.mem_cons.mp hp with rfl | hp
        · exact hd1
        · exact hc1 p hp
    have cc2 : ∀ p ∈ own ++ (Dd, lstO vs n) :: tups, p.1 ≠ L + 2 := fun p hp => by
      rcases List.mem_append.mp hp with hp | hp
      · rcases hown p hp with e | e
        · rw [e]; exact Nat.ne_of_gt I2
        · rw [e]; exact hd2
      · rcases List.mem_cons.mp hp with rfl | hp
        · exact hd2
        · exact hc2 p hp
    have nw7 : ∀ p ∈ tups, p.1 ≠ I := fun p hp => hnw p (List.mem_cons_of_mem _ (List.mem_cons_of_mem _ hp))
    clear hv N1 hin lt1 hnw hown hq hdr
    k_steps
    refine wpC.mono (TT w mean mg mb h₀ L fa cd _ T X (upd (upd (upd (upd m1 (Str.ofString "sixth") (.int sx u1)) (Str.ofString "part") (.int pa u2)) (Str.ofString "pale") (.int pl u3)) (Str.ofString "light") (.int li u4)) (own ++ (Dd, lstO vs n) :: tups) sx pa pl li u1 u2 u3 u4 t9 sg bo na lo' sp ti tx xf yf zf n' oT' oH' vT' vH' ok
      (upd_ne (by decide +kernel) (upd_ne (by decide +kernel) (upd_ne (by decide +kernel) upd_at))) (upd_ne (by decide +kernel) (upd_ne (by decide +kernel) upd_at)) (upd_ne (by decide +kernel) upd_at) upd_at (upd_ne (by decide +kernel) (upd_ne (by decide +kernel) (upd_ne (by decide +kernel) (upd_ne (by decide +kernel) e9)))) k1 k2 cc1 cc2 (Fr.eqm (by assumption) (fun _ => rfl)) (News.in7 (fun p hp => (by assumption : News h₀ L _ (_ :: _)) p (List.mem_cons_of_mem _ hp)))) (fun f s4 h4 => ?_) (fun _ _ x => x)
    obtain ⟨rfl, g4, m4, oT4, oH4, vT4, vH4, hm4, j1, j2, F4, N4⟩ := h4
    refine ⟨rfl, m4, _, ⟨g4.1.trans hs.1, g4.2.trans hs.2⟩, F4, News.out7 N4, ?_, ⟨t9, ?_⟩, oT4, oH4, vT4, vH4, j1, j2, rfl⟩
    · exact List.forall_mem_cons.mpr ⟨Nat.ne_of_lt I2, List.forall_mem_cons.mpr ⟨Nat.ne_of_lt I1, nw7⟩⟩
    · exact (hm4 _ (by decide +kernel)).trans (upd_ne (by decide +kernel) (upd_ne (by decide +kernel) (upd_ne (by decide +kernel) (upd_ne (by decide +kernel) e9)))))
end Mine
end
section
open PySem PySem.W PyProof.Rows PySem.Calls
set_option maxRecDepth 100000
set_option maxHeartbeats 8000000
namespace Mine
inductive AllOk : List Value → Prop
  | nil : AllOk []
  | cons {y : Str} {t : Tok} {r : List Value} : NotOdd y → Asc y → AllOk r → AllOk (.str y t :: r)
theorem AllOk.at : ∀ {vs : List Value} {i : Nat} {v : Value}, AllOk vs → vs[i]? = some v → ∃ y t, v = .str y t ∧ NotOdd y ∧ Asc y
  | _, 0, _, .cons h k _, e => ⟨_, _, (Option.some.inj e).symm, h, k⟩
  | _, i + 1, _, .cons _ _ r, e => AllOk.at (i := i) r (by simpa using e)
theorem alC_other (w : World) {y : Str} (re ve : Str) (h : NotOdd y) : AlC w y re ve y re ve := fun t1 t2 t3 => alias_other w y re ve t1 t2 t3 h.1 h.2 rfl
noncomputable def P3 (h₀ : Heap) (L : Addr) (m : Str → Option Value) (news : List (Addr × Obj)) (s : Shared) (f : Flow) (s' : Shared) : Prop :=
  f = .next ∧ Same s s' ∧ ∃ m', (∀ z, (z == Str.ofString "title") = false → m' z = m z) ∧ Fr h₀ L s'.heap m' ∧ News h₀ L s'.heap news
theorem S3loop (w : World) (mean : ExcName → Option Value) (mg mb : Str → Option Value) (h₀ : Heap) (L fa : Addr) (cd : Value) (s : Shared)
    (T : Top Mine.view (looseW Mine.view []) mean mg mb h₀) (X : (Mine.hd.heap_1 w.params).In h₀)
    (m : Str → Option Value) (news : List (Addr × Obj))  
    (F : Fr h₀ L s.heap m) (N : News h₀ L s.heap (news))
    (hz : PySem.Challenge.rw_ny0075_01 = PySem.Challenge.rw_ny0075_01) :
    RunC (model PySem.Challenge.rw_ny0075_01.row.prog w) (lawA L fa cd) (lawP 2) (lawEnv L fa cd)
      (P3 h₀ L m news s) (fun _ _ => False) s := by
  refine ⟨?_⟩
  w_on
  revert X hz
  k_fill
  intro X hz
  have K0 := below_caller h₀
  dsimp only [forBody, lawP, lawT, lawU, lawB, nthS, hdS, bodyOf, List.drop, lawA, lawEnv, lawS, scopeOf]
  refine wpC.forStmt (Q := P3 h₀ L m news s) ?_ ?_
  rotate_left
  · intro _; rfl
  w_top on
  w_strict (
    repeat ((first | walk1 | (dsimp only; walk1)); (try dsimp only))
    unfold STOP2
    refine iterList_C (m := m) rfl (by k_asm) (by k_asm) rfl rfl (fun _ m1 nw => (∀ z, (z == Str.ofString "title") = false → m1 z = m z) ∧ nw = news) ⟨fun z _ => rfl, rfl⟩ ?_ ?_
    rotate_left
    · intro s' m' news' hs F' N' hJ
      obtain ⟨hm, rfl⟩ := hJ
      exact ⟨rfl, hs, m', hm, F', fun p hp => N' p (List.mem_cons_of_mem _ hp)⟩
    intro I lt1 lt2 lt3 i v m1 nw s1 own hv hJ hnw hown hmem hs F1 N1
    obtain ⟨hm, rfl⟩ := hJ
    obtain ⟨y, t, rfl, hy, hya⟩ := AllOk.at (by repeat' first | exact AllOk.nil | refine AllOk.cons ⟨by decide +kernel, by decide +kernel⟩ (by unfold Asc; decide +kernel) ?_) hv
    refine store_law F1 N1 rfl ?_
    intro h3 F3 N3
    refine wpC.mono (wpC.of (B3 w mean mg mb h₀ L fa cd _ T X (upd m1 (Str.ofString "title") (.str y t)) _ y t (alC_other w _ _ hy) hya.ok upd_at F3 N3 rfl)) (fun f s4 h4 => ?_) (fun _ _ x => x)
    obtain ⟨rfl, g4, F4, N4⟩ := h4
    exact ⟨rfl, _, _, ⟨g4.1.trans hs.1, g4.2.trans hs.2⟩, F4, N4, hnw, fun z hz => upd_ne hz (hm z hz), rfl⟩)
noncomputable def P8 (s : Shared) (f : Flow) (s' : Shared) : Prop := f = .ret (.bool true) ∧ Same s s' ∧ s'.heap = s.heap
theorem S8 (w : World) (mean : ExcName → Option Value) (mg mb : Str → Option Value) (h₀ : Heap) (L fa : Addr) (cd : Value) (s : Shared)
    (T : Top Mine.view (looseW Mine.view []) mean mg mb h₀) (X : (Mine.hd.heap_1 w.params).In h₀)
    (m : Str → Option Value) (news : List (Addr × Obj))  
    (F : Fr h₀ L s.heap m) (N : News h₀ L s.heap (news))
    (hz : PySem.Challenge.rw_ny0075_01 = PySem.Challenge.rw_ny0075_01) :
    RunC (model PySem.Challenge.rw_ny0075_01.row.prog w) (lawA L fa cd) (lawP 7) (lawEnv L fa cd)
      (P8 s) (fun _ _ => False) s := by
  refine ⟨wpC.of ?_⟩
  w_on
  revert X hz
  k_fill
  intro X hz
  have K0 := below_caller h₀
  dsimp only [forBody, lawP, lawT, lawU, lawB, nthS, hdS, bodyOf, List.drop, lawA, lawEnv, lawS, scopeOf]
  w_top on
  w_strict (
    k_steps
    exact ⟨rfl, ⟨rfl, rfl⟩, rfl⟩)
end Mine
end
end
end
section
open PySem PySem.Float64
namespace Mine
theorem V_mult {z k : Nat} (h : 2 ^ 54 * 2 ^ k ≤ V z) : ∃ s, V z = s * (4 * 2 ^ k) := by
  obtain ⟨k2, q2, _, hq2, _, hV2⟩ := V_form z
  have hk : k + 2 ≤ k2 := by
    refine Decidable.byContradiction fun hn => ?_
    have h1 : V z < 2 ^ 53 * 2 ^ (k + 1) := by
      rw [hV2]
      calc q2 * 2 ^ k2 < 2 ^ 53 * 2 ^ k2 := Nat.mul_lt_mul_of_pos_right hq2 (Nat.two_pow_pos _)
        _ ≤ 2 ^ 53 * 2 ^ (k + 1) := Nat.mul_le_mul_left _ (Nat.pow_le_pow_right (by decide) (by (clear h hq2 hV2; omega)))
    rw [Nat.pow_succ] at h1
    (clear hq2 hV2 hn; omega)
  refine ⟨q2 * 2 ^ (k2 - (k + 2)), ?_⟩
  rw [hV2]
  have e : 2 ^ k2 = 2 ^ (k2 - (k + 2)) * (4 * 2 ^ k) := by
    have : 4 * 2 ^ k = 2 ^ (k + 2) := by rw [Nat.pow_add]; (clear h hq2 hV2 hk; omega)
    rw [this, ← Nat.pow_add]; congr 1; (clear h hq2 hV2 this; omega)
  rw [e, Nat.mul_assoc]
/-- a number of few bits, divided by six and multiplied by six again, is itself -/
theorem kahan {h r : UInt64} {X c n e : Nat} (hn0 : 0 < n) (hn : n < 2 ^ 25) (he : 1060 ≤ e) (he2 : e ≤ 1074) (hX : X = n * 2 ^ e) (hc : 0 < c)
    (hh : Right h false (c * X) (c * 6)) (hr : ∀ t, h = pack false t → t < infMag → Right r false (V t * (6 * 2 ^ 1074)) (2 ^ 1074)) : Fl r X := by
  have hi : infMag = 2047 * 2 ^ 52 := rfl
  have hXpos : 0 < X := by rw [hX]; exact Nat.mul_pos hn0 (Nat.two_pow_pos _)
  have hXlo : 2 ^ 1060 ≤ X := by
    rw [hX]
    calc 2 ^ 1060 ≤ 2 ^ e := Nat.pow_le_pow_right (by decide) he
      _ ≤ n * 2 ^ e := Nat.le_mul_of_pos_left _ hn0
  have hXhi : X < 2 ^ 1099 := by
    rw [hX]
    calc n * 2 ^ e < 2 ^ 25 * 2 ^ e := Nat.mul_lt_mul_of_pos_right hn (Nat.two_pow_pos _)
      _ = 2 ^ (25 + e) := by rw [← Nat.pow_add]
      _ ≤ 2 ^ 1099 := Nat.pow_le_pow_right (by decide) (by (clear hn0 hn he hX hc hi hXpos hXlo; omega))
  obtain ⟨t, hpk, hle, hov, hnear⟩ := hh
  have hlt : t < infMag := by
    refine Nat.lt_of_le_of_ne hle fun z => ?_
    have h1 := hov.mp z
    have h2 : c * (6 * ((2 ^ 54 - 1) * 2 ^ 2045)) ≤ c * (2 * X) := by
      rw [← Nat.mul_assoc c 6, Nat.mul_left_comm c 2 X]; exact h1
    have h3 := Nat.le_of_mul_le_mul_left h2 hc
    have h4 : 2 * X < 2 * 2 ^ 1099 := by (clear hn0 hn he he2 hX hc hi hXpos hXlo hpk hle hov hnear z h1 h2 h3; omega)
    exact absurd (Nat.lt_of_le_of_lt h3 h4) (by decide +kernel)
  have near : ∀ t', dist X (6 * V t) ≤ dist X (6 * V t') := fun t' => by
    have h1 := (hnear hlt t').1
    rw [Nat.mul_assoc, Nat.mul_assoc, dist_mul, dist_mul] at h1
    exact Nat.le_of_mul_le_mul_left h1 hc
  obtain ⟨k, q, htk, hq, hqk, hV⟩ := V_form t
  have hup : V (t + 1) = (q + 1) * 2 ^ k := by
    rw [htk, Nat.add_assoc]
    exact V_at (by (clear hn0 hn he he2 hX hc hi hXpos hXlo hXhi hpk hle hov hnear hlt htk hqk hV; omega)) (hqk.imp (fun x => by (clear hn0 hn he he2 hX hc hi hXpos hXlo hXhi hpk hle hov hnear hlt htk hq hqk hV; omega)) id)
  have hu : 0 < 2 ^ k := Nat.two_pow_pos _
  have hlow : t ≠ 0 → ∃ g, 0 < g ∧ g ≤ 2 ^ k ∧ V (t - 1) + g = q * 2 ^ k := fun ht0 => by
    by_cases hb : q = 2 ^ 52 ∧ k ≠ 0
    · refine ⟨2 ^ (k - 1), Nat.two_pow_pos _, Nat.pow_le_pow_right (by decide) (by (clear hn0 hn he he2 hX hc hi hXpos hXlo hXhi hpk hle hov hnear hlt htk hq hqk hV hup hu ht0 hb; omega)), ?_⟩
      have e1 : t - 1 = (k - 1) * 2 ^ 52 + (2 ^ 53 - 1) := by
        rw [htk, hb.1]
        have : k * 2 ^ 52 = (k - 1) * 2 ^ 52 + 2 ^ 52 := by
          conv => lhs; rw [show k = (k - 1) + 1 from by (clear hn0 hn he he2 hX hc hi hXpos hXlo hXhi hpk hle hov hnear hlt htk hq hqk hV hup hu ht0; omega), Nat.add_mul, Nat.one_mul]
        (clear hn0 hn he he2 hX hc hi hXpos hXlo hXhi hpk hle hov hnear hlt htk hq hqk hV hup hu ht0 hb; omega)
      rw [e1, V_at (by decide) (.inl (by decide)), hb.1]
      have : 2 ^ k = 2 * 2 ^ (k - 1) := by
        conv => lhs; rw [show k = (k - 1) + 1 from by (clear hn0 hn he he2 hX hc hi hXpos hXlo hXhi hpk hle hov hnear hlt htk hq hqk hV hup hu ht0 e1; omega), Nat.pow_succ, Nat.mul_comm]
      rw [this]; (clear hn0 hn he he2 hX hc hi hXpos hXlo hXhi hpk hle hov hnear hlt htk hq hqk hV hup hu ht0 hb e1 this; omega)
    · refine ⟨2 ^ k, hu, Nat.le_refl _, ?_⟩
      have hq1 : 1 ≤ q := by
        rcases hqk with x | x
        · (clear hn0 hn he he2 hX hc hi hXpos hXlo hXhi hpk hle hov hnear hlt htk hq hV hup hu ht0 hb; omega)
        · subst x; (clear hn0 hn he he2 hX hc hi hXpos hXlo hXhi hpk hle hov hnear hlt hq hV hup hu hb; omega)
      have e1 : t - 1 = k * 2 ^ 52 + (q - 1) := by (clear hn0 hn he he2 hX hc hi hXpos hXlo hXhi hpk hle hov hnear hlt hq hqk hV hup hu ht0 hb; omega)
      rw [e1, V_at (by (clear hn0 hn he he2 hX hc hi hXpos hXlo hXhi hpk hle hov hnear hlt htk hqk hV hup hu ht0 hb hq1 e1; omega)) ?_]
      · rw [Nat.sub_mul]
        have := Nat.mul_le_mul_right (2 ^ k) hq1
        (clear hn0 hn he he2 hX hc hi hXpos hXlo hXhi hpk hle hov hnear hlt htk hq hqk hV hup hu ht0 hb hq1 e1; omega)
      · rcases hqk with x | x
        · by_cases k0 : k = 0
          · exact .inr k0
          · exact .inl (by (clear hn0 hn he he2 hX hc hi hXpos hXlo hXhi hpk hle hov hnear hlt htk hq hV hup hu ht0 hq1 e1; omega))
        · exact .inr x
  have b1 : X ≤ 6 * (q * 2 ^ k) + 3 * 2 ^ k := by
    have h1 := near (t + 1)
    rw [hup, hV, Nat.add_mul, Nat.one_mul] at h1
    unfold dist at h1
    (clear hn0 hn he he2 hX hc hi hXpos hXlo hXhi hpk hle hov hnear hlt htk hq hqk hV hup hlow; omega)
  have b2 : 6 * (q * 2 ^ k) ≤ X + 3 * 2 ^ k := by
    by_cases ht0 : t = 0
    · rw [ht0] at hV
      rw [V_zero] at hV
      rw [← hV]; (clear hn0 hn he he2 hX hc hi hXpos hXlo hXhi hpk hle hov hnear hlt htk hq hqk hV hup hu hlow b1 ht0; omega)
    · obtain ⟨g, g0, g1, g2⟩ := hlow ht0
      have h1 := near (t - 1)
      rw [hV] at h1
      unfold dist at h1
      (clear hn0 hn he he2 hX hc hi hXpos hXlo hXhi hpk hle hov hnear hlt htk hq hqk hV hup hu hlow b1 ht0; omega)
  have hk0 : k ≠ 0 := by
    intro h0
    rw [h0] at b1
    have h1 : 6 * (q * 2 ^ 0) + 3 * 2 ^ 0 < 2 ^ 57 := by (clear hn0 hn he he2 hX hc hi hXpos hXlo hXhi hpk hle hov hnear hlt htk hqk hV hup hu hlow b1 b2 h0; omega)
    exact absurd (Nat.lt_of_le_of_lt (Nat.le_trans hXlo b1) h1) (by decide +kernel)
  have hq52 : 2 ^ 52 ≤ q := hqk.resolve_right hk0
  have hke : k + 2 ≤ e := by
    refine Decidable.byContradiction fun hne => ?_
    have h1 : X < 2 ^ 25 * 2 ^ (k + 1) := by
      rw [hX]
      calc n * 2 ^ e < 2 ^ 25 * 2 ^ e := Nat.mul_lt_mul_of_pos_right hn (Nat.two_pow_pos _)
        _ ≤ 2 ^ 25 * 2 ^ (k + 1) := Nat.mul_le_mul_left _ (Nat.pow_le_pow_right (by decide) (by (clear hn0 hn he he2 hX hc hi hXpos hXlo hXhi hpk hle hov hnear hlt htk hq hqk hV hup hu hlow b1 b2 hk0 hq52; omega)))
    have h2 := Nat.mul_le_mul_right (2 ^ k) hq52
    rw [Nat.pow_succ] at h1
    (clear hn0 hn he he2 hX hc hi hXpos hXlo hXhi hpk hle hov hnear hlt htk hq hqk hV hup hu hlow b1 hk0 hq52 hne; omega)
  have hXY : X = n * 2 ^ (e - (k + 2)) * (4 * 2 ^ k) := by
    rw [hX, Nat.mul_assoc]
    congr 1
    have : 4 * 2 ^ k = 2 ^ (k + 2) := by rw [Nat.pow_add]; (clear hn0 hn he he2 hX hc hi hXpos hXlo hXhi hpk hle hov hnear hlt htk hq hqk hV hup hu hlow b1 b2 hk0 hq52 hke; omega)
    rw [this, ← Nat.pow_add]; congr 1; (clear hn0 hn he he2 hX hc hi hXpos hXlo hXhi hpk hle hov hnear hlt htk hq hqk hV hup hu hlow b1 b2 hk0 hq52 this; omega)
  generalize n * 2 ^ (e - (k + 2)) = Y at hXY
  have c1 : 4 * Y ≤ 6 * q + 2 := by
    have h1 : (4 * Y) * 2 ^ k ≤ (6 * q + 3) * 2 ^ k := by
      rw [hXY] at b1
      rw [Nat.add_mul, Nat.mul_assoc 6, Nat.mul_comm 4 Y, Nat.mul_assoc Y 4]; exact b1
    have := Nat.le_of_mul_le_mul_right h1 hu
    (clear hn0 hn he he2 hX hc hi hXpos hXlo hXhi hpk hle hov hnear hlt htk hq hqk hV hup hu hlow b1 b2 hk0 hq52 hke hXY h1; omega)
  have c2 : 6 * q ≤ 4 * Y + 2 := by
    have h1 : (6 * q) * 2 ^ k ≤ (4 * Y + 3) * 2 ^ k := by
      rw [hXY] at b2
      rw [Nat.add_mul, Nat.mul_assoc 6, Nat.mul_comm 4 Y, Nat.mul_assoc Y 4]; exact b2
    have := Nat.le_of_mul_le_mul_right h1 hu
    (clear hn0 hn he he2 hX hc hi hXpos hXlo hXhi hpk hle hov hnear hlt htk hq hqk hV hup hu hlow b1 b2 hk0 hq52 hke hXY c1 h1; omega)
  -- the number itself as a float: an even one
  have hl1 : 2 ^ n.log2 ≤ n := Nat.log2_self_le (by (clear hn he he2 hX hc hi hXpos hXlo hXhi hpk hle hov hnear hlt htk hq hqk hV hup hu hlow b1 b2 hk0 hq52 hke hXY c1 c2; omega))
  have hl2 : n < 2 ^ (n.log2 + 1) := Nat.lt_log2_self
  have hl3 : n.log2 < 25 := (Nat.log2_lt (by (clear hn0 hn he he2 hX hc hi hXpos hXlo hXhi hpk hle hov hnear hlt htk hq hqk hV hup hu hlow b1 b2 hk0 hq52 hke hXY c1 c2; omega))).mpr hn
  have p1 : 2 ^ 52 ≤ n * 2 ^ (52 - n.log2) := by
    calc 2 ^ 52 = 2 ^ n.log2 * 2 ^ (52 - n.log2) := by rw [← Nat.pow_add]; congr 1; (clear hn0 hn he he2 hX hc hi hXpos hXlo hXhi hpk hle hov hnear hlt htk hq hqk hV hup hu hlow b1 b2 hk0 hq52 hke hXY c1 c2 hl1 hl2; omega)
      _ ≤ _ := Nat.mul_le_mul_right _ hl1
  have p2 : n * 2 ^ (52 - n.log2) < 2 ^ 53 := by
    calc n * 2 ^ (52 - n.log2) < 2 ^ (n.log2 + 1) * 2 ^ (52 - n.log2) := Nat.mul_lt_mul_of_pos_right hl2 (Nat.two_pow_pos _)
      _ = 2 ^ 53 := by rw [← Nat.pow_add]; congr 1; (clear hn0 hn he he2 hX hc hi hXpos hXlo hXhi hpk hle hov hnear hlt htk hq hqk hV hup hu hlow b1 b2 hk0 hq52 hke hXY c1 c2 hl1 hl2 p1; omega)
  have p3 : n * 2 ^ (52 - n.log2) * 2 ^ (e - (52 - n.log2)) = n * 2 ^ e := by
    rw [Nat.mul_assoc, ← Nat.pow_add]; congr 2; (clear hn0 hn he2 hX hc hi hXpos hXlo hXhi hpk hle hov hnear hlt htk hq hqk hV hup hu hlow b1 b2 hk0 hq52 hke hXY c1 c2 hl1 hl2 hl3 p1 p2; omega)
  have p4 : (n * 2 ^ (52 - n.log2)) % 2 = 0 := by
    rw [show 52 - n.log2 = (51 - n.log2) + 1 from by (clear hn0 hn he he2 hX hc hi hXpos hXlo hXhi hpk hle hov hnear hlt htk hq hqk hV hup hu hlow b1 b2 hk0 hq52 hke hXY c1 c2 hl1 hl2 p1 p2 p3; omega), Nat.pow_succ, ← Nat.mul_assoc]
    exact Nat.mul_mod_left _ _
  obtain ⟨t0, hV0, hlt0, hev⟩ : ∃ t0, V t0 = X ∧ t0 < infMag ∧ t0 % 2 = 0 := by
    refine ⟨(e - (52 - n.log2)) * 2 ^ 52 + n * 2 ^ (52 - n.log2), ?_, ?_, by (clear hn0 hn he he2 hX hc hi hXpos hXlo hXhi hpk hle hov hnear hlt htk hq hqk hV hup hu hlow b1 b2 hk0 hq52 hke hXY c1 c2 hl1 hl2 hl3 p1 p2 p3; omega)⟩
    · rw [V_at (Nat.le_of_lt p2) (.inl p1), p3, hX]
    · have : (e - (52 - n.log2)) * 2 ^ 52 ≤ 1074 * 2 ^ 52 := Nat.mul_le_mul_right _ (by (clear hn0 hn he hX hc hi hXpos hXlo hXhi hpk hle hov hnear hlt htk hq hqk hV hup hu hlow b1 b2 hk0 hq52 hke hXY c1 c2 hl1 hl2 hl3 p1 p2 p3 p4; omega))
      rw [hi]; (clear hn0 hn he he2 hX hc hi hXpos hXlo hXhi hpk hle hov hnear hlt htk hq hqk hV hup hu hlow b1 b2 hk0 hq52 hke hXY c1 c2 hl1 hl2 hl3 p1 p3 p4; omega)
  obtain ⟨t2, hpk2, hle2, hov2, hn2⟩ := hr t hpk hlt
  have hlt2 : t2 < infMag := by
    refine Nat.lt_of_le_of_ne hle2 fun z => ?_
    have h1 := hov2.mp z
    rw [hV] at h1
    have h2 : 2 ^ 1074 * ((2 ^ 54 - 1) * 2 ^ 2045) ≤ 2 ^ 1074 * (2 * (6 * (q * 2 ^ k))) := by
      calc 2 ^ 1074 * ((2 ^ 54 - 1) * 2 ^ 2045) ≤ 2 * (q * 2 ^ k * (6 * 2 ^ 1074)) := h1
        _ = _ := by generalize q * 2 ^ k = H; generalize (2 : Nat) ^ 1074 = K; ac_rfl
    have h3 := Nat.le_of_mul_le_mul_left h2 (Nat.two_pow_pos _)
    have h4 : 3 * 2 ^ k ≤ X := by
      have := Nat.mul_le_mul_right (2 ^ k) hq52
      (clear hn0 hn he he2 hX hc hi hXpos hXlo hXhi hpk hle hov hnear hlt htk hq hqk hV hup hu hlow b1 hk0 hq52 hke hXY c1 c2 hl1 hl2 hl3 p1 p2 p3 p4 hV0 hlt0 hev hpk2 hle2 hov2 hn2 z h1 h2 h3; omega)
    have h5 : 2 * (6 * (q * 2 ^ k)) ≤ 4 * X := by (clear hn0 hn he he2 hX hc hi hXpos hXlo hXhi hpk hle hov hnear hlt htk hq hqk hV hup hu hlow b1 hk0 hq52 hke hXY c1 c2 hl1 hl2 hl3 p1 p2 p3 p4 hV0 hlt0 hev hpk2 hle2 hov2 hn2 z h1 h2 h3; omega)
    have h6 : 4 * X < 4 * 2 ^ 1099 := by (clear hn0 hn he he2 hX hc hi hXpos hXlo hpk hle hov hnear hlt htk hq hqk hV hup hu hlow b1 b2 hk0 hq52 hke hXY c1 c2 hl1 hl2 hl3 p1 p2 p3 p4 hV0 hlt0 hev hpk2 hle2 hov2 hn2 z h1 h2 h3 h4 h5; omega)
    exact absurd (Nat.lt_of_le_of_lt (Nat.le_trans h3 h5) h6) (by decide +kernel)
  have near2 : ∀ t', dist (6 * (q * 2 ^ k)) (V t2) ≤ dist (6 * (q * 2 ^ k)) (V t') ∧ (V t' ≠ V t2 → dist (6 * (q * 2 ^ k)) (V t2) = dist (6 * (q * 2 ^ k)) (V t') → t2 % 2 = 0) := fun t' => by
    have h1 := hn2 hlt2 t'
    rw [hV] at h1
    have e1 : q * 2 ^ k * (6 * 2 ^ 1074) = 2 ^ 1074 * (6 * (q * 2 ^ k)) := by
      generalize q * 2 ^ k = H; generalize (2 : Nat) ^ 1074 = K; ac_rfl
    rw [e1, dist_mul, dist_mul] at h1
    exact ⟨Nat.le_of_mul_le_mul_left h1.1 (Nat.two_pow_pos _), fun a b => h1.2 a (by rw [b])⟩
  have hfin : V t2 = X := by
    refine Decidable.byContradiction fun hne => ?_
    have d1 := (near2 t0).1
    rw [hV0] at d1
    have hq' := Nat.mul_le_mul_right (2 ^ k) hq52
    have f1 : 4 * Y * 2 ^ k = X := by rw [hXY, Nat.mul_comm 4 Y, Nat.mul_assoc]
    have f2 : X ≤ 6 * (q * 2 ^ k) + 2 * 2 ^ k := by
      have := Nat.mul_le_mul_right (2 ^ k) c1
      rw [f1, Nat.add_mul, Nat.mul_assoc] at this
      exact this
    have f3 : 6 * (q * 2 ^ k) ≤ X + 2 * 2 ^ k := by
      have := Nat.mul_le_mul_right (2 ^ k) c2
      rw [Nat.add_mul, f1, Nat.mul_assoc] at this
      exact this
    have g1 : 2 ^ 54 * 2 ^ k ≤ V t2 := by unfold dist at d1; (clear hn0 hn he he2 hX hc hi hXpos hXlo hXhi hpk hle hov hnear hlt htk hq hqk hV hup hu hlow b1 b2 hk0 hq52 hke hXY c1 c2 hl1 hl2 hl3 p1 p2 p3 p4 hV0 hlt0 hev hpk2 hle2 hov2 hn2 hlt2 hne f1; omega)
    have g0 : 2 ^ 54 * 2 ^ k ≤ V t0 := by rw [hV0]; (clear hn0 hn he he2 hX hc hi hXpos hXlo hXhi hpk hle hov hnear hlt htk hq hqk hV hup hu hlow b1 b2 hk0 hq52 hke hXY c1 c2 hl1 hl2 hl3 p1 p2 p3 p4 hV0 hlt0 hev hpk2 hle2 hov2 hn2 hlt2 hne d1 f1 f2 g1; omega)
    obtain ⟨Z, hZ⟩ := V_mult g1
    have hZ' : V t2 = 4 * Z * 2 ^ k := by rw [hZ, Nat.mul_comm 4 Z, Nat.mul_assoc]
    have hZY : Z ≠ Y := fun z => hne (by rw [hZ', z, f1])
    have d1' := d1
    unfold dist at d1'
    have k1 : 4 * Z ≤ 6 * q + 2 := by
      have h1 : (4 * Z) * 2 ^ k ≤ (6 * q + 2) * 2 ^ k := by
        rw [Nat.add_mul, Nat.mul_assoc 6, ← hZ']; (clear hn0 hn he he2 hX hc hi hXpos hXlo hXhi hpk hle hov hnear hlt htk hq hqk hV hup hu hlow b1 b2 hk0 hq52 hke hXY c1 c2 hl1 hl2 hl3 p1 p2 p3 p4 hV0 hlt0 hev hpk2 hle2 hov2 hn2 hlt2 hne d1 hq' f1 g1 g0 hZ hZ' hZY; omega)
      exact Nat.le_of_mul_le_mul_right h1 hu
    have k2 : 6 * q ≤ 4 * Z + 2 := by
      have h1 : (6 * q) * 2 ^ k ≤ (4 * Z + 2) * 2 ^ k := by
        rw [Nat.add_mul, Nat.mul_assoc 6, ← hZ']; (clear hn0 hn he he2 hX hc hi hXpos hXlo hXhi hpk hle hov hnear hlt htk hq hqk hV hup hu hlow b1 b2 hk0 hq52 hke hXY c1 c2 hl1 hl2 hl3 p1 p2 p3 p4 hV0 hlt0 hev hpk2 hle2 hov2 hn2 hlt2 hne d1 hq' f1 g1 g0 hZ hZ' hZY k1; omega)
      exact Nat.le_of_mul_le_mul_right h1 hu
    have hdist : dist (6 * (q * 2 ^ k)) (V t2) = dist (6 * (q * 2 ^ k)) (V t0) := by
      rw [hV0, hZ', ← f1, ← Nat.mul_assoc 6, Nat.mul_comm (6 * q), Nat.mul_comm (4 * Z), Nat.mul_comm (4 * Y), dist_mul, dist_mul]
      congr 1
      unfold dist; (clear hn0 hn he he2 hX hc hi hXpos hXlo hXhi hpk hle hov hnear hlt htk hq hqk hV hup hu hlow b1 b2 hk0 hq52 hke hXY hl1 hl2 hl3 p1 p2 p3 p4 hV0 hlt0 hev hpk2 hle2 hov2 hn2 hlt2 hne d1 hq' f1 f2 f3 g1 g0 hZ hZ' hZY d1'; omega)
    have even2 := (near2 t0).2 (by rw [hV0]; exact fun z => hne z.symm) hdist
    rcases Nat.lt_or_gt_of_ne hne with lt | gt
    · -- V t2 < X
      obtain ⟨S, hS⟩ := V_mult (z := t2 + 1) (k := k) (Nat.le_trans g1 (Nat.le_of_lt (V_succ t2)))
      have h1 := V_succ t2
      have hS' : V (t2 + 1) = 4 * S * 2 ^ k := by rw [hS, Nat.mul_comm 4 S, Nat.mul_assoc]
      have h2 : Z < S := by
        rw [hS', hZ'] at h1
        have := Nat.lt_of_mul_lt_mul_right h1
        (clear hn0 hn he he2 hX hc hi hXpos hXlo hXhi hpk hle hov hnear hlt htk hq hqk hV hup hu hlow b1 b2 hk0 hq52 hke hXY c1 c2 hl1 hl2 hl3 p1 p2 p3 p4 hV0 hlt0 hev hpk2 hle2 hov2 hn2 hlt2 hne d1 hq' f1 f2 f3 g1 g0 hZ hZ' hZY d1' k1 k2 hdist even2 lt hS h1 hS'; omega)
      have hZ1 : Z + 1 = Y := by
        rw [hZ', ← f1] at lt
        have := Nat.lt_of_mul_lt_mul_right lt
        (clear hn0 hn he he2 hX hc hi hXpos hXlo hXhi hpk hle hov hnear hlt htk hq hqk hV hup hu hlow b1 b2 hk0 hq52 hke hXY c2 hl1 hl2 hl3 p1 p2 p3 p4 hV0 hlt0 hev hpk2 hle2 hov2 hn2 hlt2 hne d1 hq' f1 f2 f3 g1 g0 hZ hZ' hZY d1' k1 hdist even2 lt hS h1 hS' h2; omega)
      have h3 : V t0 ≤ V (t2 + 1) := by
        rw [hV0, hS', ← f1]
        exact Nat.mul_le_mul_right _ (by (clear hn0 hn he he2 hX hc hi hXpos hXlo hXhi hpk hle hov hnear hlt htk hq hqk hV hup hu hlow b1 b2 hk0 hq52 hke hXY c1 c2 hl1 hl2 hl3 p1 p2 p3 p4 hV0 hlt0 hev hpk2 hle2 hov2 hn2 hlt2 hne d1 hq' f1 f2 f3 g1 g0 hZ hZ' hZY d1' k1 k2 hdist even2 lt hS h1 hS'; omega))
      have h4 : t0 ≤ t2 + 1 := by
        refine Decidable.byContradiction fun z => ?_
        have := V_lt (show t2 + 1 < t0 by (clear hn0 hn he he2 hX hc hi hXpos hXlo hXhi hpk hle hov hnear hlt htk hq hqk hV hup hu hlow b1 b2 hk0 hq52 hke hXY c1 c2 hl1 hl2 hl3 p1 p2 p3 p4 hV0 hlt0 hev hpk2 hle2 hov2 hn2 hlt2 hne d1 hq' f1 f2 f3 g1 g0 hZ hZ' hZY d1' k1 k2 hdist even2 lt hS h1 hS' h2 hZ1 h3; omega))
        (clear hn0 hn he he2 hX hc hi hXpos hXlo hXhi hpk hle hov hnear hlt htk hq hqk hV hup hu hlow b1 b2 hk0 hq52 hke hXY c1 c2 hl1 hl2 hl3 p1 p2 p3 p4 hV0 hlt0 hev hpk2 hle2 hov2 hn2 hlt2 hne d1 hq' f1 f2 f3 g1 g0 hZ hZ' hZY d1' k1 k2 hdist even2 lt hS h1 hS' h2 hZ1 z; omega)
      have h5 : t2 < t0 := by
        refine Decidable.byContradiction fun z => ?_
        have := V_mono (show t0 ≤ t2 by (clear hn0 hn he he2 hX hc hi hXpos hXlo hXhi hpk hle hov hnear hlt htk hq hqk hV hup hu hlow b1 b2 hk0 hq52 hke hXY c1 c2 hl1 hl2 hl3 p1 p2 p3 p4 hV0 hlt0 hev hpk2 hle2 hov2 hn2 hlt2 hne d1 hq' f1 f2 f3 g1 g0 hZ hZ' hZY d1' k1 k2 hdist even2 lt hS h1 hS' h2 hZ1 h3 h4; omega))
        (clear hn0 hn he he2 hX hc hi hXpos hXlo hXhi hpk hle hov hnear hlt htk hq hqk hV hup hu hlow b1 b2 hk0 hq52 hke hXY c1 c2 hl1 hl2 hl3 p1 p2 p3 p4 hlt0 hev hpk2 hle2 hov2 hn2 hlt2 hne d1 hq' f1 f2 f3 g1 g0 hZ hZ' hZY d1' k1 k2 hdist even2 hS h1 hS' h2 hZ1 h3 h4 z; omega)
      (clear hn0 hn he he2 hX hc hi hXpos hXlo hXhi hpk hle hov hnear hlt htk hq hqk hV hup hu hlow b1 b2 hk0 hq52 hke hXY c1 c2 hl1 hl2 hl3 p1 p2 p3 p4 hV0 hlt0 hpk2 hle2 hov2 hn2 hlt2 hne d1 hq' f1 f2 f3 g1 g0 hZ hZ' hZY d1' k1 k2 hdist lt hS h1 hS' h2 hZ1 h3; omega)
    · obtain ⟨S, hS⟩ := V_mult (z := t0 + 1) (k := k) (Nat.le_trans g0 (Nat.le_of_lt (V_succ t0)))
      have h1 := V_succ t0
      have hS' : V (t0 + 1) = 4 * S * 2 ^ k := by rw [hS, Nat.mul_comm 4 S, Nat.mul_assoc]
      have h2 : Y < S := by
        rw [hS', hV0, ← f1] at h1
        have := Nat.lt_of_mul_lt_mul_right h1
        (clear hn0 hn he he2 hX hc hi hXpos hXlo hXhi hpk hle hov hnear hlt htk hq hqk hV hup hu hlow b1 b2 hk0 hq52 hke hXY c1 c2 hl1 hl2 hl3 p1 p2 p3 p4 hV0 hlt0 hev hpk2 hle2 hov2 hn2 hlt2 hne d1 hq' f1 f2 f3 g1 g0 hZ hZ' hZY d1' k1 k2 hdist even2 gt hS h1 hS'; omega)
      have hZ1 : Z = Y + 1 := by
        rw [hZ', ← f1] at gt
        have := Nat.lt_of_mul_lt_mul_right gt
        (clear hn0 hn he he2 hX hc hi hXpos hXlo hXhi hpk hle hov hnear hlt htk hq hqk hV hup hu hlow b1 b2 hk0 hq52 hke hXY c1 hl1 hl2 hl3 p1 p2 p3 p4 hV0 hlt0 hev hpk2 hle2 hov2 hn2 hlt2 hne d1 hq' f1 f2 f3 g1 g0 hZ hZ' hZY d1' k2 hdist even2 gt hS h1 hS' h2; omega)
      have h3 : V t2 ≤ V (t0 + 1) := by
        rw [hZ', hS']
        exact Nat.mul_le_mul_right _ (by (clear hn0 hn he he2 hX hc hi hXpos hXlo hXhi hpk hle hov hnear hlt htk hq hqk hV hup hu hlow b1 b2 hk0 hq52 hke hXY c1 c2 hl1 hl2 hl3 p1 p2 p3 p4 hV0 hlt0 hev hpk2 hle2 hov2 hn2 hlt2 hne d1 hq' f1 f2 f3 g1 g0 hZ hZ' hZY d1' k1 k2 hdist even2 gt hS h1 hS'; omega))
      have h4 : t2 ≤ t0 + 1 := by
        refine Decidable.byContradiction fun z => ?_
        have := V_lt (show t0 + 1 < t2 by (clear hn0 hn he he2 hX hc hi hXpos hXlo hXhi hpk hle hov hnear hlt htk hq hqk hV hup hu hlow b1 b2 hk0 hq52 hke hXY c1 c2 hl1 hl2 hl3 p1 p2 p3 p4 hV0 hlt0 hev hpk2 hle2 hov2 hn2 hlt2 hne d1 hq' f1 f2 f3 g1 g0 hZ hZ' hZY d1' k1 k2 hdist even2 gt hS h1 hS' h2 hZ1 h3; omega))
        (clear hn0 hn he he2 hX hc hi hXpos hXlo hXhi hpk hle hov hnear hlt htk hq hqk hV hup hu hlow b1 b2 hk0 hq52 hke hXY c1 c2 hl1 hl2 hl3 p1 p2 p3 p4 hV0 hlt0 hev hpk2 hle2 hov2 hn2 hlt2 hne d1 hq' f1 f2 f3 g1 g0 hZ hZ' hZY d1' k1 k2 hdist even2 gt hS h1 hS' h2 hZ1 z; omega)
      have h5 : t0 < t2 := by
        refine Decidable.byContradiction fun z => ?_
        have := V_mono (show t2 ≤ t0 by (clear hn0 hn he he2 hX hc hi hXpos hXlo hXhi hpk hle hov hnear hlt htk hq hqk hV hup hu hlow b1 b2 hk0 hq52 hke hXY c1 c2 hl1 hl2 hl3 p1 p2 p3 p4 hV0 hlt0 hev hpk2 hle2 hov2 hn2 hlt2 hne d1 hq' f1 f2 f3 g1 g0 hZ hZ' hZY d1' k1 k2 hdist even2 gt hS h1 hS' h2 hZ1 h3 h4; omega))
        (clear hn0 hn he he2 hX hc hi hXpos hXlo hXhi hpk hle hov hnear hlt htk hq hqk hV hup hu hlow b1 b2 hk0 hq52 hke hXY c1 c2 hl1 hl2 hl3 p1 p2 p3 p4 hlt0 hev hpk2 hle2 hov2 hn2 hlt2 hne d1 hq' f1 f2 f3 g1 g0 hZ hZ' hZY d1' k1 k2 hdist even2 hS h1 hS' h2 hZ1 h3 h4 z; omega)
      (clear hn0 hn he he2 hX hc hi hXpos hXlo hXhi hpk hle hov hnear hlt htk hq hqk hV hup hu hlow b1 b2 hk0 hq52 hke hXY c1 c2 hl1 hl2 hl3 p1 p2 p3 p4 hV0 hlt0 hpk2 hle2 hov2 hn2 hlt2 hne d1 hq' f1 f2 f3 g1 g0 hZ hZ' hZY d1' k1 k2 hdist gt hS h1 hS' h2 hZ1 h3; omega)
  rw [hpk2]
  have := Fl.pack (neg := false) hlt2
  rw [hfin] at this
  exact this
end Mine
end
section
open PySem PySem.Float64
namespace Mine
theorem six_is : six64 = ofInt ((6 : Nat) : Int) := by decide +kernel
theorem one_is : one64 = ofInt ((1 : Nat) : Int) := by decide +kernel
theorem fl_six : Fl six64 ((6 * 2 ^ 1074 : Nat) : Int) := by rw [six_is]; exact Fl.int (by decide)
theorem fl_one : Fl one64 ((1 * 2 ^ 1074 : Nat) : Int) := by rw [one_is]; exact Fl.int (by decide)
theorem fl_zero : Fl (ofFrac false 0 1) ((0 : Nat) : Int) := Fl.frac (by decide) (by simp) (rep_of (q := 0) (k := 0) (by decide) (by decide) rfl)
theorem frac_zero (d : Nat) : ofFrac false 0 d = ofFrac false 0 1 := by
  have h : ∀ d, roundMag 0 d = 0 := fun d => if_pos (by decide)
  unfold ofFrac; rw [h, h]
theorem mul6 {c n e : Nat} {h : UInt64} (hn : n < 2 ^ 25) (he : 1060 ≤ e) (he2 : e ≤ 1074) (hc : 0 < c) (hh : h = ofFrac false n (c * 6)) (hce : c * 2 ^ e = 2 ^ 1074) : Fl (Float64.mul h six64) ((n * 2 ^ e : Nat) : Int) := by
  subst hh
  by_cases h0 : n = 0
  · subst h0
    rw [frac_zero]
    refine Fl.mul (p := 0) fl_zero fl_six (by simp only [Nat.zero_mul, Nat.mul_zero]) ?_
    rw [Nat.zero_mul]
    exact rep_of (q := 0) (k := 0) (by decide) (by decide) rfl
  · have hR : Right (ofFrac false n (c * 6)) false (c * (n * 2 ^ e)) (c * 6) := by
      refine ofFrac_right (Nat.mul_pos hc (by decide)) ?_ (Nat.mul_pos hc (by decide))
      rw [← hce]; ac_rfl
    refine kahan (Nat.pos_of_ne_zero h0) hn he he2 rfl hc hR fun t ht hlt => ?_
    rw [ht]
    obtain ⟨m, ex, hd, hv⟩ := decode_pack false hlt
    obtain ⟨b, k, f, hd', hv'⟩ := fl_six
    have h1 := mul_right hd hd'
    have hb : b = false := neg_of hd' (by rw [hv']; exact Int.ofNat_lt.mpr (Nat.mul_pos (by decide) (Nat.two_pow_pos _)))
    rw [hv', Int.natAbs_natCast, val_pack false hlt, sgn_natAbs, hb] at h1
    exact h1
theorem trunc_of {x : UInt64} {v : Nat} (h : Fl x v) : Flt.toInt truncOf x = ((v / 2 ^ 1074 : Nat) : Int) := by
  obtain ⟨a, m, e, hd, hv⟩ := h
  unfold Flt.toInt
  rw [hd]
  have he := decode_ge hd
  have hval := val_eq hd
  rw [hv] at hval
  have pos : ∀ m : Nat, v = m * 2 ^ (e + 1074).toNat → floorOf false m e = ((v / 2 ^ 1074 : Nat) : Int) := by
    intro m hm
    unfold floorOf sgn
    by_cases h0 : 0 ≤ e
    · rw [if_pos h0]
      simp only [Bool.false_eq_true, if_false]
      have e1 : (e + 1074).toNat = e.toNat + 1074 := by (clear hd hv he hval hm; omega)
      rw [hm, e1, Nat.pow_add, ← Nat.mul_assoc, Nat.mul_div_cancel _ (Nat.two_pow_pos _)]
      simp
    · rw [if_neg h0]
      simp only [Bool.false_eq_true, if_false]
      have e1 : 2 ^ 1074 = 2 ^ (-e).toNat * 2 ^ (e + 1074).toNat := by rw [← Nat.pow_add]; congr 1; (clear hd hv hval hm; omega)
      rw [hm, e1, Nat.mul_div_mul_right _ _ (Nat.two_pow_pos _)]
      rw [Int.fdiv_eq_ediv_of_nonneg _ (by exact Int.le_of_lt (Int.pow_pos (by decide)))]
      simp
  cases a with
  | false =>
    unfold sgn at hval
    simp only [Bool.false_eq_true, if_false] at hval
    exact pos m (by (clear hv he hd; omega))
  | true =>
    unfold sgn at hval
    simp only [if_true] at hval
    have hm : m * 2 ^ (e + 1074).toNat = 0 := by (clear hv he hd; omega)
    have hm0 : m = 0 := by
      rcases Nat.mul_eq_zero.mp hm with h | h
      · exact h
      · exact absurd h (Nat.ne_of_gt (Nat.two_pow_pos _))
    have hv0 : v = 0 := by (clear hv he hd hm hm0; omega)
    subst hm0; subst hv0
    unfold truncOf ceilOf floorOf sgn
    simp
end Mine
end
section
open PySem PySem.Float64
set_option exponentiation.threshold 3000
namespace Mine
theorem w70 : (2 : Nat) ^ 1074 = 16 * 2 ^ 1070 := by decide +kernel
theorem w71 : (2 : Nat) ^ 1074 = 8 * 2 ^ 1071 := by decide +kernel
theorem w67 : (2 : Nat) ^ 1074 = 128 * 2 ^ 1067 := by decide +kernel
theorem w64 : (2 : Nat) ^ 1074 = 1024 * 2 ^ 1064 := by decide +kernel
theorem w7164 : (2 : Nat) ^ 1071 = 128 * 2 ^ 1064 := by decide +kernel
theorem m7171 : (2 : Nat) ^ 1071 * 2 ^ 1071 = 2 ^ 1074 * (16 * 2 ^ 1064) := by decide +kernel
theorem m7170 : (2 : Nat) ^ 1071 * 2 ^ 1070 = 2 ^ 1074 * 2 ^ 1067 := by decide +kernel
theorem m7167 : (2 : Nat) ^ 1071 * 2 ^ 1067 = 2 ^ 1074 * 2 ^ 1064 := by decide +kernel
theorem Fl.subN {x y : UInt64} {P Q R : Nat} (hx : Fl x P) (hy : Fl y Q) (e : P = Q + R) (hr : Rep R) : Fl (Float64.sub x y) R := by
  have h1 : ((P : Int) - Q) = R := by omega
  have h := Fl.sub hx hy (by rw [h1, Int.natAbs_natCast]; exact hr)
  rw [h1] at h
  exact h
theorem Fl.addN {x y : UInt64} {P Q R : Nat} (hx : Fl x P) (hy : Fl y Q) (e : R = P + Q) (hr : Rep R) : Fl (Float64.add x y) R := by
  have h1 : ((P : Int) + Q) = R := by omega
  have h := Fl.add hx hy (by rw [h1, Int.natAbs_natCast]; exact hr)
  rw [h1] at h
  exact h
theorem rep_small {q : Nat} (k : Nat) (hq : q < 2 ^ 40) (hk : k ≤ 1900) : Rep (q * 2 ^ k) := rep_of (Nat.lt_of_lt_of_le hq (by decide)) hk rfl
/-- a component of a colour, in parts of 1024 -/
noncomputable def comp (lv sh d : Nat) : Nat := lv * (128 - sh * d)
noncomputable def dd (i j : Nat) : Nat × Nat × Nat :=
  if i = 0 then (0, 16 - j, 16) else if i = 1 then (j, 0, 16) else if i = 2 then (16, 0, 16 - j) else if i = 3 then (16, j, 0) else if i = 4 then (16 - j, 16, 0) else (0, 16, j)
theorem comp_le {lv sh d : Nat} (hl : lv ≤ 8) : comp lv sh d ≤ 1024 := by
  unfold comp
  calc lv * (128 - sh * d) ≤ 8 * 128 := Nat.mul_le_mul hl (by (clear hl; omega))
    _ = 1024 := rfl
theorem rep_comp {lv sh d : Nat} (hl : lv ≤ 8) : Rep (comp lv sh d * 2 ^ 1064) := rep_small 1064 (Nat.lt_of_le_of_lt (comp_le hl) (by decide)) (by decide)
theorem fl_bits0 : Fl 0 ((0 : Nat) : Int) := by
  have h := Fl.pack (neg := false) (t := 0) (by decide)
  rw [V_zero] at h
  exact h
theorem fl_eighth {s : Nat} (h : s ≤ 8) : Fl (ofFrac false s 8) ((s * 2 ^ 1071 : Nat) : Int) :=
  Fl.frac (by decide) (by rw [w71, Nat.mul_left_comm]) (rep_small 1071 (by omega) (by decide))
theorem is_zero {x : UInt64} {v : Nat} (h : Fl x v) : (Float64.cmp x 0 == some .eq) = decide (v = 0) := by
  rw [h.cmp fl_bits0]
  by_cases h0 : v = 0
  · subst h0; rfl
  · rw [decide_eq_false h0]
    have : compare (v : Int) ((0 : Nat) : Int) = .gt := Int.compare_eq_gt.mpr (by omega)
    rw [this]; rfl
theorem hsv_val {n sh lv : Nat} (hn : n < 2 ^ 25) (hs : sh ≤ 8) (hl : lv ≤ 8) :
    Fl (hsvR (ofFrac false n 96) (ofFrac false sh 8) (ofFrac false lv 8)).1 ((comp lv sh (dd (n / 16 % 6) (n % 16)).1 * 2 ^ 1064 : Nat) : Int) ∧
    Fl (hsvR (ofFrac false n 96) (ofFrac false sh 8) (ofFrac false lv 8)).2.1 ((comp lv sh (dd (n / 16 % 6) (n % 16)).2.1 * 2 ^ 1064 : Nat) : Int) ∧
    Fl (hsvR (ofFrac false n 96) (ofFrac false sh 8) (ofFrac false lv 8)).2.2 ((comp lv sh (dd (n / 16 % 6) (n % 16)).2.2 * 2 ^ 1064 : Nat) : Int) := by
  have fs := fl_eighth hs
  have fv := fl_eighth hl
  have fx : Fl (Float64.mul (ofFrac false n 96) six64) ((n * 2 ^ 1070 : Nat) : Int) := mul6 (c := 16) hn (by decide) (by decide) (by decide) rfl (by rw [w70])
  have hi : Flt.toInt truncOf (Float64.mul (ofFrac false n 96) six64) = ((n / 16 : Nat) : Int) := by
    rw [trunc_of fx, w70, Nat.mul_div_mul_right _ _ (Nat.two_pow_pos _)]
  unfold hsvR
  rw [is_zero fs]
  by_cases h0 : sh = 0
  · subst h0
    rw [if_pos (by simp only [Nat.zero_mul]; rfl)]
    have hc : ∀ d, comp lv 0 d * 2 ^ 1064 = lv * 2 ^ 1071 := fun d => by
      unfold comp; rw [w7164, Nat.zero_mul, Nat.mul_assoc]
    rw [hc, hc, hc]
    exact ⟨fv, fv, fv⟩
  rw [if_neg (by
    rw [decide_eq_true_eq]
    exact fun h => h0 ((Nat.mul_eq_zero.mp h).resolve_right (Nat.ne_of_gt (Nat.two_pow_pos _))))]
  dsimp only
  rw [hi]
  have hj : n % 16 < 16 := Nat.mod_lt _ (by decide)
  have fi : Fl (ofInt ((n / 16 : Nat) : Int)) ((n / 16 * 2 ^ 1074 : Nat) : Int) := Fl.int (by (clear hs hl hi h0 hj; omega))
  have ff : Fl (Float64.sub (Float64.mul (ofFrac false n 96) six64) (ofInt ((n / 16 : Nat) : Int))) ((n % 16 * 2 ^ 1070 : Nat) : Int) :=
    Fl.subN fx fi (by rw [w70, ← Nat.mul_assoc, ← Nat.add_mul]; congr 1; (clear hn hs hl hi h0 hj; omega)) (rep_small _ (by (clear hn hs hl hi h0 hj; omega)) (by decide))
  generalize Float64.sub (Float64.mul (ofFrac false n 96) six64) (ofInt ((n / 16 : Nat) : Int)) = f at ff
  generalize n % 16 = j at *
  have hsj : sh * j ≤ 128 := Nat.le_trans (Nat.mul_le_mul hs (Nat.le_of_lt hj)) (by decide)
  have hsj' : sh * (16 - j) ≤ 128 := Nat.le_trans (Nat.mul_le_mul hs (Nat.sub_le 16 j)) (by decide)
  have one' : Fl one64 ((2 ^ 1074 : Nat) : Int) := by have := fl_one; rwa [Nat.one_mul] at this
  have fp1 : Fl (Float64.sub one64 (ofFrac false sh 8)) (((8 - sh) * 2 ^ 1071 : Nat) : Int) :=
    Fl.subN one' fs (by rw [w71, ← Nat.add_mul]; congr 1; (clear hn hl hi h0 hj hsj hsj'; omega)) (rep_small _ (by (clear hn hs hl hi h0 hj hsj hsj'; omega)) (by decide))
  have fp : Fl (Float64.mul (ofFrac false lv 8) (Float64.sub one64 (ofFrac false sh 8))) ((comp lv sh 16 * 2 ^ 1064 : Nat) : Int) :=
    Fl.mul fv fp1 (by
      have e1 : comp lv sh 16 = lv * (8 - sh) * 16 := by unfold comp; rw [Nat.mul_assoc]; congr 1; (clear hn hs hl hi h0 hj hsj hsj'; omega)
      rw [e1]
      calc lv * 2 ^ 1071 * ((8 - sh) * 2 ^ 1071) = lv * (8 - sh) * (2 ^ 1071 * 2 ^ 1071) := by ac_rfl
        _ = _ := by rw [m7171]; ac_rfl) (rep_comp hl)
  have fsf : Fl (Float64.mul (ofFrac false sh 8) f) ((sh * j * 2 ^ 1067 : Nat) : Int) :=
    Fl.mul fs ff (by
      calc sh * 2 ^ 1071 * (j * 2 ^ 1070) = sh * j * (2 ^ 1071 * 2 ^ 1070) := by ac_rfl
        _ = _ := by rw [m7170]; ac_rfl) (rep_small _ (Nat.lt_of_le_of_lt hsj (by decide)) (by decide))
  have fq1 : Fl (Float64.sub one64 (Float64.mul (ofFrac false sh 8) f)) (((128 - sh * j) * 2 ^ 1067 : Nat) : Int) :=
    Fl.subN one' fsf (by rw [w67, ← Nat.add_mul]; congr 1; (clear hn hs hl hi h0 hj hsj'; omega)) (rep_small _ (by (clear hn hs hl hi h0 hj hsj hsj'; omega)) (by decide))
  have fq : Fl (Float64.mul (ofFrac false lv 8) (Float64.sub one64 (Float64.mul (ofFrac false sh 8) f))) ((comp lv sh j * 2 ^ 1064 : Nat) : Int) :=
    Fl.mul fv fq1 (by
      unfold comp
      calc lv * 2 ^ 1071 * ((128 - sh * j) * 2 ^ 1067) = lv * (128 - sh * j) * (2 ^ 1071 * 2 ^ 1067) := by ac_rfl
        _ = _ := by rw [m7167]; ac_rfl) (rep_comp hl)
  have f1f : Fl (Float64.sub one64 f) (((16 - j) * 2 ^ 1070 : Nat) : Int) :=
    Fl.subN one' ff (by rw [w70, ← Nat.add_mul]; congr 1; (clear hn hs hl hi h0 hsj hsj'; omega)) (rep_small _ (by (clear hn hs hl hi h0 hj hsj hsj'; omega)) (by decide))
  have fst : Fl (Float64.mul (ofFrac false sh 8) (Float64.sub one64 f)) ((sh * (16 - j) * 2 ^ 1067 : Nat) : Int) :=
    Fl.mul fs f1f (by
      calc sh * 2 ^ 1071 * ((16 - j) * 2 ^ 1070) = sh * (16 - j) * (2 ^ 1071 * 2 ^ 1070) := by ac_rfl
        _ = _ := by rw [m7170]; ac_rfl) (rep_small _ (Nat.lt_of_le_of_lt hsj' (by decide)) (by decide))
  have ft1 : Fl (Float64.sub one64 (Float64.mul (ofFrac false sh 8) (Float64.sub one64 f))) (((128 - sh * (16 - j)) * 2 ^ 1067 : Nat) : Int) :=
    Fl.subN one' fst (by rw [w67, ← Nat.add_mul]; congr 1; (clear hn hs hl hi h0 hj hsj; omega)) (rep_small _ (by (clear hn hs hl hi h0 hj hsj hsj'; omega)) (by decide))
  have ft : Fl (Float64.mul (ofFrac false lv 8) (Float64.sub one64 (Float64.mul (ofFrac false sh 8) (Float64.sub one64 f)))) ((comp lv sh (16 - j) * 2 ^ 1064 : Nat) : Int) :=
    Fl.mul fv ft1 (by
      unfold comp
      calc lv * 2 ^ 1071 * ((128 - sh * (16 - j)) * 2 ^ 1067) = lv * (128 - sh * (16 - j)) * (2 ^ 1071 * 2 ^ 1067) := by ac_rfl
        _ = _ := by rw [m7167]; ac_rfl) (rep_comp hl)
  have fv' : Fl (ofFrac false lv 8) ((comp lv sh 0 * 2 ^ 1064 : Nat) : Int) := by
    have : comp lv sh 0 * 2 ^ 1064 = lv * 2 ^ 1071 := by unfold comp; rw [w7164, Nat.mul_zero, Nat.mul_assoc]
    rw [this]; exact fv
  have hm : (((n / 16 : Nat) : Int)).fmod 6 = ((n / 16 % 6 : Nat) : Int) := by
    rw [Int.fmod_eq_emod_of_nonneg _ (by decide)]; (clear hn hs hl hi h0 hj hsj hsj'; omega)
  rw [hm]
  have h6 : n / 16 % 6 < 6 := Nat.mod_lt _ (by decide)
  generalize n / 16 % 6 = i at *
  have hc : i = 0 ∨ i = 1 ∨ i = 2 ∨ i = 3 ∨ i = 4 ∨ i = 5 := by (clear hn hs hl hi h0 hj hsj hsj' hm; omega)
  unfold dd
  rcases hc with rfl | rfl | rfl | rfl | rfl | rfl
  · exact ⟨fv', ft, fp⟩
  · exact ⟨fq, fv', fp⟩
  · exact ⟨fp, fv', ft⟩
  · exact ⟨fp, fq, fv'⟩
  · exact ⟨ft, fp, fv'⟩
  · exact ⟨fv', fp, fq⟩
end Mine
end
section
open PySem PySem.W PyProof.Rows PySem.Calls PySem.Float64 Flt
set_option maxRecDepth 100000
set_option maxHeartbeats 4000000
namespace Mine
theorem bits_of {x : UInt64} {a : Bool} {m : Nat} {e : Int} (h : decode x = .fin a m e) : ∃ t, t < infMag ∧ x = pack a t := by
  have hx : x.toNat < 2 ^ 64 := x.toNat_lt
  generalize hn : x.toNat = n at hx
  unfold decode at h
  rw [hn] at h
  dsimp only at h
  have hp : ∀ t : Nat, (t.toUInt64 : UInt64).toNat = t % 2 ^ 64 := fun t => UInt64.toNat_ofNat
  have back : ∀ neg : Bool, (neg = (n / 2 ^ 63 == 1)) → x = pack neg (n % 2 ^ 63) := fun neg e1 => by
    apply UInt64.toNat_inj.mp
    rw [hn]
    unfold pack
    rw [hp, e1]
    by_cases h1 : n / 2 ^ 63 = 1
    · rw [if_pos (by rw [h1]; rfl)]
      (clear h hn hx e1; omega)
    · rw [if_neg (by simpa using h1)]
      (clear h hn e1; omega)
  have hlt : (n / 2 ^ 52 % 2048 == 2047) = false → n % 2 ^ 63 < infMag := fun h2 => by
    have h3 : n / 2 ^ 52 % 2048 ≠ 2047 := by simpa using h2
    unfold infMag
    (clear h hn hx h2; omega)
  split at h
  · split at h <;> cases h
  · next h1 =>
    have h1' : (n / 2 ^ 52 % 2048 == 2047) = false := by simpa using h1
    split at h
    · cases h
      exact ⟨_, hlt h1', back _ rfl⟩
    · cases h
      exact ⟨_, hlt h1', back _ rfl⟩
theorem Fl.bits {x : UInt64} {v : Int} (h : Fl x v) : ∃ a t, t < infMag ∧ x = Float64.pack a t ∧ sgn a (V t) = v := by
  obtain ⟨a, m, e, hd, hv⟩ := h
  obtain ⟨t, ht, rfl⟩ := bits_of hd
  exact ⟨a, t, ht, rfl, by rw [← hv, val_pack a ht]⟩
/-- a value that is not nought has one float -/
theorem Fl.same {x y : UInt64} {v : Int} (hx : Fl x v) (hy : Fl y v) (h : v ≠ 0) : x = y := by
  obtain ⟨a, t, ht, rfl, e⟩ := hx.bits
  obtain ⟨b, u, hu, rfl, e'⟩ := hy.bits
  have key : ∀ (a : Bool) (w : Nat), sgn a w = if a then -(w : Int) else w := fun a w => by
    unfold sgn; cases a <;> rfl
  rw [key] at e e'
  have hab : a = b ∧ V t = V u := by
    cases a <;> cases b <;> simp at e e' <;> refine ⟨by first | rfl | (clear ht hu; omega), by (clear h ht hu; omega)⟩
  rw [hab.1, V_inj hab.2]
theorem Fl.zeros {x : UInt64} (hx : Fl x 0) : x = Float64.pack false 0 ∨ x = Float64.pack true 0 := by
  obtain ⟨a, t, ht, rfl, e⟩ := hx.bits
  have hv : V t = V 0 := by
    have h0 : V 0 = 0 := by decide +kernel
    rw [h0]
    unfold sgn at e
    split at e <;> (clear ht h0; omega)
  rw [V_inj hv]
  cases a
  · exact .inl rfl
  · exact .inr rfl
theorem Fl.eqc {x y : UInt64} {v : Int} (hx : Fl x v) (hy : Fl y v) : (Float64.cmp x y == some Ordering.eq) = true := by
  rw [Fl.cmp hx hy]
  have : compare v v = .eq := by rw [Int.compare_eq_eq]
  rw [this]; rfl
theorem fdiv_nat {a b : Int} (ha : 0 ≤ a) (hb : 0 < b) : fdivI a b = ofFrac false a.toNat b.toNat := by
  have e1 : decide (a < 0) = false := decide_eq_false (by (clear hb; omega))
  have e2 : decide (b < 0) = false := decide_eq_false (by (clear ha e1; omega))
  have e3 : a.natAbs = a.toNat := by (clear hb e1 e2; omega)
  have e4 : b.natAbs = b.toNat := by (clear ha e1 e2 e3; omega)
  show ofFrac (decide (a < 0) != decide (b < 0)) a.natAbs b.natAbs = _
  rw [e1, e2, e3, e4]
  rfl
end Mine
end
section
open PySem PySem.W PyProof.Rows PySem.Calls PySem.NumText
set_option maxRecDepth 100000
set_option maxHeartbeats 4000000
namespace Mine
/-- the signs of a whole number -/
noncomputable def sgs (m : Nat) : List Nat := (Nat.toDigits 10 m).map Char.toNat
theorem strI_sgs (m : Nat) : (strI (m : Int)).cps.toList = sgs m := KIN.signs_num m
theorem sgs_lt {m : Nat} (h : m < 10) : sgs m = [48 + m] := by
  have : m = 0 ∨ m = 1 ∨ m = 2 ∨ m = 3 ∨ m = 4 ∨ m = 5 ∨ m = 6 ∨ m = 7 ∨ m = 8 ∨ m = 9 := by omega
  rcases this with rfl | rfl | rfl | rfl | rfl | rfl | rfl | rfl | rfl | rfl <;> decide +kernel
theorem sgs_ge {m : Nat} (h : 10 ≤ m) : ∃ c, sgs m = sgs (m / 10) ++ [c] := by
  unfold sgs
  rw [Nat.toDigits_of_base_le (by decide) h, List.map_append]
  exact ⟨_, rfl⟩
theorem sgs_step {m k d : Nat} (h : 10 ≤ m) (e : ∃ r, sgs (m / 10) = (48 + d) :: r ∧ r.length = k) : ∃ r, sgs m = (48 + d) :: r ∧ r.length = k + 1 := by
  obtain ⟨c, hc⟩ := sgs_ge h
  obtain ⟨r, hr, hl⟩ := e
  exact ⟨r ++ [c], by rw [hc, hr]; rfl, by rw [List.length_append, hl]; rfl⟩
theorem sgs1 {m : Nat} (h : m < 10) : ∃ r, sgs m = (48 + m) :: r ∧ r.length = 0 := ⟨[], sgs_lt h, rfl⟩
theorem sgs2 {m : Nat} (h0 : 10 ≤ m) (h : m < 100) : ∃ r, sgs m = (48 + m / 10) :: r ∧ r.length = 1 := sgs_step h0 (sgs1 (by (clear h0; omega)))
theorem sgs3 {m : Nat} (h0 : 100 ≤ m) (h : m < 1000) : ∃ r, sgs m = (48 + m / 100) :: r ∧ r.length = 2 := by
  have := sgs_step (m := m) (by (clear h; omega)) (sgs2 (m := m / 10) (by (clear h; omega)) (by (clear h0; omega)))
  rwa [Nat.div_div_eq_div_mul] at this
theorem sgs4 {m : Nat} (h0 : 1000 ≤ m) (h : m < 10000) : ∃ r, sgs m = (48 + m / 1000) :: r ∧ r.length = 3 := by
  have := sgs_step (m := m) (by (clear h; omega)) (sgs3 (m := m / 10) (by (clear h; omega)) (by (clear h0; omega)))
  rwa [Nat.div_div_eq_div_mul] at this
theorem sgs5 {m : Nat} (h0 : 10000 ≤ m) (h : m < 100000) : ∃ r, sgs m = (48 + m / 10000) :: r ∧ r.length = 4 := by
  have := sgs_step (m := m) (by (clear h; omega)) (sgs4 (m := m / 10) (by (clear h; omega)) (by (clear h0; omega)))
  rwa [Nat.div_div_eq_div_mul] at this
theorem sgs6 {m : Nat} (h0 : 100000 ≤ m) (h : m < 1000000) : ∃ r, sgs m = (48 + m / 100000) :: r ∧ r.length = 5 := by
  have := sgs_step (m := m) (by (clear h; omega)) (sgs5 (m := m / 10) (by (clear h; omega)) (by (clear h0; omega)))
  rwa [Nat.div_div_eq_div_mul] at this
theorem times_iff {n : Int} : 0 < timesZ n ↔ 5 * tens n ≤ n := by
  unfold timesZ
  rw [Int.fdiv_eq_ediv_of_nonneg _ (by decide)]
  split <;> omega
/-- a number's first sign -/
theorem first_sign {n : Int} (h0 : 0 ≤ n) (h1 : n < 1000000) : ∃ c r, (strI n).cps.toList = c :: r ∧ 48 ≤ c ∧ c ≤ 57 ∧ r.length ≤ 5 ∧ (53 ≤ c ↔ 0 < timesZ n) := by
  obtain ⟨m, rfl⟩ := Int.eq_ofNat_of_zero_le h0
  rw [strI_sgs]
  have hm : m < 1000000 := by (clear h0; omega)
  simp only [times_iff]
  unfold tens
  by_cases a1 : m < 10
  · obtain ⟨r, e, l⟩ := sgs1 a1
    refine ⟨_, r, e, by (clear h0 h1 hm a1 e l; omega), by (clear h0 h1 hm e l; omega), by (clear h0 h1 hm a1 e; omega), ?_⟩
    rw [if_pos (by (clear h0 h1 hm e l; omega))]; (clear h0 h1 hm a1 e l; omega)
  by_cases a2 : m < 100
  · obtain ⟨r, e, l⟩ := sgs2 (by (clear h0 h1 hm a2; omega)) a2
    refine ⟨_, r, e, by (clear h0 h1 hm a1 a2 e l; omega), by (clear h0 h1 hm a1 e l; omega), by (clear h0 h1 hm a1 a2 e; omega), ?_⟩
    rw [if_neg (by (clear h0 h1 hm a2 e l; omega)), if_pos (by (clear h0 h1 hm a1 e l; omega))]; (clear h0 h1 hm a1 a2 e l; omega)
  by_cases a3 : m < 1000
  · obtain ⟨r, e, l⟩ := sgs3 (by (clear h0 h1 hm a1 a3; omega)) a3
    refine ⟨_, r, e, by (clear h0 h1 hm a1 a2 a3 e l; omega), by (clear h0 h1 hm a1 a2 e l; omega), by (clear h0 h1 hm a1 a2 a3 e; omega), ?_⟩
    rw [if_neg (by (clear h0 h1 hm a1 a3 e l; omega)), if_neg (by (clear h0 h1 hm a1 a3 e l; omega)), if_pos (by (clear h0 h1 hm a1 a2 e l; omega))]; (clear h0 h1 hm a1 a2 a3 e l; omega)
  by_cases a4 : m < 10000
  · obtain ⟨r, e, l⟩ := sgs4 (by (clear h0 h1 hm a1 a2 a4; omega)) a4
    refine ⟨_, r, e, by (clear h0 h1 hm a1 a2 a3 a4 e l; omega), by (clear h0 h1 hm a1 a2 a3 e l; omega), by (clear h0 h1 hm a1 a2 a3 a4 e; omega), ?_⟩
    rw [if_neg (by (clear h0 h1 hm a1 a2 a4 e l; omega)), if_neg (by (clear h0 h1 hm a1 a2 a4 e l; omega)), if_neg (by (clear h0 h1 hm a1 a2 a4 e l; omega)), if_pos (by (clear h0 h1 hm a1 a2 a3 e l; omega))]; (clear h0 h1 hm a1 a2 a3 a4 e l; omega)
  by_cases a5 : m < 100000
  · obtain ⟨r, e, l⟩ := sgs5 (by (clear h0 h1 hm a1 a2 a3 a5; omega)) a5
    refine ⟨_, r, e, by (clear h0 h1 hm a1 a2 a3 a4 a5 e l; omega), by (clear h0 h1 hm a1 a2 a3 a4 e l; omega), by (clear h0 h1 hm a1 a2 a3 a4 a5 e; omega), ?_⟩
    rw [if_neg (by (clear h0 h1 hm a1 a2 a3 a5 e l; omega)), if_neg (by (clear h0 h1 hm a1 a2 a3 a5 e l; omega)), if_neg (by (clear h0 h1 hm a1 a2 a3 a5 e l; omega)), if_neg (by (clear h0 h1 hm a1 a2 a3 a5 e l; omega)), if_pos (by (clear h0 h1 hm a1 a2 a3 a4 e l; omega))]; (clear h0 h1 hm a1 a2 a3 a4 a5 e l; omega)
  · obtain ⟨r, e, l⟩ := sgs6 (by (clear h0 h1 hm a1 a2 a3 a4; omega)) hm
    refine ⟨_, r, e, by (clear h0 h1 hm a1 a2 a3 a4 a5 e l; omega), by (clear h0 h1 a1 a2 a3 a4 a5 e l; omega), by (clear h0 h1 hm a1 a2 a3 a4 a5 e; omega), ?_⟩
    rw [if_neg (by (clear h0 h1 hm a1 a2 a3 a4 e l; omega)), if_neg (by (clear h0 h1 hm a1 a2 a3 a4 e l; omega)), if_neg (by (clear h0 h1 hm a1 a2 a3 a4 e l; omega)), if_neg (by (clear h0 h1 hm a1 a2 a3 a4 e l; omega)), if_neg (by (clear h0 h1 hm a1 a2 a3 a4 e l; omega))]; (clear h0 h1 hm a1 a2 a3 a4 a5 e l; omega)
theorem strI_len {n : Int} (h0 : 0 ≤ n) (h1 : n < 1000000) : (strI n).length ≤ 6 := by
  obtain ⟨c, r, e, _, _, l, _⟩ := first_sign h0 h1
  show (strI n).cps.size ≤ 6
  rw [← Array.length_toList, e, List.length_cons]
  (clear h0 h1 e; omega)
theorem tens_sub {n : Int} (h : 5 * tens n ≤ n) (h0 : 0 ≤ n) : tens (n - 3) = tens n := by
  unfold tens at h ⊢
  repeat' split at h
  all_goals (repeat' split)
  all_goals omega
theorem tens_pos (n : Int) : 1 ≤ tens n := by
  unfold tens
  repeat' split
  all_goals omega
theorem times_val {n : Int} (h : 0 < timesZ n) : timesZ n = (n - 5 * tens n) / 3 + 1 := by
  unfold timesZ at h ⊢
  rw [Int.fdiv_eq_ediv_of_nonneg _ (by decide)] at h ⊢
  split at h <;> split <;> omega
theorem times_nonneg (n : Int) : 0 ≤ timesZ n := by
  unfold timesZ
  split <;> omega
theorem times_step {n : Int} (h0 : 0 ≤ n) (h : 0 < timesZ n) : timesZ (n - 3) = timesZ n - 1 ∧ 2 ≤ n - 3 := by
  have h5 := times_iff.mp h
  have t := tens_sub h5 h0
  have p := tens_pos n
  have v := times_val h
  refine ⟨?_, by (clear h0 h t v; omega)⟩
  rw [v]
  unfold timesZ
  rw [t, Int.fdiv_eq_ediv_of_nonneg _ (by decide)]
  split <;> omega
theorem times_steps {n : Int} (h0 : 0 ≤ n) : ∀ i : Nat, (i : Int) ≤ timesZ n → timesZ (n - 3 * (i : Int)) = timesZ n - i ∧ 0 ≤ n - 3 * (i : Int)
  | 0, _ => ⟨by simp, by simpa using h0⟩
  | i + 1, hi => by
    obtain ⟨e, g⟩ := times_steps h0 i (by (clear h0; omega))
    obtain ⟨e2, g2⟩ := times_step g (by (clear h0 g; omega))
    have q : n - 3 * ((i + 1 : Nat) : Int) = n - 3 * (i : Int) - 3 := by (clear h0 hi e g e2 g2; omega)
    rw [q]
    exact ⟨by (clear h0 hi g g2 q; omega), by (clear h0 hi e g e2 q; omega)⟩
theorem times_lt {n : Int} (h0 : 0 ≤ n) (h1 : n < 1000000) : timesZ n < 1000000 := by
  by_cases h : 0 < timesZ n
  · have := times_val h
    have p := tens_pos n
    (clear h0 h; omega)
  · (clear h0 h1; omega)
theorem lt5 (c : Nat) (r : List Nat) : (c :: r) < (Str.ofString "5").cps.toList ↔ c < 53 := by
  have e : (Str.ofString "5").cps.toList = [53] := by decide +kernel
  rw [e, List.cons_lt_cons_iff]
  simp
end Mine
end
section
open PySem PySem.W PyProof.Rows PySem.Calls PySem.NumText
set_option maxRecDepth 100000
set_option maxHeartbeats 4000000
namespace Mine
theorem cps_app (x y : Str) : (x ++ y).cps.toList = x.cps.toList ++ y.cps.toList := by rw [Str.cps_append, Array.toList_append]
/-- the pieces behind the first -/
noncomputable def psP (pa : Int) : List Str := if pa = 0 then [] else if pa.fmod 4 = 0 then [strI (pa.fdiv 4)] else [strI (pa.fdiv 4), strI (pa.fmod 4)]
theorem pieces_psP (wh pa : Int) : pieces wh pa = strI wh :: psP pa := by
  unfold pieces psP
  split
  · rfl
  · split <;> rfl
theorem ring_psP (wh pa : Int) : ringT wh pa = Str.join dot (strI wh :: psP pa) := by rw [ring_join, pieces_psP]
/-- what stands behind the first piece -/
noncomputable def tailJ : List Str → Str
  | [] => Str.ofString ""
  | x :: r => dot ++ Str.join dot (x :: r)
theorem nil_app (x : Str) : Str.ofString "" ++ x = x := str_ext (by rw [cps_app]; rfl)
theorem app_nil (x : Str) : x ++ Str.ofString "" = x := str_ext (by rw [cps_app]; show _ ++ [] = _; rw [List.append_nil])
theorem join_tail (x : Str) : ∀ r, Str.join dot (x :: r) = x ++ tailJ r
  | [] => (app_nil x).symm
  | y :: r => by
    show x ++ dot ++ Str.join dot (y :: r) = x ++ (dot ++ Str.join dot (y :: r))
    rw [Str.append_assoc]
theorem ring_tail (wh pa : Int) : ringT wh pa = strI wh ++ tailJ (psP pa) := by rw [ring_psP, join_tail]
theorem tail_app : ∀ (ps qs : List Str), tailJ (ps ++ qs) = tailJ ps ++ tailJ qs
  | [], qs => (nil_app _).symm
  | x :: r, qs => by
    show dot ++ Str.join dot (x :: (r ++ qs)) = dot ++ Str.join dot (x :: r) ++ tailJ qs
    rw [join_tail, join_tail, tail_app r qs]
    simp only [Str.append_assoc]
theorem zz : Str.ofString "..007.x y" = tailJ [Str.ofString "", Str.ofString "007", Str.ofString "x y"] := by decide +kernel
theorem psP_free {pa : Int} (h : 0 ≤ pa) : ∀ p ∈ psP pa, Free p := fun p hp => pieces_free (wh := 0) (by decide) h p (by rw [pieces_psP]; exact List.mem_cons_of_mem _ hp)
theorem psP_len {pa : Int} (h0 : 0 ≤ pa) (h1 : pa < 16) : (psP pa).length ≤ 2 ∧ ((psP pa).map (·.length)).sum ≤ 12 ∧ (tailJ (psP pa)).length ≤ 14 := by
  have e1 : 0 ≤ pa.fdiv 4 ∧ pa.fdiv 4 < 4 := by rw [Int.fdiv_eq_ediv_of_nonneg _ (by decide)]; omega
  have e2 : 0 ≤ pa.fmod 4 ∧ pa.fmod 4 < 4 := by rw [Int.fmod_eq_emod_of_nonneg _ (by decide)]; (clear h0 h1 e1; omega)
  have l1 := strI_len e1.1 (by (clear h0 h1 e2; omega))
  have l2 := strI_len e2.1 (by (clear h0 h1 e1 l1; omega))
  have ld : dot.length = 1 := by decide +kernel
  have l0 : (Str.ofString "").length = 0 := by decide +kernel
  have la : ∀ x y : Str, (x ++ y).length = x.length + y.length := fun x y => by
    show (x ++ y).cps.size = x.cps.size + y.cps.size
    rw [Str.cps_append, Array.size_append]
  unfold psP
  split
  · exact ⟨by simp, by simp, by show (Str.ofString "").length ≤ 14; (clear h0 h1 e1 e2 l1 l2 ld; omega)⟩
  · split
    · refine ⟨by simp, by simp; (clear h0 h1 e1 e2 l2 ld l0; omega), ?_⟩
      show (dot ++ strI (pa.fdiv 4)).length ≤ 14
      rw [la]; (clear h0 h1 e1 e2 l2 l0; omega)
    · refine ⟨by simp, by simp; (clear h0 h1 e1 e2 ld l0; omega), ?_⟩
      show (dot ++ (strI (pa.fdiv 4) ++ dot ++ strI (pa.fmod 4))).length ≤ 14
      rw [la, la, la]; (clear h0 h1 e1 e2 l0; omega)
theorem len_app (x y : Str) : (x ++ y).length = x.length + y.length := by
  show (x ++ y).cps.size = x.cps.size + y.cps.size
  rw [Str.cps_append, Array.size_append]
theorem ring_len {n pa : Int} (h0 : 0 ≤ n) (h1 : n < 1000000) (p0 : 0 ≤ pa) (p1 : pa < 16) : (ringT n pa).length ≤ 20 := by
  rw [ring_tail, len_app]
  have := strI_len h0 h1
  have := (psP_len p0 p1).2.2
  (clear h0 h1 p0 p1; omega)
theorem asc_dot : Asc dot := by unfold Asc; decide +kernel
theorem asc_lit (x : Str) (h : x.cps.toList.all (· < 128) = true) : Asc x := fun c hc => by
  have := List.all_eq_true.mp h c hc
  simpa using this
theorem psP_asc {pa : Int} (h : 0 ≤ pa) : ∀ p ∈ psP pa, Asc p := by
  have e1 : 0 ≤ pa.fdiv 4 := Int.fdiv_nonneg h (by decide)
  have e2 : 0 ≤ pa.fmod 4 := Int.fmod_nonneg_of_pos _ (by decide)
  unfold psP
  intro p hp
  split at hp
  · cases hp
  · split at hp
    · rw [List.mem_singleton.mp hp]; exact asc_strI e1
    · rcases List.mem_cons.mp hp with rfl | hp
      · exact asc_strI e1
      · rw [List.mem_singleton.mp hp]; exact asc_strI e2
theorem tail_asc : ∀ {r : List Str}, (∀ p ∈ r, Asc p) → Asc (tailJ r)
  | [], _ => fun c hc => by
    have : (Str.ofString "").cps.toList = [] := by decide +kernel
    rw [show tailJ [] = Str.ofString "" from rfl, this] at hc
    cases hc
  | _ :: _, h => asc_dot.append (Asc.join asc_dot h)
theorem ring_asc {n pa : Int} (h0 : 0 ≤ n) (p0 : 0 ≤ pa) : Asc (ringT n pa) := by
  rw [ring_tail]
  exact (asc_strI h0).append (tail_asc (psP_asc p0))
/-- a text of a first piece and a tail is split -/
theorem split_tail {x : Str} {r : List Str} (hx : Free x) (hr : ∀ p ∈ r, Free p) : Txt.split (x ++ tailJ r) dot = x :: r := by
  rw [← join_tail]
  exact split_join (by simp) (List.forall_mem_cons.mpr ⟨hx, hr⟩)
end Mine
end
section
open PySem PySem.W PyProof.Rows PySem.Calls
set_option maxRecDepth 100000
set_option maxHeartbeats 8000000
namespace Mine
/-- a run of statements, kept shut -/
structure RunS (M : Model) (A : Around) (sts : List Stmt) (env : Env) (Q : Flow → Shared → Prop) (E : Value → Shared → Prop) (s : Shared) : Prop where
  out : wpC M A (execs sts env) Q E s
theorem RunS.seq {M : Model} {A : Around} {E : Value → Shared → Prop} {s : Shared} {env : Env} {st : Stmt} {rest : List Stmt} {Q Q1 : Flow → Shared → Prop}
    (h1 : RunC M A st env Q1 E s) (h2 : ∀ f s', Q1 f s' → f = .next ∧ RunS M A rest env Q E s') : RunS M A (st :: rest) env Q E s :=
  ⟨wpC.seq h1.out fun f s' h => ⟨(h2 f s' h).1, (h2 f s' h).2.out⟩⟩
theorem RunS.last {M : Model} {A : Around} {E : Value → Shared → Prop} {s : Shared} {env : Env} {st : Stmt} {Q Q1 : Flow → Shared → Prop}
    (h1 : RunC M A st env Q1 E s) (h2 : ∀ f s', Q1 f s' → (∃ v, f = .ret v) ∧ Q f s') : RunS M A [st] env Q E s :=
  ⟨wpC.execs (h1.out.mono (fun f s' h => by obtain ⟨⟨v, rfl⟩, q⟩ := h2 f s' h; exact q) fun _ _ x => x)⟩
theorem RunC.any {M : Model} {A : Around} {E : Value → Shared → Prop} {s : Shared} {env : Env} {st : Stmt} {Q : Flow → Shared → Prop} (h : wpAny M A (exec st env) Q E s) : RunC M A st env Q E s := ⟨wpC.of h⟩
theorem lawOk (w : World) (hdraw : ∀ sg, NotOdd sg → Asc sg → AllDraw w sg) (hlow : AlC w sunos (Str.ofString "") (Str.ofString "5.7") sunos (Str.ofString "") (Str.ofString "5.7")) : LawOk w := by
  intro mean mg mb h₀ L fa cd a vs ns s oH oT T X hL hI hlen F N hoT hoH
  refine RunS.out ?_
  rw [body0]
  refine RunS.seq (RunC.any (S1 w mean mg mb h₀ L fa cd a vs ns s oH oT T X hL hI hlen F N rfl)) ?_
  rintro f s1 ⟨rfl, g1, N1, x, t, hx, F1⟩
  refine ⟨rfl, ?_⟩
  refine RunS.seq (RunC.any (S2 w mean mg mb h₀ L fa cd s1 T X a oH oT x t hx F1 N1 rfl)) ?_
  rintro f s2 ⟨rfl, g2, N2, sg, t', hodd, hasc, F2⟩
  refine ⟨rfl, ?_⟩
  generalize hm : (fun y => if y = Str.ofString "strange" then some (Value.str sg t') else if y = Str.ofString "script" then some (Value.ref a) else none) = m2 at F2
  have e1 : m2 (Str.ofString "strange") = some (.str sg t') := by rw [← hm]; exact if_pos rfl
  have e2 : m2 (Str.ofString "script") = some (.ref a) := by rw [← hm]; exact (if_neg (by decide +kernel)).trans (if_pos rfl)
  clear hm
  refine RunS.seq (S3loop w mean mg mb h₀ L fa cd s2 T X m2 _ F2 N2 rfl) ?_
  rintro f s3 ⟨rfl, g3, m3, hm3, F3, N3⟩
  refine ⟨rfl, ?_⟩
  replace e1 := (hm3 _ (by decide +kernel)).trans e1
  replace e2 := (hm3 _ (by decide +kernel)).trans e2
  refine RunS.seq (RunC.any (S4 w mean mg mb h₀ L fa cd s3 T X m3 _ hlow F3 N3 rfl)) ?_
  rintro f s4 ⟨rfl, g4, F4, N4⟩
  refine ⟨rfl, ?_⟩
  refine RunS.seq (S5 w mean mg mb h₀ L fa cd s4 T X m3 _ F4 N4 rfl) ?_
  rintro f s5 ⟨rfl, g5, Dd, F5, n, ws, tups, N5, q1, q2, q3, q4, q5⟩
  refine ⟨rfl, ?_⟩
  replace e1 : upd m3 (Str.ofString "drawn") (.ref Dd) (Str.ofString "strange") = some (.str sg t') := upd_ne (by decide +kernel) e1
  replace e2 : upd m3 (Str.ofString "drawn") (.ref Dd) (Str.ofString "script") = some (.ref a) := upd_ne (by decide +kernel) e2
  refine RunS.seq (S6 w mean mg mb h₀ L fa cd s5 T X _ _ a Dd vs ns hL hI hlen n ws tups q1 q2 q3 q4 q5 e2 upd_at F5 N5 rfl) ?_
  rintro f s6 ⟨rfl, g6, m6, k, hm6, F6, n', ws', tups', N6, r1, r2, r3, r4, r5⟩
  refine ⟨rfl, ?_⟩
  have c1 : ∀ p ∈ tups', p.1 ≠ L + 1 := fun p hp => Nat.ne_of_gt (r4 p hp (L + 1, oH) (by simp))
  have c2 : ∀ p ∈ tups', p.1 ≠ L + 2 := fun p hp => Nat.ne_of_gt (r4 p hp (L + 2, oT) (by simp))
  have d1 : Dd ≠ L + 1 := Nat.ne_of_gt (r5 (L + 1, oH) (by simp))
  have d2 : Dd ≠ L + 2 := Nat.ne_of_gt (r5 (L + 2, oT) (by simp))
  refine RunS.seq (S7 w mean mg mb h₀ L fa cd s6 T X m6 Dd sg t' oT oH _ _ hoT hoH (hdraw sg hodd hasc) n' ws' tups' r1 c1 c2 d1 d2 ((hm6 _ (by decide +kernel)).trans upd_at) ((hm6 _ (by decide +kernel)).trans e1) F6 (News.sub N6 (by intro p hp; grind)) rfl) ?_
  rintro f s7 ⟨rfl, g7, m7, F7⟩
  refine ⟨rfl, ?_⟩
  refine RunS.last (S8 w mean mg mb h₀ L fa cd s7 T X m7 [] F7 News.nil rfl) ?_
  rintro f s8 ⟨rfl, g8, e8⟩
  have g := (((((((g1.trans g2).trans g3).trans g4).trans g5).trans g6).trans g7).trans g8)
  exact ⟨⟨_, rfl⟩, rfl, fun b o e => by rw [e8]; exact F7.keep b o e, g.2, g.1⟩
/-- the law, from its plain part -/
theorem law_plain (h1 : ∀ (w : World) (sg : Str), NotOdd sg → Asc sg → AllDraw w sg) : PySem.Challenge.rw_ny0075_01.Holds :=
  law_from fun w => lawOk w (h1 w) (fun t1 t2 t3 => alias_low w (Str.ofString "") (Str.ofString "5.7") t1 t2 t3 (by decide +kernel) rfl)
end Mine
end
section
open PySem PySem.W PyProof.Rows PySem.Calls PySem.NumText
set_option maxRecDepth 100000
set_option maxHeartbeats 4000000
namespace Mine
theorem pick_tail : ∀ (R pre : List Nat), (List.range' pre.length R.length).filterMap (fun i => (pre ++ R)[i]?) = R
  | [], pre => rfl
  | x :: R, pre => by
    have ih := pick_tail R (pre ++ [x])
    rw [List.length_append, List.length_singleton, List.append_assoc] at ih
    rw [List.length_cons, List.range'_succ, List.filterMap_cons]
    have e : (pre ++ x :: R)[pre.length]? = some x := by simp
    rw [e]
    exact congrArg (x :: ·) ih
theorem slice_tail (a R : Str) : Txt.slice (a ++ R) (some (a.length : Int)) none = R := by
  have hn : (a ++ R).length = a.length + R.length := len_app a R
  have hi : Builtin.Str.strSliceIndices (some (a.length : Int)) none 1 (a ++ R).length = List.range' a.length R.length := by
    unfold Builtin.Str.strSliceIndices sliceRange
    simp only [show (1 : Int) > 0 by decide, if_true, hn]
    rw [if_neg (by omega)]
    have e1 : max (0 : Int) (min (a.length : Int) ((a.length + R.length : Nat) : Int)) = (a.length : Int) := by omega
    rw [e1, List.range'_eq_map_range]
    have e2 : (if (a.length : Int) < ((a.length + R.length : Nat) : Int) then (((a.length + R.length : Nat) : Int) - (a.length : Int) + 1 - 1) / 1 else 0).toNat = R.length := by
      split <;> omega
    rw [e2]
    refine List.map_congr_left fun k _ => ?_
    omega
  unfold Txt.slice
  rw [hi]
  split
  · next h =>
    simp only [Bool.and_eq_true, beq_iff_eq, List.length_range'] at h
    have h0 : a.length = 0 := by omega
    refine str_ext ?_
    rw [cps_app]
    have : a.cps.toList = [] := by
      apply List.eq_nil_of_length_eq_zero
      rw [Array.length_toList]
      exact h0
    rw [this]; rfl
  · refine str_ext ?_
    show (List.filterMap (fun i => (a ++ R).cps[i]?) (List.range' a.length R.length)) = R.cps.toList
    have e : ∀ i : Nat, (a ++ R).cps[i]? = (a.cps.toList ++ R.cps.toList)[i]? := fun i => by
      rw [← cps_app, Array.getElem?_toList]
    simp only [e]
    have := pick_tail R.cps.toList a.cps.toList
    rw [Array.length_toList, Array.length_toList] at this
    exact this
theorem step_v {p : Array Nat × Bool} : step 10 p 118 = none := by
  unfold NumText.step
  rfl
theorem foldl_v : ∀ (cs : List Nat) (p : Array Nat × Bool), (∀ c ∈ cs, c = 118 ∨ (48 ≤ c ∧ c ≤ 57)) → 118 ∈ cs → cs.foldlM (step 10) p = none
  | [], _, _, h => absurd h (by simp)
  | c :: cs, (ds, b), hs, hm => by
    rw [List.foldlM_cons]
    rcases hs c (List.mem_cons_self ..) with e | hc
    · subst e
      rw [step_v]; rfl
    · rw [step_digit hc]
      show cs.foldlM (step 10) (ds.push (c - 48), true) = none
      refine foldl_v cs _ (fun d hd => hs d (List.mem_cons_of_mem _ hd)) ?_
      rcases List.mem_cons.mp hm with e | hm
      · omega
      · exact hm
theorem drop_v {cs : List Nat} (h : ∀ c ∈ cs, c = 118 ∨ (48 ≤ c ∧ c ≤ 57)) : cs.dropWhile blank = cs := by
  cases cs with
  | nil => rfl
  | cons c cs => exact dropWhile_of (by have := h c (List.mem_cons_self ..); omega)
/-- a text with a v is no number -/
theorem int_v {x : Str} (h : ∀ c ∈ x.cps.toList, c = 118 ∨ (48 ≤ c ∧ c ≤ 57)) (hm : 118 ∈ x.cps.toList) : PySem.intText? x = none := by
  have e1 : numTextOf x = x.cps.toList := by
    refine if_pos ?_
    rw [← Array.all_toList, List.all_eq_true]
    intro c hc
    have := h c hc
    exact decide_eq_true (by omega)
  have e2 : numSeenOf x = x.cps.toList := by
    show (numTextOf x).takeWhile _ = _
    rw [e1]
    refine takeWhile_all fun c hc => ?_
    have := h c hc
    exact bne_iff_ne.mpr (by omega)
  have e3 : core x.cps.toList = x.cps.toList := by
    unfold core
    rw [drop_v h]
    have : (sign x.cps.toList).2 = x.cps.toList := by
      cases hc : x.cps.toList with
      | nil => rfl
      | cons c cs =>
        have := h c (by rw [hc]; exact List.mem_cons_self ..)
        rw [sign_of (by omega) (by omega)]
    rw [this, drop_v (fun c hc => h c (List.mem_reverse.mp hc)), List.reverse_reverse]
  unfold PySem.intText?
  rw [e1, e2, e3]
  have e4 : digits? 10 x.cps.toList = none := by
    unfold digits?
    rw [foldl_v _ _ h hm]
    rfl
  rw [e4]
  split <;> rfl
end Mine
end
section
open PySem PySem.W PyProof.Rows PySem.Calls PySem.NumText
set_option maxRecDepth 100000
set_option maxHeartbeats 4000000
namespace Mine
theorem al_low (w : World) {re : Str} (ve : Str) {c : Nat} {r : List Nat} (e : re.cps.toList = c :: r) (h : c < 53) : AlC w (Str.ofString "SunOS") re ve (Str.ofString "SunOS") re ve :=
  fun t1 t2 t3 => alias_low w re ve t1 t2 t3 (by rw [e]; exact (lt5 c r).mpr h) rfl
theorem al_win32 (w : World) (re ve : Str) : AlC w (Str.ofString "win32") re ve (Str.ofString "Windows") re ve := fun t1 t2 t3 => alias_win w _ re ve t1 t2 t3 (by decide +kernel) (by decide +kernel) rfl
theorem al_win16 (w : World) (re ve : Str) : AlC w (Str.ofString "win16") re ve (Str.ofString "Windows") re ve := fun t1 t2 t3 => alias_win w _ re ve t1 t2 t3 (by decide +kernel) (by decide +kernel) rfl
theorem not_lt5 {re : Str} {c : Nat} {r : List Nat} (e : re.cps.toList = c :: r) (h : 53 ≤ c) : ¬ re.cps.toList < (Str.ofString "5").cps.toList := by
  rw [e, lt5]
  (clear e; omega)
theorem al_bad (w : World) {x : Str} {ps : List Str} (ve : Str) {c : Nat} {r : List Nat} (e : (x ++ tailJ ps).cps.toList = c :: r) (h : 53 ≤ c) (hx : ∀ d ∈ x.cps.toList, d = 118 ∨ (48 ≤ d ∧ d ≤ 57)) (hm : 118 ∈ x.cps.toList) (hps : ∀ p ∈ ps, Free p)
    (hl : (x ++ tailJ ps).length < 200) (hn : ps.length < 200) : AlB w (Str.ofString "SunOS") (x ++ tailJ ps) ve (Str.ofString "Solaris") (x ++ tailJ ps) ve :=
  fun t1 t2 t3 => alias_bad w x ps _ ve t1 t2 t3 (not_lt5 e h) (split_tail (fun h46 => by have := hx 46 h46; (clear e h hl hn; omega)) hps) hl hn (int_v hx hm) (by rw [len_app] at hl; (clear e h hn; omega)) (fun d hd => by have := hx d hd; (clear e h hl hn; omega)) rfl
theorem al_num (w : World) {n : Int} {ps : List Str} (ve : Str) (h0 : 0 ≤ n) (h1 : n < 1000000) (ht : 0 < timesZ n) (hps : ∀ p ∈ ps, Free p) (hl : ps.length < 100) (hs : (ps.map (·.length)).sum < 200) (hlt : (tailJ ps).length < 150) :
    AlC w (Str.ofString "SunOS") (strI n ++ tailJ ps) ve (Str.ofString "Solaris") (strI (n - 3) ++ tailJ ps) ve := by
  intro t1 t2 t3
  obtain ⟨c, r, e, _, _, _, hc⟩ := first_sign h0 h1
  obtain ⟨_, h2⟩ := times_step h0 ht
  have e2 : (strI n ++ tailJ ps).cps.toList = c :: (r ++ (tailJ ps).cps.toList) := by rw [cps_app, e]; rfl
  have hl1 := strI_len h0 h1
  have hl2 := strI_len (n := n - 3) (by (clear h0 h1 ht hl hs hlt e hc e2 hl1; omega)) (by (clear h0 ht hl hs hlt e hc h2 e2 hl1; omega))
  have := alias_num w n ps (strI n ++ tailJ ps) ve t1 t2 t3 (not_lt5 e2 (hc.mpr ht)) (split_tail (strI_free h0) hps) (by rw [len_app]; (clear h0 h1 ht hl hs e hc h2 e2 hl2; omega)) (by (clear h0 h1 ht hs hlt e hc h2 e2 hl1 hl2; omega)) hs (by (clear h0 h1 ht hl hs hlt e hc h2 e2 hl1; omega)) (by (clear h0 h1 ht hl hs hlt e hc e2 hl1 hl2; omega)) h1 rfl
  rw [txt_join, join_tail] at this
  exact this
/-- the texts of one drawn tuple -/
theorem spoilt_is (sx pa : Int) : spoiltT sx (ringT sx pa) = (strI sx ++ Str.ofString "v") ++ tailJ (psP pa) := by
  unfold spoiltT
  rw [ring_tail, slice_tail]
theorem digits_v {n : Int} (h0 : 0 ≤ n) : ∀ d ∈ (strI n).cps.toList, d = 118 ∨ (48 ≤ d ∧ d ≤ 57) := fun d hd => .inr (strI_digits h0 d hd)
theorem cv : (Str.ofString "v").cps.toList = [118] := by decide +kernel
theorem lv1 : (Str.ofString "v").length = 1 := by decide +kernel
section
variable (w : World) {n pa : Int} (ve : Str) (h0 : 0 ≤ n) (h1 : n < 1000000) (p0 : 0 ≤ pa) (p1 : pa < 16)
include h0 h1 p0 p1
theorem al_ring_low (ht : ¬ 0 < timesZ n) : AlC w (Str.ofString "SunOS") (ringT n pa) ve (Str.ofString "SunOS") (ringT n pa) ve := by
  obtain ⟨c, r, e, _, _, _, hc⟩ := first_sign h0 h1
  exact al_low w ve (c := c) (r := r ++ (tailJ (psP pa)).cps.toList) (by rw [ring_tail, cps_app, e]; rfl) (by (clear h0 h1 p0 p1 e; omega))
theorem al_ring (ht : 0 < timesZ n) : AlC w (Str.ofString "SunOS") (ringT n pa) ve (Str.ofString "Solaris") (ringT (n - 3) pa) ve := by
  rw [ring_tail, ring_tail]
  have l := psP_len p0 p1
  exact al_num w ve h0 h1 ht (psP_free p0) (by (clear h0 h1 p0 p1 ht; omega)) (by (clear h0 h1 p0 p1 ht; omega)) (by (clear h0 h1 p0 p1 ht; omega))
theorem al_pre (y : Str) {c : Nat} (hy : y.cps.toList = [c]) (hc : c < 53) : AlB w (Str.ofString "SunOS") (y ++ ringT n pa) ve (Str.ofString "SunOS") (y ++ ringT n pa) ve :=
  (al_low w ve (c := c) (r := (ringT n pa).cps.toList) (by rw [cps_app, hy]; rfl) hc).toB
theorem al_v : AlB w (Str.ofString "SunOS") (Str.ofString "v" ++ ringT n pa) ve (Str.ofString "Solaris") (Str.ofString "v" ++ ringT n pa) ve := by
  have l := psP_len p0 p1
  have l1 := strI_len h0 h1
  rw [ring_tail, ← Str.append_assoc]
  refine al_bad w ve (c := 118) (r := (strI n).cps.toList ++ (tailJ (psP pa)).cps.toList) ?_ (by decide) ?_ ?_ (psP_free p0) ?_ (by (clear h0 h1 p0 p1 l1; omega))
  · rw [cps_app, cps_app, cv]; rfl
  · intro d hd
    rw [cps_app, cv] at hd
    rcases List.mem_append.mp hd with hd | hd
    · exact .inl (List.mem_singleton.mp hd)
    · exact digits_v h0 d hd
  · rw [cps_app, cv]; exact List.mem_append_left _ (List.mem_singleton.mpr rfl)
  · rw [len_app, len_app, lv1]; (clear h0 h1 p0 p1; omega)
theorem al_spoilt : AlB w (Str.ofString "SunOS") (spoiltT n (ringT n pa)) ve (if 0 < timesZ n then solaris else sunos) (spoiltT n (ringT n pa)) ve := by
  have l := psP_len p0 p1
  have l1 := strI_len h0 h1
  obtain ⟨c, r, e, c1, c2, _, hc⟩ := first_sign h0 h1
  have e2 : (strI n ++ Str.ofString "v" ++ tailJ (psP pa)).cps.toList = c :: (r ++ [118] ++ (tailJ (psP pa)).cps.toList) := by rw [cps_app, cps_app, cv, e]; rfl
  rw [spoilt_is]
  split
  · next ht =>
    refine al_bad w ve e2 (hc.mpr ht) ?_ ?_ (psP_free p0) ?_ (by (clear h0 h1 p0 p1 l1 e c1 c2 hc e2 ht; omega))
    · intro d hd
      rw [cps_app, cv] at hd
      rcases List.mem_append.mp hd with hd | hd
      · exact digits_v h0 d hd
      · exact .inl (List.mem_singleton.mp hd)
    · rw [cps_app, cv]; exact List.mem_append_right _ (List.mem_singleton.mpr rfl)
    · rw [len_app, len_app, lv1]; (clear h0 h1 p0 p1 e c1 c2 hc e2 ht; omega)
  · next ht => exact (al_low w ve e2 (by (clear h0 h1 p0 p1 l l1 e c1 c2 e2; omega))).toB
theorem al_007 : AlC w (Str.ofString "SunOS") (ringT n pa ++ Str.ofString "..007.x y") ve (if 0 < timesZ n then solaris else sunos) ((if 0 < timesZ n then ringT (n - 3) pa else ringT n pa) ++ Str.ofString "..007.x y") ve := by
  have l := psP_len p0 p1
  have fz : ∀ p ∈ [Str.ofString "", Str.ofString "007", Str.ofString "x y"], Free p := by unfold Free; decide +kernel
  have key : ∀ k : Int, ringT k pa ++ Str.ofString "..007.x y" = strI k ++ tailJ (psP pa ++ [Str.ofString "", Str.ofString "007", Str.ofString "x y"]) := fun k => by
    rw [ring_tail, zz, tail_app, Str.append_assoc]
  split
  · next ht =>
    rw [key, key]
    refine al_num w ve h0 h1 ht ?_ ?_ ?_ ?_
    · intro p hp
      rcases List.mem_append.mp hp with hp | hp
      · exact psP_free p0 p hp
      · exact fz p hp
    · rw [List.length_append]; simp; (clear h0 h1 p0 p1 ht; omega)
    · have q : (([Str.ofString "", Str.ofString "007", Str.ofString "x y"]).map (·.length)).sum = 6 := by decide +kernel
      rw [List.map_append, List.sum_append, q]; (clear h0 h1 p0 p1 ht q; omega)
    · have q : (tailJ [Str.ofString "", Str.ofString "007", Str.ofString "x y"]).length = 9 := by decide +kernel
      rw [tail_app, len_app, q]; (clear h0 h1 p0 p1 ht q; omega)
  · next ht =>
    obtain ⟨c, r, e, _, _, _, hc⟩ := first_sign h0 h1
    exact al_low w ve (c := c) (r := r ++ (tailJ (psP pa)).cps.toList ++ (Str.ofString "..007.x y").cps.toList) (by rw [cps_app, ring_tail, cps_app, e]; rfl) (by (clear h0 h1 p0 p1 l e; omega))
end
end Mine
end
section
open PySem PySem.W PyProof.Rows PySem.Calls PySem.Float64 Flt
set_option maxRecDepth 100000
set_option maxHeartbeats 4000000
namespace Mine
/-- the colour of a place -/
noncomputable def col (pl sh lv : Int) : UInt64 × UInt64 × UInt64 := hsvR (fdivI pl 96) (fdivI sh 8) (fdivI lv 8)
theorem mul_place {pl : Int} (h0 : 0 ≤ pl) (h1 : pl < 16000016) : Fl (Float64.mul (fdivI pl 96) six64) ((pl.toNat * 2 ^ 1070 : Nat) : Int) := by
  rw [fdiv_nat h0 (by decide)]
  exact mul6 (c := 16) (e := 1070) (by (clear h0; omega)) (by decide) (by decide) (by decide) rfl w70.symm
theorem place_fin {pl : Int} (h0 : 0 ≤ pl) (h1 : pl < 16000016) : Float64.isFinite (Float64.mul (fdivI pl 96) six64) = true := (mul_place h0 h1).fin
theorem place_small {pl : Int} (h0 : 0 ≤ pl) (h1 : pl < 16000016) : (Flt.toInt Float64.truncOf (Float64.mul (fdivI pl 96) six64)).natAbs < 2000000 := by
  rw [trunc_of (mul_place h0 h1), w70, Nat.mul_div_mul_right _ _ (Nat.two_pow_pos _)]
  (clear h0; omega)
theorem split_both {pl li : Int} (h0 : 0 ≤ pl) (h2 : 0 ≤ li) : Txt.split (bothT pl li) dot = [strI pl, strI li] := by
  have : bothT pl li = strI pl ++ tailJ [strI li] := by
    show strI pl ++ dot ++ strI li = strI pl ++ (dot ++ strI li)
    rw [Str.append_assoc]
  rw [this]
  exact split_tail (strI_free h0) (fun p hp => by rw [List.mem_singleton.mp hp]; exact strI_free h2)
theorem both_len {pl li : Int} (h0 : 0 ≤ pl) (h1 : pl < 9) (h2 : 0 ≤ li) (h3 : li < 9) : (bothT pl li).length < 100 := by
  unfold bothT
  have := strI_len h0 (by (clear h0 h2 h3; omega))
  have := strI_len h2 (by (clear h0 h1 h2 this; omega))
  have ld : dot.length = 1 := by decide +kernel
  rw [len_app, len_app]
  (clear h0 h1 h2 h3; omega)
theorem both_asc {pl li : Int} (h0 : 0 ≤ pl) (h2 : 0 ≤ li) : Asc (bothT pl li) := ((asc_strI h0).append asc_dot).append (asc_strI h2)
section
variable (w : World) {n pa pl li : Int} (h0 : 0 ≤ n) (h1 : n < 1000000) (p0 : 0 ≤ pa) (p1 : pa < 16) (a0 : 0 ≤ pl) (a1 : pl < 9) (b0 : 0 ≤ li) (b1 : li < 9)
include h0 h1 p0 p1 a0 a1 b0 b1
theorem co_ring : CoC w (ringT n pa) (bothT pl li) (col (n * 16 + pa) pl li).1 (col (n * 16 + pa) pl li).2.1 (col (n * 16 + pa) pl li).2.2 := by
  intro t1 t2
  have hf := place_fin (pl := n * 16 + pa) (by (clear h1 p1 a0 a1 b0 b1; omega)) (by (clear h0 p0 a0 a1 b0 b1; omega))
  have hs := place_small (pl := n * 16 + pa) (by (clear h1 p1 a0 a1 b0 b1 hf; omega)) (by (clear h0 p0 a0 a1 b0 b1 hf; omega))
  have sp := split_both a0 b0
  have l1 := both_len a0 a1 b0 b1
  have l2 := ring_len h0 h1 p0 p1
  have q1 : 0 ≤ pa.fdiv 4 ∧ pa.fdiv 4 < 4 ∧ pa = 4 * pa.fdiv 4 + pa.fmod 4 := by
    rw [Int.fdiv_eq_ediv_of_nonneg _ (by decide), Int.fmod_eq_emod_of_nonneg _ (by decide)]; (clear h0 h1 a0 a1 b0 b1 hf hs sp l1 l2; omega)
  have q2 : 0 ≤ pa.fmod 4 ∧ pa.fmod 4 < 4 := by rw [Int.fmod_eq_emod_of_nonneg _ (by decide)]; (clear h0 h1 p0 p1 a0 a1 b0 b1 hf hs sp l1 l2 q1; omega)
  have sr : Txt.split (ringT n pa) dot = strI n :: psP pa := by rw [ring_tail]; exact split_tail (strI_free h0) (psP_free p0)
  unfold col
  by_cases e0 : pa = 0
  · have e : n * 16 + pa = 0 + n * 16 := by (clear h0 h1 p0 p1 a0 a1 b0 b1 hf hs sp l1 l2 q1 q2 sr; omega)
    rw [e] at hf hs ⊢
    refine colour1 w (ringT n pa) (bothT pl li) n pl li t1 t2 ?_ sp (by (clear h0 h1 p0 p1 a0 a1 b0 b1 hf hs sp l1 q1 q2 sr e0 e; omega)) l1 h0 h1 a0 a1 b0 b1 hf hs rfl
    rw [sr]; unfold psP; rw [if_pos e0]
  · by_cases e1 : pa.fmod 4 = 0
    · have e : n * 16 + pa = 0 + n * 16 + pa.fdiv 4 * 4 := by (clear h0 h1 p0 p1 a0 a1 b0 b1 hf hs sp l1 l2 q2 sr e0; omega)
      rw [e] at hf hs ⊢
      refine colour2 w (ringT n pa) (bothT pl li) n (pa.fdiv 4) pl li t1 t2 ?_ sp (by (clear h0 h1 p0 p1 a0 a1 b0 b1 hf hs sp l1 q1 q2 sr e0 e1 e; omega)) l1 h0 h1 q1.1 (by (clear h0 h1 p0 p1 a0 a1 b0 b1 hf hs sp l1 l2 q2 sr e0 e1 e; omega)) a0 a1 b0 b1 hf hs rfl
      rw [sr]; unfold psP; rw [if_neg e0, if_pos e1]
    · have e : n * 16 + pa = 0 + n * 16 + pa.fdiv 4 * 4 + pa.fmod 4 * 1 := by (clear h0 h1 p0 p1 a0 a1 b0 b1 hf hs sp l1 l2 q2 sr e0 e1; omega)
      rw [e] at hf hs ⊢
      refine colour3 w (ringT n pa) (bothT pl li) n (pa.fdiv 4) (pa.fmod 4) pl li t1 t2 ?_ sp (by (clear h0 h1 p0 p1 a0 a1 b0 b1 hf hs sp l1 q1 q2 sr e0 e1 e; omega)) l1 h0 h1 q1.1 (by (clear h0 h1 p0 p1 a0 a1 b0 b1 hf hs sp l1 l2 q2 sr e0 e1 e; omega)) q2.1 (by (clear h0 h1 p0 p1 a0 a1 b0 b1 hf hs sp l1 l2 q1 sr e0 e1 e; omega)) a0 a1 b0 b1 hf hs rfl
      rw [sr]; unfold psP; rw [if_neg e0, if_neg e1]
end
/-- the three distances of a place -/
noncomputable def ds (pl : Int) : Nat × Nat × Nat := dd (pl.toNat / 16 % 6) (pl.toNat % 16)
theorem col_val {pl sh lv : Int} (h0 : 0 ≤ pl) (h1 : pl < 16000016) (a0 : 0 ≤ sh) (a1 : sh < 9) (b0 : 0 ≤ lv) (b1 : lv < 9) :
    Fl (col pl sh lv).1 ((comp lv.toNat sh.toNat (ds pl).1 * 2 ^ 1064 : Nat) : Int) ∧ Fl (col pl sh lv).2.1 ((comp lv.toNat sh.toNat (ds pl).2.1 * 2 ^ 1064 : Nat) : Int) ∧ Fl (col pl sh lv).2.2 ((comp lv.toNat sh.toNat (ds pl).2.2 * 2 ^ 1064 : Nat) : Int) := by
  unfold col ds
  rw [fdiv_nat h0 (by decide), fdiv_nat a0 (by decide), fdiv_nat b0 (by decide)]
  exact hsv_val (by (clear h0 a0 a1 b0 b1; omega)) (by (clear h0 h1 a0 b0 b1; omega)) (by (clear h0 h1 a0 a1 b0; omega))
theorem part_fl {P : Int} (h0 : 0 ≤ P) (h1 : P ≤ 1024) : Fl (fdivI P 1024) ((P.toNat * 2 ^ 1064 : Nat) : Int) := by
  rw [fdiv_nat h0 (by decide)]
  refine Fl.frac (by decide) ?_ (rep_small 1064 (by (clear h0; omega)) (by decide))
  show P.toNat * 2 ^ 1074 = 1024 * (P.toNat * 2 ^ 1064)
  rw [w64, Nat.mul_left_comm]
theorem dW_mod (pl c : Int) : dW pl c = dW (pl.fmod 96) c := by
  have e : ∀ q : Int, (pl - c + 48).fmod 96 = (pl.fmod 96 - c + 48).fmod 96 := fun _ => by
    simp only [Int.fmod_eq_emod_of_nonneg _ (show (0 : Int) ≤ 96 by decide)]
    omega
  unfold dW wayZ
  rw [e 0]
theorem ds_mod {pl : Int} (h0 : 0 ≤ pl) : ds pl = ds (pl.fmod 96) := by
  have e : pl.fmod 96 = pl % 96 := Int.fmod_eq_emod_of_nonneg _ (by decide)
  unfold ds
  rw [e]
  have e1 : pl.toNat / 16 % 6 = (pl % 96).toNat / 16 % 6 := by (clear e; omega)
  have e2 : pl.toNat % 16 = (pl % 96).toNat % 16 := by (clear e e1; omega)
  rw [e1, e2]
theorem ds_dW : ∀ k : Nat, k < 96 → dW (k : Int) 0 = ((ds (k : Int)).1 : Int) ∧ dW (k : Int) 32 = ((ds (k : Int)).2.1 : Int) ∧ dW (k : Int) 64 = ((ds (k : Int)).2.2 : Int) := by decide +kernel
theorem dW_ds {pl : Int} (h0 : 0 ≤ pl) : dW pl 0 = ((ds pl).1 : Int) ∧ dW pl 32 = ((ds pl).2.1 : Int) ∧ dW pl 64 = ((ds pl).2.2 : Int) := by
  have hm : 0 ≤ pl.fmod 96 ∧ pl.fmod 96 < 96 := fmod_in pl 96 (by decide)
  obtain ⟨k, hk⟩ := Int.eq_ofNat_of_zero_le hm.1
  have := ds_dW k (by (clear h0; omega))
  rw [dW_mod pl 0, dW_mod pl 32, dW_mod pl 64, ds_mod h0, hk]
  exact this
theorem part_comp {sh lv d : Int} {e : Nat} (a0 : 0 ≤ sh) (a1 : sh < 9) (b0 : 0 ≤ lv) (b1 : lv < 9) (hd : d = (e : Int)) (he : d ≤ 16) : (lv * (128 - sh * d)).toNat = comp lv.toNat sh.toNat e := by
  obtain ⟨s, rfl⟩ := Int.eq_ofNat_of_zero_le a0
  obtain ⟨l, rfl⟩ := Int.eq_ofNat_of_zero_le b0
  subst hd
  unfold comp
  have h1 : s * e ≤ 128 := by
    have : s * e ≤ 8 * 16 := Nat.mul_le_mul (by (clear a0 b0 b1 he; omega)) (by (clear a0 a1 b0 b1; omega))
    (clear a0 a1 b0 b1 he; omega)
  have h2 : (128 : Int) - (s : Int) * (e : Int) = ((128 - s * e : Nat) : Int) := by
    rw [← Int.natCast_mul]; (clear a0 a1 b0 b1 he; omega)
  rw [h2, ← Int.natCast_mul]
  rfl
theorem wh_ok (w : World) {pl sh lv : Int} (h0 : 0 ≤ pl) (h1 : pl < 16000016) (a0 : 0 ≤ sh) (a1 : sh < 9) (b0 : 0 ≤ lv) (b1 : lv < 9) :
    ∃ x y z, (Float64.cmp (col pl sh lv).1 x == some Ordering.eq) = true ∧ (Float64.cmp (col pl sh lv).2.1 y == some Ordering.eq) = true ∧ (Float64.cmp (col pl sh lv).2.2 z == some Ordering.eq) = true ∧ WhC w pl sh lv x y z := by
  obtain ⟨c1, c2, c3⟩ := col_val h0 h1 a0 a1 b0 b1
  obtain ⟨d1, d2, d3⟩ := dW_ds h0
  have key : ∀ (c : Int) (e : Nat), dW pl c = (e : Int) → Fl (fdivI (partI pl sh lv c) 1024) ((comp lv.toNat sh.toNat e * 2 ^ 1064 : Nat) : Int) := fun c e he => by
    have hp := part_in pl c a0 a1 b0 b1
    have hd := dW_in pl c
    have := part_fl hp.1 hp.2
    rw [show (partI pl sh lv c).toNat = comp lv.toNat sh.toNat e from part_comp a0 a1 b0 b1 he (by (clear h0 h1 a0 a1 b0 b1 d1 d2 d3 he hp; omega))] at this
    exact this
  exact ⟨_, _, _, Fl.eqc c1 (key 0 _ d1), Fl.eqc c2 (key 32 _ d2), Fl.eqc c3 (key 64 _ d3), fun t1 t2 t3 => wheel_con w pl sh lv t1 t2 t3 h0 h1 a0 a1 b0 b1 rfl⟩
end Mine
end
section
open PySem PySem.W PyProof.Rows PySem.Calls PySem.Float64 Flt
set_option maxRecDepth 100000
set_option maxHeartbeats 4000000
namespace Mine
theorem ds_opp : ∀ k : Nat, k < 96 → (ds ((k + 48) % 96 : Nat)).1 + (ds (k : Int)).1 = 16 ∧ (ds ((k + 48) % 96 : Nat)).2.1 + (ds (k : Int)).2.1 = 16 ∧ (ds ((k + 48) % 96 : Nat)).2.2 + (ds (k : Int)).2.2 = 16 := by decide +kernel
theorem ds_opp' {pl : Int} (h : 48 ≤ pl) : (ds (pl - 48)).1 + (ds pl).1 = 16 ∧ (ds (pl - 48)).2.1 + (ds pl).2.1 = 16 ∧ (ds (pl - 48)).2.2 + (ds pl).2.2 = 16 := by
  have hm : 0 ≤ pl.fmod 96 ∧ pl.fmod 96 < 96 := fmod_in pl 96 (by decide)
  obtain ⟨k, hk⟩ := Int.eq_ofNat_of_zero_le hm.1
  have e2 : (pl - 48).fmod 96 = (((k + 48) % 96 : Nat) : Int) := by
    rw [Int.fmod_eq_emod_of_nonneg _ (by decide)] at hk ⊢
    (clear h hm; omega)
  rw [ds_mod (show 0 ≤ pl - 48 by (clear hm hk e2; omega)), ds_mod (show 0 ≤ pl by (clear hm hk e2; omega)), e2, hk]
  exact ds_opp k (by (clear h e2; omega))
theorem comp_sum : ∀ lv : Nat, lv < 9 → ∀ sh : Nat, sh < 9 → ∀ d : Nat, d < 17 → comp lv sh d + comp lv sh (16 - d) = 16 * (lv * (16 - sh)) := by decide +kernel
theorem comp_sum' {lv sh d d' : Nat} (h1 : lv < 9) (h2 : sh < 9) (h : d' + d = 16) : comp lv sh d + comp lv sh d' = 16 * (lv * (16 - sh)) := by
  have := comp_sum lv h1 sh h2 d (by (clear h1 h2; omega))
  rwa [show 16 - d = d' by (clear h1 h2 this; omega)] at this
theorem twice_nat {sh lv : Int} (a0 : 0 ≤ sh) (a1 : sh < 9) (b0 : 0 ≤ lv) : (lv * (16 - sh)).toNat = lv.toNat * (16 - sh.toNat) ∧ 0 ≤ lv * (16 - sh) := by
  obtain ⟨s, rfl⟩ := Int.eq_ofNat_of_zero_le a0
  obtain ⟨l, rfl⟩ := Int.eq_ofNat_of_zero_le b0
  have h2 : (16 : Int) - (s : Int) = ((16 - s : Nat) : Int) := by (clear a0 b0; omega)
  rw [h2, ← Int.natCast_mul]
  exact ⟨rfl, Int.natCast_nonneg _⟩
theorem tw_le {lv sh : Nat} (h1 : lv < 9) : lv * (16 - sh) ≤ 128 := by
  have : lv * (16 - sh) ≤ 8 * 16 := Nat.mul_le_mul (by omega) (by (clear h1; omega))
  (clear h1; omega)
theorem sum_fl {sh lv : Int} (a0 : 0 ≤ sh) (a1 : sh < 9) (b0 : 0 ≤ lv) (b1 : lv < 9) : Fl (fdivI (lv * (16 - sh)) 64) ((16 * (lv.toNat * (16 - sh.toNat)) * 2 ^ 1064 : Nat) : Int) := by
  obtain ⟨e, h⟩ := twice_nat a0 a1 b0
  rw [fdiv_nat h (by decide), e]
  have ht := tw_le (lv := lv.toNat) (sh := sh.toNat) (by (clear a0 a1 b0 e h; omega))
  generalize lv.toNat * (16 - sh.toNat) = T at ht
  refine Fl.frac (by decide) ?_ (rep_small 1064 (by (clear a0 a1 b0 b1 e h; omega)) (by decide))
  show T * 2 ^ 1074 = 64 * (16 * T * 2 ^ 1064)
  rw [w64]
  generalize 2 ^ 1064 = U
  rw [← Nat.mul_assoc, ← Nat.mul_assoc]
  congr 1
  (clear a0 a1 b0 b1 e h ht; omega)
theorem sums_ok {pl sh lv : Int} (h0 : 48 ≤ pl) (h1 : pl < 16000016) (a0 : 0 ≤ sh) (a1 : sh < 9) (b0 : 0 ≤ lv) (b1 : lv < 9) :
    (Float64.cmp (Float64.add (col pl sh lv).1 (col (pl - 48) sh lv).1) (fdivI (lv * (16 - sh)) 64) == some Ordering.eq) = true ∧ (Float64.cmp (Float64.add (col pl sh lv).2.1 (col (pl - 48) sh lv).2.1) (fdivI (lv * (16 - sh)) 64) == some Ordering.eq) = true ∧ (Float64.cmp (Float64.add (col pl sh lv).2.2 (col (pl - 48) sh lv).2.2) (fdivI (lv * (16 - sh)) 64) == some Ordering.eq) = true := by
  obtain ⟨c1, c2, c3⟩ := col_val (pl := pl) (by (clear h1 a0 a1 b0 b1; omega)) h1 a0 a1 b0 b1
  obtain ⟨e1, e2, e3⟩ := col_val (pl := pl - 48) (by (clear h1 a0 a1 b0 b1; omega)) (by (clear h0 a0 a1 b0 b1; omega)) a0 a1 b0 b1
  obtain ⟨o1, o2, o3⟩ := ds_opp' h0
  have hs := sum_fl a0 a1 b0 b1
  have ht := tw_le (lv := lv.toNat) (sh := sh.toNat) (by (clear h0 h1 a0 a1 b0 o1 o2 o3; omega))
  have key : ∀ {x y : UInt64} {d d' : Nat}, Fl x ((comp lv.toNat sh.toNat d * 2 ^ 1064 : Nat) : Int) → Fl y ((comp lv.toNat sh.toNat d' * 2 ^ 1064 : Nat) : Int) → d' + d = 16 → Fl (Float64.add x y) ((16 * (lv.toNat * (16 - sh.toNat)) * 2 ^ 1064 : Nat) : Int) := fun hx hy hd => by
    refine Fl.addN hx hy ?_ (rep_small 1064 (by (clear h0 h1 a0 a1 b0 b1 o1 o2 o3 hd; omega)) (by decide))
    rw [← comp_sum' (by (clear h0 h1 a0 a1 b0 o1 o2 o3 ht hd; omega)) (by (clear h0 h1 a0 b0 b1 o1 o2 o3 ht hd; omega)) hd, Nat.add_mul]
  exact ⟨Fl.eqc (key c1 e1 o1) hs, Fl.eqc (key c2 e2 o2) hs, Fl.eqc (key c3 e3 o3) hs⟩
theorem Fl.nz {x : UInt64} {v : Int} (h : Fl x v) (hv : v ≠ 0) : ¬ Float64.isZero x = true := by
  obtain ⟨a, m, e, hd, hx⟩ := h
  intro hz
  unfold Float64.isZero at hz
  rw [hd] at hz
  have h2 := val_eq hd
  cases m with
  | zero =>
    rw [h2] at hx
    apply hv
    rw [← hx]
    simp [sgn_zero]
  | succ m => cases hz
end Mine
end
section
open PySem PySem.W PyProof.Rows PySem.Calls PySem.Float64 Flt
set_option maxRecDepth 100000
set_option maxHeartbeats 4000000
namespace Mine
theorem U_pos : 0 < 2 ^ 1064 := Nat.two_pow_pos _
theorem cmp_nat {x y : UInt64} {p q : Nat} (hx : Fl x ((p * 2 ^ 1064 : Nat) : Int)) (hy : Fl y ((q * 2 ^ 1064 : Nat) : Int)) : Float64.cmp x y = some (compare p q) := by
  rw [Fl.cmp hx hy]
  have hU := U_pos
  generalize 2 ^ 1064 = U at hU
  congr 1
  rcases Nat.lt_trichotomy p q with h | h | h
  · rw [Int.compare_eq_lt.mpr (by exact_mod_cast Nat.mul_lt_mul_of_pos_right h hU), Nat.compare_eq_lt.mpr h]
  · subst h
    rw [Int.compare_eq_eq.mpr rfl, Nat.compare_eq_eq.mpr rfl]
  · rw [Int.compare_eq_gt.mpr (by exact_mod_cast Nat.mul_lt_mul_of_pos_right h hU), Nat.compare_eq_gt.mpr h]
theorem ord_gt {p q : Nat} : (some (compare p q) == some Ordering.gt) = decide (q < p) := by
  rcases Nat.lt_trichotomy p q with h | h | h
  · rw [Nat.compare_eq_lt.mpr h, decide_eq_false (by omega)]; rfl
  · rw [Nat.compare_eq_eq.mpr h, decide_eq_false (by omega)]; rfl
  · rw [Nat.compare_eq_gt.mpr h, decide_eq_true h]; rfl
theorem ord_lt {p q : Nat} : (some (compare p q) == some Ordering.lt) = decide (p < q) := by
  rcases Nat.lt_trichotomy p q with h | h | h
  · rw [Nat.compare_eq_lt.mpr h, decide_eq_true h]; rfl
  · rw [Nat.compare_eq_eq.mpr h, decide_eq_false (by omega)]; rfl
  · rw [Nat.compare_eq_gt.mpr h, decide_eq_false (by omega)]; rfl
theorem ord_eq {p q : Nat} : (some (compare p q) == some Ordering.eq) = decide (p = q) := by
  rcases Nat.lt_trichotomy p q with h | h | h
  · rw [Nat.compare_eq_lt.mpr h, decide_eq_false (by omega)]; rfl
  · rw [Nat.compare_eq_eq.mpr h, decide_eq_true h]; rfl
  · rw [Nat.compare_eq_gt.mpr h, decide_eq_false (by omega)]; rfl
noncomputable def mx (p q r : Nat) : Nat := if p < q then (if q < r then r else q) else (if p < r then r else p)
noncomputable def mn (p q r : Nat) : Nat := if q < p then (if r < q then r else q) else (if r < p then r else p)
section
variable {a b c : UInt64} {p q r : Nat} (ha : Fl a ((p * 2 ^ 1064 : Nat) : Int)) (hb : Fl b ((q * 2 ^ 1064 : Nat) : Int)) (hc : Fl c ((r * 2 ^ 1064 : Nat) : Int))
include ha hb hc
theorem fl_max : Fl (max3F a b c) ((mx p q r * 2 ^ 1064 : Nat) : Int) := by
  unfold max3F mx gtF
  rw [cmp_nat hb ha, cmp_nat hc hb, cmp_nat hc ha, ord_gt, ord_gt, ord_gt]
  simp only [decide_eq_true_eq]
  split
  · split <;> assumption
  · split <;> assumption
theorem fl_min : Fl (min3F a b c) ((mn p q r * 2 ^ 1064 : Nat) : Int) := by
  unfold min3F mn ltF
  rw [cmp_nat hb ha, cmp_nat hc hb, cmp_nat hc ha, ord_lt, ord_lt, ord_lt]
  simp only [decide_eq_true_eq]
  split
  · split <;> assumption
  · split <;> assumption
end
theorem mx_mn : ∀ lv : Nat, lv < 9 → ∀ sh : Nat, sh < 9 → ∀ i : Nat, i < 6 → ∀ j : Nat, j < 16 →
    mx (comp lv sh (dd i j).1) (comp lv sh (dd i j).2.1) (comp lv sh (dd i j).2.2) = lv * 128 ∧ mn (comp lv sh (dd i j).1) (comp lv sh (dd i j).2.1) (comp lv sh (dd i j).2.2) = lv * (128 - 16 * sh) := by decide +kernel
theorem dd_le : ∀ i : Nat, i < 6 → ∀ j : Nat, j < 16 → (dd i j).1 ≤ 16 ∧ (dd i j).2.1 ≤ 16 ∧ (dd i j).2.2 ≤ 16 := by decide +kernel
/-- the hue in sixteenths -/
noncomputable def hue (d1 d2 d3 : Nat) : Int := if d1 = 0 then (d3 : Int) - d2 else if d2 = 0 then 32 + (d1 : Int) - d3 else 64 + (d2 : Int) - d1
theorem hue_is : ∀ i : Nat, i < 6 → ∀ j : Nat, j < 16 → hue (dd i j).1 (dd i j).2.1 (dd i j).2.2 = if i = 5 then ((16 * i + j : Nat) : Int) - 96 else ((16 * i + j : Nat) : Int) := by decide +kernel
theorem fl_two : Fl two64 ((2048 * 2 ^ 1064 : Nat) : Int) := by
  have e : two64 = ofInt ((2 : Nat) : Int) := by decide +kernel
  have h : (2048 * 2 ^ 1064 : Nat) = 2 * 2 ^ 1074 := by rw [w64, ← Nat.mul_assoc]
  rw [e, h]; exact Fl.int (by decide)
theorem fl_half : Fl half64 ((512 * 2 ^ 1064 : Nat) : Int) := by
  have e : half64 = ofFrac false 1 2 := by decide +kernel
  rw [e]
  refine Fl.frac (by decide) ?_ (rep_small 1064 (by decide) (by decide))
  rw [w64, Nat.one_mul, ← Nat.mul_assoc]
theorem fl_two' : Fl two64 (32 * 2 ^ 1070 : Int) := by
  have e : two64 = ofInt ((2 : Nat) : Int) := by decide +kernel
  have h : (32 * 2 ^ 1070 : Int) = ((2 * 2 ^ 1074 : Nat) : Int) := by rw [w70]; push_cast; (clear e; omega)
  rw [e, h]; exact Fl.int (by decide)
theorem fl_four : Fl four64 (64 * 2 ^ 1070 : Int) := by
  have e : four64 = ofInt ((4 : Nat) : Int) := by decide +kernel
  have h : (64 * 2 ^ 1070 : Int) = ((4 * 2 ^ 1074 : Nat) : Int) := by rw [w70]; push_cast; (clear e; omega)
  rw [e, h]; exact Fl.int (by decide)
/-- the floats of sixteenths -/
noncomputable def f16 (k : Nat) : UInt64 := if k < 80 then ofFrac false k 16 else Float64.neg (ofFrac false (96 - k) 16)
theorem hue_end : ∀ k : Nat, k < 96 → (Float64.cmp (Float64.divmod (Float64.div (f16 k) six64) one64).2 (ofFrac false k 96) == some Ordering.eq) = true := by decide +kernel
theorem hue_zero : (Float64.cmp (Float64.divmod (Float64.div (Float64.pack false 0) six64) one64).2 (ofFrac false 0 96) == some Ordering.eq) = true ∧ (Float64.cmp (Float64.divmod (Float64.div (Float64.pack true 0) six64) one64).2 (ofFrac false 0 96) == some Ordering.eq) = true := by decide +kernel
theorem fl_16 {k : Nat} (h : k ≤ 96) : Fl (ofFrac false k 16) ((k * 2 ^ 1070 : Nat) : Int) := by
  refine Fl.frac (by decide) ?_ (rep_small 1070 (by omega) (by decide))
  rw [w70, Nat.mul_left_comm]
theorem hue_fl {x : UInt64} {k : Nat} (hk : k < 96) (hx : Fl x ((if 80 ≤ k then (k : Int) - 96 else (k : Int)) * 2 ^ 1070)) : (Float64.cmp (Float64.divmod (Float64.div x six64) one64).2 (ofFrac false k 96) == some Ordering.eq) = true := by
  by_cases h0 : k = 0
  · subst h0
    have hx0 : Fl x 0 := by simpa using hx
    rcases hx0.zeros with rfl | rfl
    · exact hue_zero.1
    · exact hue_zero.2
  · have hf : Fl (f16 k) ((if 80 ≤ k then (k : Int) - 96 else (k : Int)) * 2 ^ 1070) := by
      unfold f16
      by_cases h8 : k < 80
      · rw [if_pos h8, if_neg (by (clear hk h0; omega))]
        have := fl_16 (k := k) (by (clear hk h0; omega))
        rwa [Int.natCast_mul, Int.natCast_pow] at this
      · rw [if_neg h8, if_pos (by (clear hk h0; omega))]
        have := (fl_16 (k := 96 - k) (by (clear hk h0 h8; omega))).neg
        have e : -(((96 - k) * 2 ^ 1070 : Nat) : Int) = ((k : Int) - 96) * 2 ^ 1070 := by
          rw [Int.natCast_mul, Int.natCast_pow, ← Int.neg_mul]
          congr 1
          (clear h0 h8; omega)
        rwa [e] at this
    have hU : (2 : Int) ^ 1070 ≠ 0 := by
      have : (0 : Int) < 2 ^ 1070 := Int.pow_pos (by decide)
      (clear hk h0 this; omega)
    have hne : (if 80 ≤ k then (k : Int) - 96 else (k : Int)) * 2 ^ 1070 ≠ 0 := Int.mul_ne_zero (by split <;> omega) hU
    rw [Fl.same hx hf hne]
    exact hue_end k hk
end Mine
end
section
open PySem PySem.W PyProof.Rows PySem.Calls PySem.Float64 Flt
set_option maxRecDepth 100000
set_option maxHeartbeats 4000000
namespace Mine
theorem eqF_nat {x y : UInt64} {p q : Nat} (hx : Fl x ((p * 2 ^ 1064 : Nat) : Int)) (hy : Fl y ((q * 2 ^ 1064 : Nat) : Int)) : (Float64.cmp x y == some Ordering.eq) = decide (p = q) := by rw [cmp_nat hx hy, ord_eq]
theorem leF_nat {x y : UInt64} {p q : Nat} (hx : Fl x ((p * 2 ^ 1064 : Nat) : Int)) (hy : Fl y ((q * 2 ^ 1064 : Nat) : Int)) : (Float64.cmp x y == some Ordering.lt || Float64.cmp x y == some Ordering.eq) = decide (p ≤ q) := by
  rw [cmp_nat hx hy, ord_lt, ord_eq]
  by_cases h : p < q
  · rw [decide_eq_true h, decide_eq_true (show p ≤ q by omega)]; rfl
  · by_cases h' : p = q
    · rw [decide_eq_false h, decide_eq_true h', decide_eq_true (show p ≤ q by (clear h; omega))]; rfl
    · rw [decide_eq_false h, decide_eq_false h', decide_eq_false (show ¬ p ≤ q by omega)]; rfl
theorem nzU {p : Nat} (h : p ≠ 0) : ((p * 2 ^ 1064 : Nat) : Int) ≠ 0 := by
  have : p * 2 ^ 1064 ≠ 0 := Nat.mul_ne_zero h (Nat.ne_of_gt U_pos)
  (clear h; omega)
theorem comp_d : ∀ lv : Nat, lv < 9 → ∀ sh : Nat, sh < 9 → ∀ d : Nat, d < 17 → lv * 128 = comp lv sh d + lv * sh * d ∧ (lv * sh ≠ 0 → (comp lv sh d = lv * 128 ↔ d = 0)) := by decide +kernel
theorem mm : ∀ lv : Nat, lv < 9 → ∀ sh : Nat, sh < 9 → lv * 128 = lv * (128 - 16 * sh) + 16 * (lv * sh) ∧ lv * 128 + lv * (128 - 16 * sh) = 16 * (lv * (16 - sh)) ∧ lv * sh ≤ 64 ∧ lv * (16 - sh) ≤ 128 ∧ (lv * sh ≠ 0 → lv * (16 - sh) ≠ 0 ∧ lv * (16 - sh) < 128 ∧ 2048 = lv * 128 + (2048 - lv * 128) ∧ 2048 - lv * 128 = lv * (128 - 16 * sh) + 16 * (128 - lv * (16 - sh))) := by decide +kernel
theorem rep16 {v : Int} (h : v.natAbs < 2 ^ 40) : Rep (v * 2 ^ 1070).natAbs := by
  rw [Int.natAbs_mul, Int.natAbs_pow]
  exact rep_small 1070 h (by decide)
section
variable {r g b : UInt64} {lv sh i j : Nat} (hlv : lv < 9) (hsh : sh < 9) (hi : i < 6) (hj : j < 16)
  (fr : Fl r ((comp lv sh (dd i j).1 * 2 ^ 1064 : Nat) : Int)) (fg : Fl g ((comp lv sh (dd i j).2.1 * 2 ^ 1064 : Nat) : Int)) (fb : Fl b ((comp lv sh (dd i j).2.2 * 2 ^ 1064 : Nat) : Int))
include hlv hsh hi hj fr fg fb
theorem hls_parts : Fl (max3F r g b) ((lv * 128 * 2 ^ 1064 : Nat) : Int) ∧ Fl (min3F r g b) ((lv * (128 - 16 * sh) * 2 ^ 1064 : Nat) : Int) ∧ Fl (Float64.sub (max3F r g b) (min3F r g b)) ((16 * (lv * sh) * 2 ^ 1064 : Nat) : Int) ∧
    Fl (Float64.add (max3F r g b) (min3F r g b)) ((16 * (lv * (16 - sh)) * 2 ^ 1064 : Nat) : Int) ∧ Fl (Float64.div (Float64.add (max3F r g b) (min3F r g b)) two64) ((8 * (lv * (16 - sh)) * 2 ^ 1064 : Nat) : Int) := by
  have hM := fl_max fr fg fb
  have hm := fl_min fr fg fb
  obtain ⟨e1, e2⟩ := mx_mn lv hlv sh hsh i hi j hj
  rw [e1] at hM
  rw [e2] at hm
  obtain ⟨q1, q2, q3, q4, -⟩ := mm lv hlv sh hsh
  have hs : Fl (Float64.sub (max3F r g b) (min3F r g b)) ((16 * (lv * sh) * 2 ^ 1064 : Nat) : Int) := Fl.subN hM hm (by rw [q1, Nat.add_mul]) (rep_small 1064 (by (clear hlv hsh hi hj e1 e2 q1 q2 q4; omega)) (by decide))
  have ha : Fl (Float64.add (max3F r g b) (min3F r g b)) ((16 * (lv * (16 - sh)) * 2 ^ 1064 : Nat) : Int) := Fl.addN hM hm (by rw [← q2, Nat.add_mul]) (rep_small 1064 (by (clear hlv hsh hi hj e1 e2 q1 q2 q3; omega)) (by decide))
  refine ⟨hM, hm, hs, ha, ?_⟩
  refine Fl.div ha fl_two (Nat.mul_pos (by decide) U_pos) ?_ (rep_small 1064 (by (clear hlv hsh hi hj e1 e2 q1 q2 q3; omega)) (by decide))
  rw [w64]
  generalize 2 ^ 1064 = U
  generalize lv * (16 - sh) = T
  rw [Nat.mul_assoc 16, Nat.mul_assoc 16, Nat.mul_assoc 2048, Nat.mul_assoc 8]
  rw [Nat.mul_assoc T U (1024 * U), Nat.mul_left_comm U 1024 U]
  have e : T * (1024 * (U * U)) = 1024 * (T * (U * U)) := Nat.mul_left_comm ..
  have e2 : U * (8 * (T * U)) = 8 * (T * (U * U)) := by rw [Nat.mul_left_comm U 8, Nat.mul_left_comm U T]
  rw [e, e2]
  (clear hlv hsh hi hj e1 q1 q2 q3 q4 e e2; omega)
theorem hls_ok : HlsOk r g b := by
  obtain ⟨hM, hm, hs, ha, hl⟩ := hls_parts hlv hsh hi hj fr fg fb
  obtain ⟨q1, q2, q3, q4, q5⟩ := mm lv hlv sh hsh
  have ne : (Float64.cmp (min3F r g b) (max3F r g b) == some Ordering.eq) = false → lv * sh ≠ 0 := fun h e => by
    rw [eqF_nat hm hM, decide_eq_false_iff_not] at h
    exact h (by (clear hlv hsh hi hj q2 q3 q4 q5 h; omega))
  refine ⟨fun h => hs.nz (nzU (by have := ne h; (clear hlv hsh hi hj q1 q2 q3 q4 q5 ne h; omega))), fun h _ => ha.nz (nzU (by have := (q5 (ne h)).1; (clear hlv hsh hi hj q1 q2 q3 q4 q5 ne h; omega))), fun h _ => ?_⟩
  obtain ⟨t1, t2, t3, t4⟩ := q5 (ne h)
  have s1 : Fl (Float64.sub two64 (max3F r g b)) (((2048 - lv * 128) * 2 ^ 1064 : Nat) : Int) := Fl.subN fl_two hM (by rw [← Nat.add_mul]; congr 1) (rep_small 1064 (by (clear hlv hsh hi hj q1 q2 q3 q4 q5 ne h t1 t2 t3 t4; omega)) (by decide))
  have s2 : Fl (Float64.sub (Float64.sub two64 (max3F r g b)) (min3F r g b)) ((16 * (128 - lv * (16 - sh)) * 2 ^ 1064 : Nat) : Int) := Fl.subN s1 hm (by rw [t4, Nat.add_mul]) (rep_small 1064 (by (clear hlv hsh hi hj q1 q2 q3 q4 q5 ne h t1 t2 t3 t4; omega)) (by decide))
  exact s2.nz (nzU (by (clear hlv hsh hi hj q1 q2 q3 q4 q5 ne h t1 t3 t4; omega)))
theorem hls_grey (h : lv * sh = 0) : (hlsR r g b).1 = 0 ∧ Fl (hlsR r g b).2.1 ((8 * (lv * (16 - sh)) * 2 ^ 1064 : Nat) : Int) ∧ (hlsR r g b).2.2 = 0 := by
  obtain ⟨hM, hm, hs, ha, hl⟩ := hls_parts hlv hsh hi hj fr fg fb
  obtain ⟨q1, -⟩ := mm lv hlv sh hsh
  have e : eqF (min3F r g b) (max3F r g b) = true := by
    unfold eqF
    rw [eqF_nat hm hM, decide_eq_true_eq]
    (clear hlv hsh hi hj; omega)
  unfold hlsR
  rw [if_pos e]
  exact ⟨rfl, hl, rfl⟩
theorem hls_hue (h : lv * sh ≠ 0) : (Float64.cmp (hlsR r g b).1 (ofFrac false (16 * i + j) 96) == some Ordering.eq) = true ∧ Fl (hlsR r g b).2.1 ((8 * (lv * (16 - sh)) * 2 ^ 1064 : Nat) : Int) ∧
    (hlsR r g b).2.2 = ofFrac false (lv * sh) (if 128 - lv * (16 - sh) < lv * (16 - sh) then 128 - lv * (16 - sh) else lv * (16 - sh)) := by
  obtain ⟨hM, hm, hs, ha, hl⟩ := hls_parts hlv hsh hi hj fr fg fb
  obtain ⟨q1, q2, q3, q4, q5⟩ := mm lv hlv sh hsh
  obtain ⟨t1, t2, t3, t4⟩ := q5 h
  have e : ¬ eqF (min3F r g b) (max3F r g b) = true := by
    unfold eqF
    rw [eqF_nat hm hM, decide_eq_true_eq]
    (clear hlv hsh hi hj q2 q3 q4 q5 t1 t2 t3 t4; omega)
  have s1 : Fl (Float64.sub two64 (max3F r g b)) (((2048 - lv * 128) * 2 ^ 1064 : Nat) : Int) := Fl.subN fl_two hM (by rw [← Nat.add_mul]; congr 1) (rep_small 1064 (by (clear hlv hsh hi hj h q1 q2 q3 q4 q5 t1 t2 t3 t4 e; omega)) (by decide))
  have s2 : Fl (Float64.sub (Float64.sub two64 (max3F r g b)) (min3F r g b)) ((16 * (128 - lv * (16 - sh)) * 2 ^ 1064 : Nat) : Int) := Fl.subN s1 hm (by rw [t4, Nat.add_mul]) (rep_small 1064 (by (clear hlv hsh hi hj h q1 q2 q3 q4 q5 t1 t2 t3 t4 e; omega)) (by decide))
  -- the parts of the hue
  have dl := dd_le i hi j hj
  have part : ∀ {x : UInt64} {d : Nat}, Fl x ((comp lv sh d * 2 ^ 1064 : Nat) : Int) → d ≤ 16 → Fl (Float64.div (Float64.sub (max3F r g b) x) (Float64.sub (max3F r g b) (min3F r g b))) ((d : Int) * 2 ^ 1070) := fun {x d} hx hd => by
    obtain ⟨c1, -⟩ := comp_d lv hlv sh hsh d (by (clear hlv hsh hi hj h q1 q2 q3 q4 q5 t1 t2 t3 t4 e dl; omega))
    have hb : lv * sh * d ≤ 64 * 16 := Nat.mul_le_mul q3 hd
    have h1 : Fl (Float64.sub (max3F r g b) x) ((lv * sh * d * 2 ^ 1064 : Nat) : Int) := Fl.subN hM hx (by rw [c1, Nat.add_mul]) (rep_small 1064 (by (clear hlv hsh hi hj h q1 q2 q3 q4 q5 t1 t2 t3 t4 e dl hd c1; omega)) (by decide))
    have h2 : Fl (Float64.div (Float64.sub (max3F r g b) x) (Float64.sub (max3F r g b) (min3F r g b))) ((d * 2 ^ 1070 : Nat) : Int) := by
      refine Fl.div h1 hs (Nat.mul_pos (by (clear hlv hsh hi hj q1 q2 q3 q4 q5 t1 t2 t3 t4 e dl hd c1 hb; omega)) U_pos) ?_ (rep_small 1070 (by (clear hlv hsh hi hj h q1 q2 q3 q4 q5 t1 t2 t3 t4 e dl c1 hb; omega)) (by decide))
      rw [w70]
      generalize 2 ^ 1064 = U
      generalize 2 ^ 1070 = W
      generalize lv * sh = P
      have e1 : P * d * U * (16 * W) = 16 * (P * U * (d * W)) := by
        rw [Nat.mul_left_comm, Nat.mul_right_comm P d U, Nat.mul_assoc (P * U) d W]
      have e2 : 16 * P * U * (d * W) = 16 * (P * U * (d * W)) := by rw [Nat.mul_assoc 16 P U, Nat.mul_assoc 16]
      rw [e1, e2]
    rwa [Int.natCast_mul, Int.natCast_pow] at h2
  have pr := part fr dl.1
  have pg := part fg dl.2.1
  have pb := part fb dl.2.2
  have zr := (comp_d lv hlv sh hsh (dd i j).1 (by (clear hlv hsh hi hj h q1 q2 q3 q4 q5 t1 t2 t3 t4 e; omega))).2 h
  have zg := (comp_d lv hlv sh hsh (dd i j).2.1 (by (clear hlv hsh hi hj h q1 q2 q3 q4 q5 t1 t2 t3 t4 e zr; omega))).2 h
  have hh : Fl (if eqF r (max3F r g b) = true then Float64.sub (Float64.div (Float64.sub (max3F r g b) b) (Float64.sub (max3F r g b) (min3F r g b))) (Float64.div (Float64.sub (max3F r g b) g) (Float64.sub (max3F r g b) (min3F r g b))) else if eqF g (max3F r g b) = true then Float64.sub (Float64.add two64 (Float64.div (Float64.sub (max3F r g b) r) (Float64.sub (max3F r g b) (min3F r g b)))) (Float64.div (Float64.sub (max3F r g b) b) (Float64.sub (max3F r g b) (min3F r g b))) else Float64.sub (Float64.add four64 (Float64.div (Float64.sub (max3F r g b) g) (Float64.sub (max3F r g b) (min3F r g b)))) (Float64.div (Float64.sub (max3F r g b) r) (Float64.sub (max3F r g b) (min3F r g b))))
      (hue (dd i j).1 (dd i j).2.1 (dd i j).2.2 * 2 ^ 1070) := by
    unfold eqF hue
    rw [eqF_nat fr hM, eqF_nat fg hM]
    simp only [decide_eq_true_eq, zr, zg]
    split
    · rw [Int.sub_mul]
      exact Fl.sub pb pg (by rw [← Int.sub_mul]; exact rep16 (by (clear hlv hsh hi hj h q1 q2 q3 q4 q5 t1 t2 t3 t4 e zr zg; omega)))
    · split
      · rw [Int.sub_mul, Int.add_mul]
        exact Fl.sub (Fl.add fl_two' pr (by rw [← Int.add_mul]; exact rep16 (by (clear hlv hsh hi hj h q1 q2 q3 q4 q5 t1 t2 t3 t4 e zr zg; omega)))) pb (by rw [← Int.add_mul, ← Int.sub_mul]; exact rep16 (by (clear hlv hsh hi hj h q1 q2 q3 q4 q5 t1 t2 t3 t4 e zr zg; omega)))
      · rw [Int.sub_mul, Int.add_mul]
        exact Fl.sub (Fl.add fl_four pg (by rw [← Int.add_mul]; exact rep16 (by (clear hlv hsh hi hj h q1 q2 q3 q4 q5 t1 t2 t3 t4 e zr zg; omega)))) pr (by rw [← Int.add_mul, ← Int.sub_mul]; exact rep16 (by (clear hlv hsh hi hj h q1 q2 q3 q4 q5 t1 t2 t3 t4 e zr zg; omega)))
  unfold hlsR
  rw [if_neg e]
  refine ⟨?_, hl, ?_⟩
  · refine hue_fl (k := 16 * i + j) (by (clear hlv hsh h q1 q2 q3 q4 q5 t1 t2 t3 t4 e dl zr zg; omega)) ?_
    rw [hue_is i hi j hj] at hh
    have e5 : (if i = 5 then ((16 * i + j : Nat) : Int) - 96 else ((16 * i + j : Nat) : Int)) = if 80 ≤ 16 * i + j then ((16 * i + j : Nat) : Int) - 96 else ((16 * i + j : Nat) : Int) := by
      by_cases h5 : i = 5
      · rw [if_pos h5, if_pos (by (clear hlv hsh hi hj h q1 q2 q3 q4 q5 t1 t2 t3 t4 e dl zr zg; omega))]
      · rw [if_neg h5, if_neg (by (clear hlv hsh h q1 q2 q3 q4 q5 t1 t2 t3 t4 e dl zr zg; omega))]
    rw [e5] at hh
    exact hh
  · show (if leF (Float64.div (Float64.add (max3F r g b) (min3F r g b)) two64) half64 = true then _ else _) = _
    unfold leF
    rw [leF_nat hl fl_half]
    simp only [decide_eq_true_eq]
    have hU := U_pos
    by_cases h6 : 8 * (lv * (16 - sh)) ≤ 512
    · rw [if_pos h6, if_neg (by (clear hlv hsh hi hj h q1 q2 q3 q4 q5 t1 t2 t3 t4 e dl zr zg hU; omega))]
      refine right_same (div_pos_right hs ha (Nat.mul_pos (by (clear hlv hsh hi hj q1 q2 q3 q4 q5 t1 t2 t3 t4 e dl zr zg hU h6; omega)) hU) (Nat.mul_pos (by (clear hlv hsh hi hj h q1 q2 q3 q4 q5 t2 t3 t4 e dl zr zg hU h6; omega)) hU)) (ofFrac_right (neg := false) (n := lv * sh) (d := lv * (16 - sh)) (W := lv * sh * 2 ^ 1074) (D := lv * (16 - sh)) (by (clear hlv hsh hi hj h q1 q2 q3 q4 q5 t2 t3 t4 e dl zr zg hU h6; omega)) rfl (by (clear hlv hsh hi hj h q1 q2 q3 q4 q5 t2 t3 t4 e dl zr zg hU h6; omega))) (Nat.mul_pos (by (clear hlv hsh hi hj h q1 q2 q3 q4 q5 t2 t3 t4 e dl zr zg hU h6; omega)) hU) (by (clear hlv hsh hi hj h q1 q2 q3 q4 q5 t2 t3 t4 e dl zr zg hU h6; omega)) ?_
      generalize 2 ^ 1064 = U
      generalize 2 ^ 1074 = W
      generalize lv * sh = P
      generalize lv * (16 - sh) = T
      rw [Nat.mul_assoc 16 P U, Nat.mul_assoc 16 T U, Nat.mul_assoc 16 (P * U) W, Nat.mul_assoc 16, Nat.mul_left_comm (P * W) 16 (T * U)]
      congr 1
      rw [Nat.mul_right_comm P U W, Nat.mul_assoc (P * W) U T, Nat.mul_comm U T]
    · rw [if_neg h6, if_pos (by (clear hlv hsh hi hj h q1 q2 q3 q4 q5 t1 t2 t3 t4 e dl zr zg hU; omega))]
      refine right_same (div_pos_right hs s2 (Nat.mul_pos (by (clear hlv hsh hi hj q1 q2 q3 q4 q5 t1 t2 t3 t4 e dl zr zg hU h6; omega)) hU) (Nat.mul_pos (by (clear hlv hsh hi hj h q1 q2 q3 q4 q5 t1 t3 t4 e dl zr zg hU h6; omega)) hU)) (ofFrac_right (neg := false) (n := lv * sh) (d := 128 - lv * (16 - sh)) (W := lv * sh * 2 ^ 1074) (D := 128 - lv * (16 - sh)) (by (clear hlv hsh hi hj h q1 q2 q3 q4 q5 t1 t3 t4 e dl zr zg hU h6; omega)) rfl (by (clear hlv hsh hi hj h q1 q2 q3 q4 q5 t1 t3 t4 e dl zr zg hU h6; omega))) (Nat.mul_pos (by (clear hlv hsh hi hj h q1 q2 q3 q4 q5 t1 t3 t4 e dl zr zg hU h6; omega)) hU) (by (clear hlv hsh hi hj h q1 q2 q3 q4 q5 t1 t3 t4 e dl zr zg hU h6; omega)) ?_
      generalize 2 ^ 1064 = U
      generalize 2 ^ 1074 = W
      generalize lv * sh = P
      generalize 128 - lv * (16 - sh) = T
      rw [Nat.mul_assoc 16 P U, Nat.mul_assoc 16 T U, Nat.mul_assoc 16 (P * U) W, Nat.mul_assoc 16, Nat.mul_left_comm (P * W) 16 (T * U)]
      congr 1
      rw [Nat.mul_right_comm P U W, Nat.mul_assoc (P * W) U T, Nat.mul_comm U T]
end
end Mine
end
section
open PySem PySem.W PyProof.Rows PySem.Calls PySem.Float64 Flt
set_option maxRecDepth 100000
set_option maxHeartbeats 4000000
namespace Mine
theorem frac_some {n d : Nat} (hn : n < 2 ^ 60) (hd : 0 < d) : ∃ v, Fl (ofFrac false n d) v := by
  obtain ⟨t, hr, hle, _⟩ := ofFrac_right (neg := false) (n := n) (d := d) (W := n * 2 ^ 1074) (D := d) hd rfl hd
  by_cases e : t = infMag
  · exfalso
    refine noInf (b := false) hn hd ?_
    rw [hr, e]
    decide +kernel
  · rw [hr]
    exact ⟨_, Fl.pack (Nat.lt_of_le_of_ne hle e)⟩
theorem Con.mono {w : World} {f : Addr} {d u : Nat} {vs : List Value} {P P' : Value → List (Addr × Obj) → Prop} (h : Con w f d u vs P) (hP : ∀ r tl, P r tl → P' r tl) : Con w f d u vs P' := by
  intro mean mg mb dp un gd cn cs a ccd cl outer A₀ base h₀ L m news s Q E B F X N T hk hd hu hret
  exact h mean mg mb dp un gd cn cs a ccd cl outer A₀ base h₀ L m news s Q E B F X N T hk hd hu (fun r tl h' tk' p => hret r tl h' tk' (hP r tl p))
theorem cmpInt00 : (Float64.cmpInt 0 0 == some Ordering.eq) = true := by decide +kernel
theorem tw_fl {sh lv : Int} (a0 : 0 ≤ sh) (a1 : sh < 9) (b0 : 0 ≤ lv) (b1 : lv < 9) : Fl (fdivI (lv * (16 - sh)) 128) ((8 * (lv.toNat * (16 - sh.toNat)) * 2 ^ 1064 : Nat) : Int) := by
  obtain ⟨e, h⟩ := twice_nat a0 a1 b0
  rw [fdiv_nat h (by decide), e]
  have ht := tw_le (lv := lv.toNat) (sh := sh.toNat) (by (clear a0 a1 b0 e h; omega))
  generalize lv.toNat * (16 - sh.toNat) = T at ht
  refine Fl.frac (by decide) ?_ (rep_small 1064 (by (clear a0 a1 b0 b1 e h; omega)) (by decide))
  show T * 2 ^ 1074 = 128 * (8 * T * 2 ^ 1064)
  rw [w64]
  generalize 2 ^ 1064 = U
  rw [← Nat.mul_assoc, ← Nat.mul_assoc]
  congr 1
  (clear a0 a1 b0 b1 e h ht; omega)
theorem hls_law (w : World) {pl sh lv : Int} (h0 : 0 ≤ pl) (h1 : pl < 16000016) (a0 : 0 ≤ sh) (a1 : sh < 9) (b0 : 0 ≤ lv) (b1 : lv < 9) :
    ∃ h l sa, RgC w (col pl sh lv).1 (col pl sh lv).2.1 (col pl sh lv).2.2 h l sa ∧ HlC w pl sh lv (Eq3 h l sa) := by
  obtain ⟨fr, fg, fb⟩ := col_val h0 h1 a0 a1 b0 b1
  unfold ds at fr fg fb
  have hi : pl.toNat / 16 % 6 < 6 := by (clear h0 h1 a0 a1 b0 b1; omega)
  have hj : pl.toNat % 16 < 16 := by (clear h0 h1 a0 a1 b0 b1 hi; omega)
  have hk : 16 * (pl.toNat / 16 % 6) + pl.toNat % 16 = (pl.fmod 96).toNat := by
    rw [Int.fmod_eq_emod_of_nonneg _ (by decide)]; (clear h1 a0 a1 b0 b1 hi hj; omega)
  have hlv : lv.toNat < 9 := by (clear h0 h1 a0 a1 b0 hi hj hk; omega)
  have hsh : sh.toNat < 9 := by (clear h0 h1 a0 b0 b1 hi hj hk hlv; omega)
  have hok := hls_ok hlv hsh hi hj fr fg fb
  have htw := tw_fl a0 a1 b0 b1
  obtain ⟨etw, ptw⟩ := twice_nat a0 a1 b0
  have els : (lv * sh).toNat = lv.toNat * sh.toNat ∧ 0 ≤ lv * sh := by
    obtain ⟨s, rfl⟩ := Int.eq_ofNat_of_zero_le a0
    obtain ⟨l, rfl⟩ := Int.eq_ofNat_of_zero_le b0
    rw [← Int.natCast_mul]
    exact ⟨rfl, Int.natCast_nonneg _⟩
  refine ⟨_, _, _, fun t1 t2 t3 => rgb_con w _ _ _ t1 t2 t3 hok rfl, fun t1 t2 t3 => Con.mono (hls_con w pl sh lv t1 t2 t3 h0 h1 a0 a1 b0 b1 rfl) ?_⟩
  rintro r tl ⟨D, c, vs, hV, rfl, rfl⟩
  refine ⟨D, c, vs, ?_, rfl, rfl⟩
  unfold HlsV at hV
  split at hV
  · next hz =>
    obtain ⟨u1, u2, u3, hu2, rfl⟩ := hV
    obtain ⟨g1, g2, g3⟩ := hls_grey hlv hsh hi hj fr fg fb (by (clear h0 h1 a0 a1 b0 b1 hi hj hk hlv hsh etw ptw hu2; omega))
    refine ⟨_, _, _, rfl, fun A s t1 t2 t3 ht1 ht2 ht3 hb => ⟨?_, eqAt_cc ht2 hu2 hb (Fl.eqc g2 htw), ?_⟩⟩
    · rw [g1]; exact eqAt_fi cmpInt00
    · rw [g3]; exact eqAt_fi cmpInt00
  · next hz =>
    obtain ⟨u1, u2, u3, ⟨hu1, hu2, hu3⟩, rfl⟩ := hV
    have hz' : lv.toNat * sh.toNat ≠ 0 := by (clear h0 h1 a0 a1 b0 b1 hi hj hk hlv hsh etw ptw hu1 hu2 hu3; omega)
    obtain ⟨g1, g2, g3⟩ := hls_hue hlv hsh hi hj fr fg fb hz'
    obtain ⟨q1, q2, q3, q4, q5⟩ := mm lv.toNat hlv sh.toNat hsh
    obtain ⟨t1', t2', -, -⟩ := q5 hz'
    refine ⟨_, _, _, rfl, fun A s t1 t2 t3 ht1 ht2 ht3 hb => ⟨eqAt_cc ht1 hu1 hb ?_, eqAt_cc ht2 hu2 hb (Fl.eqc g2 htw), eqAt_cc ht3 hu3 hb ?_⟩⟩
    · rw [fdiv_nat (fmod_in pl 96 (by decide)).1 (by decide)]
      rw [hk] at g1
      exact g1
    · have e : fdivI (lv * sh) (minZ (lv * (16 - sh)) (128 - lv * (16 - sh))) = ofFrac false (lv.toNat * sh.toNat) (if 128 - lv.toNat * (16 - sh.toNat) < lv.toNat * (16 - sh.toNat) then 128 - lv.toNat * (16 - sh.toNat) else lv.toNat * (16 - sh.toNat)) := by
        have hmz : 0 < minZ (lv * (16 - sh)) (128 - lv * (16 - sh)) := by unfold minZ; split <;> omega
        rw [fdiv_nat els.2 hmz, els.1]
        congr 1
        unfold minZ
        rw [← etw]
        split
        · rw [if_pos (by (clear h0 h1 a0 a1 b0 b1 hi hj hk hlv hsh etw ptw els hz hu1 hu2 hu3 hz' g1 g3 q1 q2 q3 q4 q5 t1' t2' ht1 ht2 ht3 hmz; omega))]; (clear h0 h1 a0 a1 b0 b1 hi hj hk hlv hsh etw ptw els hz hu1 hu2 hu3 hz' g1 g3 q1 q2 q3 q4 q5 t1' t2' ht1 ht2 ht3 hmz; omega)
        · rw [if_neg (by (clear h0 h1 a0 a1 b0 b1 hi hj hk hlv hsh etw ptw els hz hu1 hu2 hu3 hz' g1 g3 q1 q2 q3 q4 q5 t1' t2' ht1 ht2 ht3 hmz; omega))]
      rw [g3, e]
      obtain ⟨v, hv⟩ := frac_some (n := lv.toNat * sh.toNat) (d := if 128 - lv.toNat * (16 - sh.toNat) < lv.toNat * (16 - sh.toNat) then 128 - lv.toNat * (16 - sh.toNat) else lv.toNat * (16 - sh.toNat)) (by (clear h0 h1 a0 a1 b0 b1 hi hj hk hlv hsh etw ptw els hz hu1 hu2 hu3 hz' g1 g3 q1 q2 q4 q5 t1' t2' ht1 ht2 ht3 e; omega)) (by split <;> omega)
      exact Fl.eqc hv hv
end Mine
end
section
open PySem PySem.W PyProof.Rows PySem.Calls PySem.Float64 Flt
set_option maxRecDepth 100000
set_option maxHeartbeats 4000000
namespace Mine
theorem w21 : (2 : Nat) ^ 1074 = 2 ^ 53 * 2 ^ 1021 := by decide +kernel
/-- a little less than one -/
noncomputable def lessOne (k : Nat) : UInt64 := ofFrac false (2 ^ 53 - k) (2 ^ 53)
theorem fl_k {k : Nat} (h : k ≤ 2 ^ 53 - 1) : Fl (ofFrac false k (2 ^ 53)) ((k * 2 ^ 1021 : Nat) : Int) := by
  refine Fl.frac (by decide) ?_ (rep_of (q := k) (k := 1021) (by omega) (by decide) rfl)
  rw [w21, Nat.mul_left_comm]
theorem fl_one' : Fl one64 ((2 ^ 53 * 2 ^ 1021 : Nat) : Int) := by
  rw [← w21]
  have := fl_one
  rwa [Nat.one_mul] at this
theorem eight_is : ofFrac false 8 8 = one64 := by decide +kernel
theorem Fl.mul1 {y : UInt64} {q : Nat} (hy : Fl y q) (hr : Rep q) : Fl (Float64.mul one64 y) q := Fl.mul fl_one hy (by rw [Nat.one_mul]) hr
/-- what white is -/
noncomputable def wt (i k : Nat) : UInt64 × UInt64 × UInt64 :=
  if i = 0 then (one64, lessOne k, lessOne k) else if i = 1 then (one64, one64, lessOne k) else if i = 2 then (lessOne k, one64, lessOne k) else if i = 3 then (lessOne k, one64, one64) else if i = 4 then (lessOne k, lessOne k, one64) else (one64, lessOne k, one64)
theorem white_is {n k : Nat} (hn : n < 1000000) (hk0 : 0 < k) (hk : k < 18) : hsvR (ofFrac false n 6) (ofFrac false k (2 ^ 53)) (ofFrac false 8 8) = wt (n % 6) k := by
  have hx : Fl (Float64.mul (ofFrac false n 6) six64) ((n * 2 ^ 1074 : Nat) : Int) := mul6 (c := 1) (e := 1074) (by (clear hk0 hk; omega)) (by decide) (by decide) (by decide) rfl (by rw [Nat.one_mul])
  have hs := fl_k (k := k) (by (clear hn hk0; omega))
  have hi : Flt.toInt Float64.truncOf (Float64.mul (ofFrac false n 6) six64) = ((n : Nat) : Int) := by
    rw [trunc_of hx, Nat.mul_div_cancel _ (Nat.two_pow_pos _)]
  have hf : Fl (Float64.sub (Float64.mul (ofFrac false n 6) six64) (Float64.ofInt ((n : Nat) : Int))) ((0 : Nat) : Int) :=
    Fl.subN hx (Fl.int (by (clear hk0 hk hi; omega))) (by (clear hn hk0 hk hi; omega)) (rep_of (q := 0) (k := 0) (by decide) (by decide) rfl)
  have hU : 0 < 2 ^ 1021 := Nat.two_pow_pos _
  have rp : ∀ q : Nat, q < 2 ^ 53 → Rep (q * 2 ^ 1021) := fun q hq => rep_of (q := q) (k := 1021) hq (by decide) rfl
  have r1 : Rep (2 ^ 53 * 2 ^ 1021) := rep_of (q := 1) (k := 1074) (by decide) (by decide) (by rw [Nat.one_mul]; exact w21.symm)
  have l1 : Fl (Float64.sub one64 (ofFrac false k (2 ^ 53))) (((2 ^ 53 - k) * 2 ^ 1021 : Nat) : Int) := Fl.subN fl_one' hs (by rw [← Nat.add_mul]; congr 1; (clear hn hk0 hi hU; omega)) (rp _ (by (clear hn hk hi hU; omega)))
  have lk : Fl (lessOne k) (((2 ^ 53 - k) * 2 ^ 1021 : Nat) : Int) := fl_k (by (clear hn hk hi hU; omega))
  have nk : (((2 ^ 53 - k) * 2 ^ 1021 : Nat) : Int) ≠ 0 := by
    have : (2 ^ 53 - k) * 2 ^ 1021 ≠ 0 := Nat.mul_ne_zero (by (clear hn hk0 hi hU; omega)) (by (clear hn hk0 hk hi hU; omega))
    (clear hn hk0 hk hi hU; omega)
  have n1 : ((2 ^ 53 * 2 ^ 1021 : Nat) : Int) ≠ 0 := by
    have : 2 ^ 53 * 2 ^ 1021 ≠ 0 := Nat.mul_ne_zero (by decide) (by (clear hn hk0 hk hi hU nk; omega))
    (clear hn hk0 hk hi hU nk this; omega)
  have hp : Float64.mul one64 (Float64.sub one64 (ofFrac false k (2 ^ 53))) = lessOne k := Fl.same (Fl.mul1 l1 (rp _ (by (clear hn hk hi hU nk n1; omega)))) lk nk
  have hq : Float64.mul one64 (Float64.sub one64 (Float64.mul (ofFrac false k (2 ^ 53)) (Float64.sub (Float64.mul (ofFrac false n 6) six64) (Float64.ofInt ((n : Nat) : Int))))) = one64 := by
    have m0 : Fl (Float64.mul (ofFrac false k (2 ^ 53)) (Float64.sub (Float64.mul (ofFrac false n 6) six64) (Float64.ofInt ((n : Nat) : Int)))) ((0 : Nat) : Int) := Fl.mul hs hf (by simp only [Nat.mul_zero]) (rep_of (q := 0) (k := 0) (by decide) (by decide) rfl)
    have s0 := Fl.subN fl_one' m0 (R := 2 ^ 53 * 2 ^ 1021) (by (clear hn hk0 hk hi hU nk n1 hp; omega)) r1
    exact Fl.same (Fl.mul1 s0 r1) fl_one' n1
  have ht : Float64.mul one64 (Float64.sub one64 (Float64.mul (ofFrac false k (2 ^ 53)) (Float64.sub one64 (Float64.sub (Float64.mul (ofFrac false n 6) six64) (Float64.ofInt ((n : Nat) : Int)))))) = lessOne k := by
    have s0 := Fl.subN fl_one' hf (R := 2 ^ 53 * 2 ^ 1021) (by (clear hn hk0 hk hi hU nk n1 hp hq; omega)) r1
    have m1 : Fl (Float64.mul (ofFrac false k (2 ^ 53)) (Float64.sub one64 (Float64.sub (Float64.mul (ofFrac false n 6) six64) (Float64.ofInt ((n : Nat) : Int))))) ((k * 2 ^ 1021 : Nat) : Int) :=
      Fl.mul hs s0 (by rw [w21]; exact Nat.mul_comm _ _) (rp _ (by (clear hn hk0 hk hi hU n1 hp hq; omega)))
    have s1 : Fl (Float64.sub one64 (Float64.mul (ofFrac false k (2 ^ 53)) (Float64.sub one64 (Float64.sub (Float64.mul (ofFrac false n 6) six64) (Float64.ofInt ((n : Nat) : Int)))))) (((2 ^ 53 - k) * 2 ^ 1021 : Nat) : Int) :=
      Fl.subN fl_one' m1 (by rw [← Nat.add_mul]; congr 1; (clear hn hk0 hk hi hU n1 hp hq; omega)) (rp _ (by (clear hn hk hi hU nk n1 hp hq; omega)))
    exact Fl.same (Fl.mul1 s1 (rp _ (by (clear hn hk hi hU nk n1 hp hq; omega)))) lk nk
  have hz : ¬ (Float64.cmp (ofFrac false k (2 ^ 53)) 0 == some .eq) = true := by
    rw [is_zero hs, decide_eq_true_eq]
    exact Nat.mul_ne_zero (by (clear hn hk hi hU nk n1 hp hq ht; omega)) (by (clear hn hk0 hk hi hU nk n1 hp hq ht; omega))
  unfold hsvR
  rw [if_neg hz]
  simp only [hi, eight_is, hp, hq, ht]
  have em : ((n : Nat) : Int).fmod 6 = ((n % 6 : Nat) : Int) := by rw [Int.fmod_eq_emod_of_nonneg _ (by decide)]; (clear hn hk0 hk hi hU nk n1 hp hq ht hz; omega)
  rw [em]
  unfold wt
  have h6 : n % 6 < 6 := Nat.mod_lt _ (by decide)
  generalize n % 6 = i at h6
  have : i = 0 ∨ i = 1 ∨ i = 2 ∨ i = 3 ∨ i = 4 ∨ i = 5 := by (clear hn hk0 hk hi hU nk n1 hp hq ht hz em; omega)
  rcases this with rfl | rfl | rfl | rfl | rfl | rfl <;> rfl
theorem white_dec : ∀ i : Nat, i < 6 → ∀ p : Nat, p < 9 →
    (((Float64.cmp (min3F (wt i (2 * p + 1)).1 (wt i (2 * p + 1)).2.1 (wt i (2 * p + 1)).2.2) (max3F (wt i (2 * p + 1)).1 (wt i (2 * p + 1)).2.1 (wt i (2 * p + 1)).2.2) == some Ordering.eq) = false) ∧
    (Float64.isZero (Float64.sub (max3F (wt i (2 * p + 1)).1 (wt i (2 * p + 1)).2.1 (wt i (2 * p + 1)).2.2) (min3F (wt i (2 * p + 1)).1 (wt i (2 * p + 1)).2.1 (wt i (2 * p + 1)).2.2)) = false) ∧
    (Float64.isZero (Float64.add (max3F (wt i (2 * p + 1)).1 (wt i (2 * p + 1)).2.1 (wt i (2 * p + 1)).2.2) (min3F (wt i (2 * p + 1)).1 (wt i (2 * p + 1)).2.1 (wt i (2 * p + 1)).2.2)) = false) ∧
    (Float64.isZero (Float64.sub (Float64.sub two64 (max3F (wt i (2 * p + 1)).1 (wt i (2 * p + 1)).2.1 (wt i (2 * p + 1)).2.2)) (min3F (wt i (2 * p + 1)).1 (wt i (2 * p + 1)).2.1 (wt i (2 * p + 1)).2.2)) = false)) ∧
    (Float64.cmp (hlsR (wt i (2 * p + 1)).1 (wt i (2 * p + 1)).2.1 (wt i (2 * p + 1)).2.2).1 (ofFrac false i 6) == some Ordering.eq) = true ∧
    (Float64.cmp (hlsR (wt i (2 * p + 1)).1 (wt i (2 * p + 1)).2.1 (wt i (2 * p + 1)).2.2).2.1 (ofFrac false (2 ^ 54 - (2 * p + 1)) (2 ^ 54)) == some Ordering.eq) = true ∧
    (Float64.cmpInt (hlsR (wt i (2 * p + 1)).1 (wt i (2 * p + 1)).2.1 (wt i (2 * p + 1)).2.2).2.2 1 == some Ordering.eq) = true := by decide +kernel
theorem white_law (w : World) {le pl : Int} (h0 : 0 ≤ le) (h1 : le < 1000000) (a0 : 0 ≤ pl) (a1 : pl < 9) :
    ∃ a b c h l sa, HsC w (fdivI le 6) (fdivI (2 * pl + 1) (2 ^ 53)) (fdivI 8 8) a b c ∧ RgC w a b c h l sa ∧ (Float64.cmp h (fdivI (le.fmod 6) 6) == some Ordering.eq) = true ∧ (Float64.cmp l (fdivI ((2 : Int) ^ Int.toNat 54 - (2 * pl + 1)) ((2 : Int) ^ Int.toNat 54)) == some Ordering.eq) = true ∧ (Float64.cmpInt sa 1 == some Ordering.eq) = true := by
  obtain ⟨n, rfl⟩ := Int.eq_ofNat_of_zero_le h0
  obtain ⟨p, rfl⟩ := Int.eq_ofNat_of_zero_le a0
  have hn : n < 1000000 := by (clear h0 a0 a1; omega)
  have hp : p < 9 := by (clear h0 h1 a0 hn; omega)
  have e1 : fdivI ((n : Nat) : Int) 6 = ofFrac false n 6 := fdiv_nat (by (clear h0 h1 a0 a1 hn hp; omega)) (by decide)
  have e2 : fdivI (2 * ((p : Nat) : Int) + 1) (2 ^ 53) = ofFrac false (2 * p + 1) (2 ^ 53) := by
    rw [fdiv_nat (by (clear h0 h1 a0 a1 hn hp e1; omega)) (by decide)]
    congr 1
  have e3 : fdivI 8 8 = ofFrac false 8 8 := fdiv_nat (by decide) (by decide)
  have e4 : fdivI (((n : Nat) : Int).fmod 6) 6 = ofFrac false (n % 6) 6 := by
    have em : ((n : Nat) : Int).fmod 6 = ((n % 6 : Nat) : Int) := by rw [Int.fmod_eq_emod_of_nonneg _ (by decide)]; (clear h0 h1 a0 a1 hn hp e1 e2 e3; omega)
    rw [em, fdiv_nat (by (clear h0 h1 a0 a1 hn hp e1 e2 e3 em; omega)) (by decide)]
    rfl
  have e5 : fdivI ((2 : Int) ^ Int.toNat 54 - (2 * ((p : Nat) : Int) + 1)) ((2 : Int) ^ Int.toNat 54) = ofFrac false (2 ^ 54 - (2 * p + 1)) (2 ^ 54) := by
    have q : (2 : Int) ^ Int.toNat 54 = 18014398509481984 := by decide
    rw [q, fdiv_nat (by (clear h0 h1 a0 a1 hn e1 e2 e3 e4 q; omega)) (by decide)]
    have r1 : ((18014398509481984 : Int) - (2 * ((p : Nat) : Int) + 1)).toNat = 2 ^ 54 - (2 * p + 1) := by (clear h0 h1 a0 a1 hn hp e1 e2 e3 e4 q; omega)
    rw [r1]
    rfl
  have hx : Fl (Float64.mul (ofFrac false n 6) six64) ((n * 2 ^ 1074 : Nat) : Int) := mul6 (c := 1) (e := 1074) (by (clear h0 h1 a0 a1 hp e1 e2 e3 e4 e5; omega)) (by decide) (by decide) (by decide) rfl (by rw [Nat.one_mul])
  have hw := white_is (n := n) (k := 2 * p + 1) hn (by (clear h0 h1 a0 a1 hn hp e1 e2 e3 e4 e5; omega)) (by (clear h0 h1 a0 a1 hn e1 e2 e3 e4 e5; omega))
  obtain ⟨⟨d1, d2, d3, d4⟩, d5, d6, d7⟩ := white_dec (n % 6) (Nat.mod_lt _ (by decide)) p hp
  rw [e1, e2, e3, e4, e5]
  refine ⟨(wt (n % 6) (2 * p + 1)).1, (wt (n % 6) (2 * p + 1)).2.1, (wt (n % 6) (2 * p + 1)).2.2, _, _, _, fun t1 t2 t3 ht3 => ?_, fun t1 t2 t3 => rgb_con w _ _ _ t1 t2 t3 ⟨fun _ => nt d2, fun _ _ => nt d3, fun _ _ => nt d4⟩ rfl, d5, d6, d7⟩
  have := hsv_con w (ofFrac false n 6) (ofFrac false (2 * p + 1) (2 ^ 53)) (ofFrac false 8 8) t1 t2 t3 hx.fin (by rw [trunc_of hx, Nat.mul_div_cancel _ (Nat.two_pow_pos _)]; (clear h0 h1 a0 a1 hp e1 e2 e3 e4 e5 hw d1 d2 d3 d4 d5 d6 d7 ht3; omega)) ht3 rfl
  rw [hw] at this
  exact this
end Mine
end
section
open PySem PySem.W PyProof.Rows PySem.Calls
set_option maxRecDepth 100000
set_option maxHeartbeats 4000000
namespace Mine
theorem ri_ok (w : World) {n pa : Int} (h0 : 0 ≤ n) (h1 : n < 1000000) (p0 : 0 ≤ pa) (p1 : pa < 16) : RiC w n pa (ringT n pa) := fun t1 t2 => ring_con w n pa t1 t2 h0 h1 p0 p1 rfl
theorem step_ok (w : World) {n pa pl li : Int} (h0 : 0 ≤ n) (h1 : n < 1000000) (p0 : 0 ≤ pa) (p1 : pa < 16) (a0 : 0 ≤ pl) (a1 : pl < 9) (b0 : 0 ≤ li) (b1 : li < 9) (ht : 0 < timesZ n) :
    StepOk w (n - 3) pa pl li (ringT n pa) (ringT (n - 3) pa) (bothT pl li) (col (n * 16 + pa) pl li).1 (col (n * 16 + pa) pl li).2.1 (col (n * 16 + pa) pl li).2.2
      (col ((n - 3) * 16 + pa) pl li).1 (col ((n - 3) * 16 + pa) pl li).2.1 (col ((n - 3) * 16 + pa) pl li).2.2 := by
  obtain ⟨_, h2⟩ := times_step h0 ht
  have e : (n - 3) * 16 + pa = n * 16 + pa - 48 := by (clear h0 h1 p0 p1 a0 a1 b0 b1 ht h2; omega)
  obtain ⟨s1, s2, s3⟩ := sums_ok (pl := n * 16 + pa) (sh := pl) (lv := li) (by (clear h0 h1 p1 a0 a1 b0 b1 ht e; omega)) (by (clear h0 p0 a0 a1 b0 b1 ht h2 e; omega)) a0 a1 b0 b1
  rw [← e] at s1 s2 s3
  exact { al := al_ring w _ h0 h1 p0 p1 ht
          ri := ri_ok w (by (clear h0 h1 p0 p1 a0 a1 b0 b1 ht e s1 s2 s3; omega)) (by (clear h0 p0 p1 a0 a1 b0 b1 ht h2 e s1 s2 s3; omega)) p0 p1
          ok1 := (ring_asc (by (clear h0 h1 p0 p1 a0 a1 b0 b1 ht e s1 s2 s3; omega)) p0).ok
          ok2 := (both_asc a0 b0).ok
          co := co_ring w (by (clear h0 h1 p0 p1 a0 a1 b0 b1 ht e s1 s2 s3; omega)) (by (clear h0 p0 p1 a0 a1 b0 b1 ht h2 e s1 s2 s3; omega)) p0 p1 a0 a1 b0 b1
          e1 := s1
          e2 := s2
          e3 := s3
          hls := hls_law w (by (clear h0 h1 p1 a0 a1 b0 b1 ht e s1 s2 s3; omega)) (by (clear h0 p0 a0 a1 b0 b1 ht h2 e s1 s2 s3; omega)) a0 a1 b0 b1
          wh := white_law w (by (clear h0 h1 p0 p1 a0 a1 b0 b1 ht e s1 s2 s3; omega)) (by (clear h0 p0 p1 a0 a1 b0 b1 ht h2 e s1 s2 s3; omega)) a0 a1
          b0 := by (clear h0 h1 p0 p1 a0 a1 b0 b1 ht e s1 s2 s3; omega)
          b1 := by (clear h0 p0 p1 a0 a1 b0 b1 ht h2 e s1 s2 s3; omega)
          c0 := a0
          c1 := a1
          d0 := b0
          d1 := b1 }
theorem draw_ok (w : World) {sg : Str} (hodd : NotOdd sg) (hasc : Asc sg) : AllDraw w sg := by
  intro sx pa pl li h0 h1 p0 p1 a0 a1 b0 b1
  have hti := times_nonneg sx
  have htj := times_lt h0 h1
  have hn : Builtin.Range.rangeSize 0 (if timesZ sx < 4 then timesZ sx else 4) 1 = (((if timesZ sx < 4 then timesZ sx else 4).toNat : Nat) : Int) := by
    rw [rangeSize_one]
    split <;> (clear h0 h1 p0 p1 a0 a1 b0 b1 hti htj; omega)
  have hbl := both_asc a0 b0
  have hal := ring_asc h0 p0
  have hlo : ∀ n : Int, 0 ≤ n → n < 1000000 → (ringT n pa).length ≤ 600 := fun n x y => Nat.le_trans (ring_len x y p0 p1) (by decide)
  have lo3 : 0 < timesZ sx → 0 ≤ sx - 3 := fun h => by have := (times_step h0 h).2; (clear h0 h1 p0 p1 a0 a1 b0 b1 hti htj hn h; omega)
  have steps : ∀ i : Nat, (i : Int) < timesZ sx → 0 ≤ sx - 3 * (i : Int) ∧ sx - 3 * (i : Int) < 1000000 ∧ 0 < timesZ (sx - 3 * (i : Int)) := fun i hi => by
    obtain ⟨e, g⟩ := times_steps h0 i (by (clear h0 h1 p0 p1 a0 a1 b0 b1 hti htj hn lo3; omega))
    exact ⟨g, by (clear h0 p0 p1 a0 a1 b0 b1 hti htj hn lo3 hi e g; omega), by (clear h0 h1 p0 p1 a0 a1 b0 b1 hti htj hn lo3 g; omega)⟩
  refine ⟨bothT pl li, (if 0 < timesZ sx then solaris else sunos), (if 0 < timesZ sx then ringT (sx - 3) pa else ringT sx pa), spoiltT sx (ringT sx pa), timesZ sx, fun i => ringT (sx - 3 * (i : Int)) pa,
    fun i => (col ((sx - 3 * (i : Int)) * 16 + pa) pl li).1, fun i => (col ((sx - 3 * (i : Int)) * 16 + pa) pl li).2.1, fun i => (col ((sx - 3 * (i : Int)) * 16 + pa) pl li).2.2, (if timesZ sx < 4 then timesZ sx else 4).toNat, ?_⟩
  have z : sx - 3 * ((0 : Nat) : Int) = sx := by (clear h0 h1 p0 p1 a0 a1 b0 b1 hti htj hn lo3; omega)
  exact { b0 := h0
          b1 := h1
          c0 := a0
          c1 := a1
          d0 := b0
          d1 := b1
          t0 := hti
          t1 := htj
          ri := by (try dsimp only); rw [z]; exact ri_ok w h0 h1 p0 p1
          tc := fun t1 => times_con w sx t1 h0 h1 rfl
          hbo := rfl
          hna := rfl
          hsp := by (try dsimp only); rw [z]
          lt := by (try dsimp only); rw [z]; exact hlo sx h0 h1
          ll := by
            split
            · next h => exact hlo _ (lo3 h) (by (clear h0 p0 p1 a0 a1 b0 b1 hti htj hn lo3 z h; omega))
            · exact hlo sx h0 h1
          lo1 := fun h => by rw [if_pos h]; exact ri_ok w (lo3 h) (by (clear h0 p0 p1 a0 a1 b0 b1 hti htj hn lo3 z h; omega)) p0 p1
          lo2 := fun h => by (try dsimp only); rw [if_neg h, z]
          al0 := (alC_other w _ _ hodd).toB
          al1 := (al_win32 w _ _).toB
          al2 := (al_win16 w _ _).toB
          al3 := by (try dsimp only); rw [z]; exact al_pre w _ h0 h1 p0 p1 (Str.ofString "-") (c := 45) (by decide +kernel) (by decide)
          al4 := by (try dsimp only); rw [z]; exact al_pre w _ h0 h1 p0 p1 (Str.ofString "+") (c := 43) (by decide +kernel) (by decide)
          al5 := by (try dsimp only); rw [z]; exact al_pre w _ h0 h1 p0 p1 (Str.ofString "0") (c := 48) (by decide +kernel) (by decide)
          al6 := by (try dsimp only); rw [z]; exact al_v w _ h0 h1 p0 p1
          al7 := al_spoilt w _ h0 h1 p0 p1
          al8 := by (try dsimp only); rw [z]; exact al_007 w _ h0 h1 p0 p1
          okT := by (try dsimp only); rw [z]; exact hal.ok
          okS := hasc.ok
          okN := by split <;> decide +kernel
          okP := by rw [spoilt_is]; exact (((asc_strI h0).append (asc_lit _ (by decide +kernel))).append (tail_asc (psP_asc p0))).ok
          okB := hbl.ok
          ok0 := by (try dsimp only); rw [z]; exact ((asc_lit _ (by decide +kernel)).append hal).ok
          ok1 := by (try dsimp only); rw [z]; exact ((asc_lit _ (by decide +kernel)).append hal).ok
          ok2 := by (try dsimp only); rw [z]; exact ((asc_lit _ (by decide +kernel)).append hal).ok
          ok3 := by (try dsimp only); rw [z]; exact ((asc_lit _ (by decide +kernel)).append hal).ok
          okL := by
            split
            · next h => exact ((ring_asc (lo3 h) p0).append (asc_lit _ (by decide +kernel))).ok
            · exact (hal.append (asc_lit _ (by decide +kernel))).ok
          co := by (try dsimp only); rw [z]; exact co_ring w h0 h1 p0 p1 a0 a1 b0 b1
          wh := by (try dsimp only); rw [z]; exact wh_ok w (by (clear h1 p1 a0 a1 b0 b1 hti htj hn lo3 z; omega)) (by (clear h0 p0 a0 a1 b0 b1 hti htj hn lo3 z; omega)) a0 a1 b0 b1
          hn := hn
          steps := fun i hi => by
            obtain ⟨g0, g1, g2⟩ := steps i (by split at hi <;> (clear h0 h1 p0 p1 a0 a1 b0 b1 hti htj hn lo3 z; omega))
            (try dsimp only)
            have e : sx - 3 * ((i + 1 : Nat) : Int) = sx - 3 * (i : Int) - 3 := by (clear h0 h1 p0 p1 a0 a1 b0 b1 hti htj hn lo3 z hi g0 g1 g2; omega)
            rw [e]
            exact step_ok w g0 g1 p0 p1 a0 a1 b0 b1 g2
          al9 := fun h5 => by
            (try dsimp only)
            have e4 : (((if timesZ sx < 4 then timesZ sx else 4).toNat : Nat) : Int) = timesZ sx := by split <;> omega
            obtain ⟨q1, q2⟩ := times_steps h0 (if timesZ sx < 4 then timesZ sx else 4).toNat (by rw [e4]; (clear h0 h1 p0 p1 a0 a1 b0 b1 hti htj hn lo3 z h5 e4; omega))
            exact al_ring_low w _ q2 (by (clear h0 p0 p1 a0 a1 b0 b1 hti htj hn lo3 z h5 e4 q1 q2; omega)) p0 p1 (by rw [q1, e4]; (clear h0 h1 p0 p1 a0 a1 b0 b1 hti htj hn lo3 z h5 e4 q1 q2; omega))
          okE := by
            (try dsimp only)
            have e4 : (((if timesZ sx < 4 then timesZ sx else 4).toNat : Nat) : Int) ≤ timesZ sx := by split <;> omega
            obtain ⟨q1, q2⟩ := times_steps h0 (if timesZ sx < 4 then timesZ sx else 4).toNat e4
            exact (ring_asc q2 p0).ok }
end Mine
end
theorem PySem.Challenge.cw_ny0075_01_holds : PySem.Challenge.rw_ny0075_01.Holds :=
  Mine.law_plain fun w _ h1 h2 => Mine.draw_ok w h1 h2
