import PyProof.Rows.All
import Wide.All
import OpenK.AllK
import Wide.FinOn
import Lean
import PySem.Challenge.RW_ez0045_01
set_option Elab.async false
set_option maxRecDepth 100000
set_option linter.unusedVariables false

section PartMH0
open PySem PySem.W PyProof.Rows PySem.Calls
namespace Mine

/-! ## What is shown only of a stack that holds the claim's caller -/
def hasC (st : List (Code × Pos)) : Bool := st.any fun c => c.1.isCaller
def wpH {α : Type} (M : Model) (A : Around) (t : Sem α) (Q : α → Shared → Prop) (E : Value → Shared → Prop) (s : Shared) : Prop :=
  ∀ Γ p, Γ.In A → hasC ((Γ.code, p) :: Γ.below) = true → Sem.wp M Γ t (fun a _ s' => Q a s') (fun e _ s' => E e s') p s
def codeH (M : Model) (A : Around) (c : Code) (R : Result → Shared → Prop) (s : Shared) : Prop :=
  ∀ Γ p, Γ.code = c → Γ.Below A → hasC Γ.below = true → wpCode M Γ R p s
theorem hasC_pos {c : Code} {p p' : Pos} {l : List (Code × Pos)} (h : hasC ((c, p) :: l) = true) : hasC ((c, p') :: l) = true := h
theorem hasC_cons {c : Code} {p : Pos} {l : List (Code × Pos)} (h : hasC l = true) : hasC ((c, p) :: l) = true := by
  unfold hasC at h ⊢
  rw [List.any_cons, h, Bool.or_true]

section
variable {α β : Type} {M : Model} {A : Around} {E : Value → Shared → Prop} {s : Shared}
theorem wpH_of {t : Sem α} {Q : α → Shared → Prop} (h : wpAny M A t Q E s) : wpH M A t Q E s := fun Γ p hΓ _ => h Γ p hΓ
theorem codeH_of {c : Code} {R : Result → Shared → Prop} (h : codeAny M A c R s) : codeH M A c R s := fun Γ p hc hΓ _ => h Γ p hc hΓ
theorem wpH_pure {a : α} {Q : α → Shared → Prop} (h : Q a s) : wpH M A (pure a) Q E s := fun _ _ _ _ => h
theorem wpH_mono {t : Sem α} {Q Q' : α → Shared → Prop} {E' : Value → Shared → Prop} (h : wpH M A t Q E s) (hQ : ∀ a s, Q a s → Q' a s) (hE : ∀ e s, E e s → E' e s) : wpH M A t Q' E' s :=
  fun Γ p hΓ hc => Sem.wp_mono M Γ t (fun a _ s => hQ a s) (fun e _ s => hE e s) p s (h Γ p hΓ hc)
theorem wpH_bind {m : Sem α} {f : α → Sem β} {Q : β → Shared → Prop} (h : wpH M A m (fun a s' => wpH M A (f a) Q E s') E s) : wpH M A (m >>= f) Q E s := fun Γ p hΓ hc => by
  rw [Sem.wp_bind']
  exact Sem.wp_mono M Γ m (fun a p' s' h' => h' Γ p' hΓ (hasC_pos hc)) (fun _ _ _ h' => h') p s (h Γ p hΓ hc)
theorem wpH_bindA {m : Sem α} {f : α → Sem β} {Q : β → Shared → Prop} (h : wpAny M A m (fun a s' => wpH M A (f a) Q E s') E s) : wpH M A (m >>= f) Q E s := wpH_bind (wpH_of h)
theorem wpH_onRaise {m : Sem α} {k : Value → Sem Unit} {Q : α → Shared → Prop} (h : wpH M A m Q (fun e s' => wpH M A (k e) (fun _ s'' => E e s'') E s') s) : wpH M A (m.onRaise k) Q E s := fun Γ p hΓ hc => by
  rw [Sem.wp_onRaise]
  exact Sem.wp_mono M Γ m (fun _ _ _ h' => h') (fun e p' s' h' => h' Γ p' hΓ (hasC_pos hc)) p s (h Γ p hΓ hc)
theorem wpH_attempt {m : Sem α} {Q : Except Value α → Shared → Prop} (h : wpH M A m (fun a => Q (.ok a)) (fun e => Q (.error e)) s) : wpH M A m.attempt Q E s :=
  fun Γ p hΓ hc => by rw [Sem.wp_attempt]; exact h Γ p hΓ hc
theorem wpH_holding {vs : List Value} {m : Sem α} {Q : α → Shared → Prop} (h : wpH M A m Q E s) : wpH M A (holding vs m) Q E s := fun Γ p hΓ hc => by rw [Sem.wp_holding]; exact h Γ p hΓ hc
theorem wpH_standAt {pos : Pos} {Q : Unit → Shared → Prop} (h : Q () s) : wpH M A (standAt pos) Q E s := wpH_of (wpAny_standAt h)
theorem wpH_of_eq {t u : Sem α} {Q : α → Shared → Prop} (e : t = u) (h : wpH M A u Q E s) : wpH M A t Q E s := e ▸ h
theorem wpH_stack {Q : List (Code × Pos) → Shared → Prop} (h : ∀ st, hasC st = true → Q st s) : wpH M A stack Q E s := fun Γ p _ hc => h _ hc
theorem wpH_runValue {c : Code} {Q : Value → Shared → Prop} (hc : codeH M A c (fun r s' => match r with | .ok (.ret v) => Q v s' | .ok _ => False | .error e => E e s') s) : wpH M A (runValue c) Q E s :=
  fun Γ p hΓ hC => by rw [Sem.wp_runValue]; exact hc _ p rfl (hΓ.enter c none p (by intro x; cases x)) hC
theorem wpH_call {f : Value} {pos : List Value} {kw : List (Str × Value)} {Q : Value → Shared → Prop}
    (hc : codeH M A (.call f ⟨pos, kw⟩) (fun r s' => match r with | .ok (.ret v) => Q v s' | .ok _ => False | .error e => E e s') s) : wpH M A (call f pos kw) Q E s := wpH_runValue hc
theorem wpH_run {c : Code} {h : Option Value} {Q : Flow → Shared → Prop} (hc : codeH M (A.mark h) c (fun r s' => match r with | .ok f => Q f s' | .error e => E e s') s) (hnb : h ≠ some byPass := by intro x; cases x) :
    wpH M A (run c h) Q E s := fun Γ p hΓ hC => by rw [Sem.wp_run]; exact hc _ p rfl (hΓ.enter c h p hnb) hC
theorem codeH_of_tree {c : Code} {R : Result → Shared → Prop}
    (h : wpH M (A.under c) (M.den c) (fun fin s' => match fin with | .done f => R (.ok f) s' | .again c' => c'.quiet = true ∧ codeH M A c' R s') (fun e s' => R (.error e) s') s) : codeH M A c R s := fun Γ p hc hΓ hC => by
  rw [wpCode_iff_wp, hc]
  refine Sem.wp_mono M Γ _ (fun fin p' s' h' => ?_) (fun _ _ _ h' => h') p s (h Γ p (hc ▸ hΓ.in) (hasC_cons hC))
  cases fin with
  | done f => exact h'
  | again c' => exact ⟨h'.1, h'.2 (Γ.goto c') p' rfl (hΓ.goto c') hC⟩
end

/-! ## The head: a run under the claim's caller is all that a row asks for -/
def gT {α : Type} (t : Sem α) (x : α) : Sem α := stack >>= fun st => if hasC st = true then t else pure x
theorem wp_gT {α : Type} {M : Model} {Γ : Ctx} {t : Sem α} {x : α} {Q : α → Pos → Shared → Prop} {E : Value → Pos → Shared → Prop} {p : Pos} {s : Shared} :
    Sem.wp M Γ (gT t x) Q E p s = Sem.wp M Γ (if hasC ((Γ.code, p) :: Γ.below) = true then t else pure x) Q E p s := by
  unfold gT
  rw [Sem.wp_bind']
  show Sem.wp M Γ (.stack .pure) _ _ p s = _
  rw [Sem.wp_stack]
  rfl

theorem stub_step {p : Program} {w : World} {t : Sem Fin} {x : Fin} {s s' : Shared} {n : Nat} {o : Outcome} (hz : s.asleep)
    (h : schedN (denote table) p w n (.single s ⟨gT t x, .builtin "claim.caller" {}, default, []⟩) = .halted o s') :
    schedN (denote table) p w (n - 1) (.single s ⟨t, .builtin "claim.caller" {}, default, []⟩) = .halted o s' := by
  cases n with
  | zero => cases h
  | succ n =>
    have hc : (⟨gT t x, .builtin "claim.caller" {}, default, []⟩ : Thread).calm = true := rfl
    have hs : step (denote table) p w s ⟨gT t x, .builtin "claim.caller" {}, default, []⟩ = .go s ⟨t, .builtin "claim.caller" {}, default, []⟩ := by
      obtain ⟨hp, g, d, tk, os⟩ := s
      rfl
    rcases sstep_single (denote table) p w s _ hc hz with e | e
    · rw [hs] at e
      rw [schedN, e] at h
      exact h
    · rw [hs] at e
      cases e

theorem callFrom_stub {c : ClaimW} {w : World} {free : Addr → Prop} {gens : Prop} {kept : Heap → Prop} {s₀ : Shared} {tree : List Value → Sem Fin} {x : Fin} (hz : s₀.asleep)
    (h : c.CallFrom (fun vs => ⟨gT (tree vs) x, .builtin "claim.caller" {}, default, []⟩) w free gens kept s₀) : c.CallFrom (fun vs => ⟨tree vs, .builtin "claim.caller" {}, default, []⟩) w free gens kept s₀ := by
  intro args hpre hlay ord hord
  obtain ⟨vs, s₁, hlaid, n, o, s', hn, r⟩ := h args hpre hlay ord hord
  have hal := layAllW_rest _ _ _ hlaid
  exact ⟨vs, s₁, hlaid, n - 1, o, s', stub_step (Shared.asleep_of_life hal.2.2.2 hz) hn, r⟩
theorem holdsOpen_stub {c : ClaimW} {defs keeps : List Str} {writes : Bool} {tree : List Value → Sem Fin} {x : Fin}
    (h : c.HoldsOpenBy (fun vs => ⟨gT (tree vs) x, .builtin "claim.caller" {}, default, []⟩) defs keeps writes) : c.HoldsOpenBy (fun vs => ⟨tree vs, .builtin "claim.caller" {}, default, []⟩) defs keeps writes := by
  obtain ⟨h1, h2, h3⟩ := h
  refine ⟨h1, h2, fun w => ⟨(h3 w).1, fun s hs => ?_⟩⟩
  obtain ⟨s₀, hf, hg, s₁, hT, r1, r2, r3, hc⟩ := (h3 w).2 s hs
  have A : AfterImport (opening c.prog) w s := hs
  exact ⟨s₀, hf, hg, s₁, hT, r1, r2, r3, callFrom_stub (Shared.asleep_of_life (hT.2.1.trans (fence_lifeW hf)) A.life) hc⟩

/-- the walk that my head asks for: of stacks under the claim's caller alone -/
abbrev WalkH (q : Program) (loose : List Str) (XP : (Str → Option Value) → Heap → Prop) (YP : World → Heap → Prop) (r : RowW) (d : DefRec) (kwd : List (Str × Expr)) (run : Value → List Value → Sem Value) : Prop :=
  ∀ (w : World) (s₀ s₁ : Shared) (mg mb : Str → Option Value), Ground q loose r.records XP w s₀ mg mb s₁.heap → YP w s₁.heap → ∀ (a : Addr) (o : Obj) (pm cd doc dV kV : Value), s₁.heap.get? a = some o →
    o.data = .func { docDef d.name d.params d.body d.scope pm cd doc with defaults := dV, kwdefaults := kV } → s₁.heap.CodeRec cd d.name → Dflts mg s₁.heap d.params kwd dV kV → mg d.name = some (.ref a) → s₁.gens = #[] →
    ∀ (args : List WData) (vals : List Value) (as : List Addr), r.claim.pre args = true → WData.layableAll args = true → ReadsAllW r.records (classAt s₀.heap) s₁.heap vals args as → WellAll w.params s₁.heap vals args → (∀ a ∈ as, (a == sysModules) = false) →
      ((∀ cls, r.claim.raises args cls = false) ∧ r.claim.post args (.bool true) args = true ∧ (r.claim.unshared = true → ([] : List Addr).Nodup)) ∧
      wpH (model r.prog w) callerA (run (.ref a) vals) (fun v s' => GoodWG r.claim (classAt s₀.heap) (ExcName.means s₀.heap) args s₁ (.ok (.ret v)) s')
        (fun e s' => GoodWG r.claim (classAt s₀.heap) (ExcName.means s₀.heap) args s₁ (.error e) s') s₁

/-- the kit's head for an open row, but with a walk of that kind; the name inside this namespace is the one that the kit's tactic asks for -/
theorem PySem.W.holds_open {r : OpenRow} {q : Program} {loose : List Str} {Xt : Shared → Bool} {XP : (Str → Option Value) → Heap → Prop} {α : Type} {Yf : Shared → α} {Ya : World → α} {YP : World → Heap → Prop} {d : DefRec} {kwd : List (Str × Expr)} {N : Nat}
    (left : LeftO r.prog q loose Xt Yf Ya N) (hY : ∀ w s, Yf s = Ya w → YP w s.heap) (hYk : ∀ w h h', YP w h → (∀ b o, h.get? b = some o → h'.get? b = some o) → YP w h')
    (hX : ∀ s, Xt s = true → XP (s.heap.nsMap mainGlobals) s.heap) (hXk : ∀ mg h h', XP mg h → (∀ b o, h.get? b = some o → h'.get? b = some o) → XP mg h')
    (hdef : defOf q r.name = some (d, kwd)) (hp : r.prog.theDef r.name = some (d.params, d.body, d.scope)) (hk : kwWritten? d.params.kwonlyargs d.params.kw_defaults = some kwd) (hRf : ∀ s, Xt s = true → RecFacts r.records s.heap) (hwr : (!r.writes || r.records.isEmpty) = true)
    (k1 : r.wellSaid = true) (ok : (chainsOk q && opensWell r.prog && (frees r.toRowW && r.within.isEmpty)) = true) (hb : r.prog.bare) (hw : r.toRowW.promised)
    (call : WalkH q loose XP YP r.toRowW d kwd fun f vs => _root_.PySem.call f vs) : r.Holds := by
  refine ⟨k1, hw, holdsOpen_stub (x := .done (.ret (.bool true))) (open_anyG (r := r.toRowW) (run := fun f vs => gT (_root_.PySem.call f vs) (.bool true)) (tree := fun vs => gT (do match ← nsGet mainNs r.name with
      | some f => do ret (← _root_.PySem.call f vs)
      | none => unsupported "claim.caller:no-such-global") (.done (.ret (.bool true)))) left hY hYk hX hXk hRf hwr ok hb hw
    (fun vs w s mg f Q E hg hf h => ?_)
    (fun w s hg G n hn => ?_) fun w s₀ s₁ mg mb G Y args vs as hpre hlay L low => ?_)⟩
  · intro Γ p hΓ
    have h' := h Γ p hΓ
    rw [wp_gT] at h' ⊢
    by_cases hc : hasC ((Γ.code, p) :: Γ.below) = true
    · rw [if_pos hc] at h' ⊢
      rw [Sem.wp_bind']
      have e := Sem.wp_nsGet (model r.prog w) Γ (fun e _ s' => E e s') p s hg r.name
      show Sem.wp (model r.prog w) Γ (nsGet mainGlobals r.name) _ _ p s
      rw [e, hf]
      dsimp only
      rw [Sem.wp_bind']
      exact h'
    · rw [if_neg hc] at h' ⊢
      exact h'
  · obtain rfl : n = r.name := by split at hn <;> simp_all
    exact pinned_of_view hg G hdef hp hk
  · obtain ⟨a, o, pm, cd, doc, dV, kV, h1, h2, h3, h4, h5⟩ := G.fn hdef
    obtain ⟨⟨g1, g2, g3⟩, hcall⟩ := call w s₀ s₁ mg mb G Y a o pm cd doc dV kV h2 h3 h4 h5 (defOf_name hdef ▸ h1) L.gens args vs as hpre hlay L.reads L.well (L.low low)
    refine ⟨.ref a, h1, fun Γ p hΓ => ?_⟩
    rw [wp_gT]
    by_cases hc : hasC ((Γ.code, p) :: Γ.below) = true
    · rw [if_pos hc]
      exact hcall Γ p hΓ hc
    · rw [if_neg hc]
      show GoodWG _ _ _ _ _ _ _
      exact ⟨.inl ⟨_, .bool true, [], rfl, g1, .bool true, g2, fun hu => ⟨g3 hu, nofun⟩⟩, OldK.refl _, rfl, .of_eq L.gens⟩
end Mine

end PartMH0

section PartMHead
open PySem PySem.W PyProof.Rows
namespace Mine
set_option maxRecDepth 100000 in
set_option maxHeartbeats 8000000 in
open_top hd for PySem.Challenge.rw_ez0045_01
end Mine

end PartMHead

section PartMBase

open PySem PySem.W PyProof.Rows PySem.Calls
namespace Mine

/-! ## Entering a def of the text -/
section
variable {prog : Program} {w : World} {A : Around} {E : Value → Shared → Prop} {s : Shared} {Q : Value → Shared → Prop}
  {name qual : Str} {params : Arguments} {body : List Stmt} {scope : Scope} {dV kV doc pm cdv ct : Value} {an : Option Addr} {fo : Obj} {f : Addr} {args : List Value} {binds : List (Str × Value)}

theorem callF (hroom : A.depth < recursionLimit) (ho : s.heap.get? f = some fo) (hd : fo.data = .func (fnX name qual params body scope [] dV kV doc pm an cdv ct)) (hlim : s.heap.NoLimit) (hcd : s.heap.CodeRec cdv qual)
    (hbind : BindsTo s (fnX name qual params body scope [] dV kV doc pm an cdv ct) ⟨args, []⟩ binds) (hloc : ∀ y ∈ binds, scope.names.lookup y.1 = some .local)
    (hcell : ∀ x ∈ scope.names, x.2 ≠ .cell) (hco : scope.isCoroutine = false) (hgen : scope.isGenerator = false) (hk : scope.kind = .function)
    (h : ∀ L h₁ tk, Fr s.heap L h₁ (fun y => binds.reverse.lookup y) → News s.heap L h₁ [] →
      wpAny (model prog w) (A.deeper (envX qual scope L f cdv [])) (execs body (envX qual scope L f cdv []))
        (fun fl s' => Q (match fl with | .ret v => v | _ => .none) s') (fun _ _ => False) { s with heap := h₁, toks := tk }) :
    wpAny (model prog w) A (call (.ref f) args) Q E s := by
  refine wpAny_call (codeAny_call_def (fd := fnX name qual params body scope [] dV kV doc pm an cdv ct) (body := body) (binds := binds) hroom ho hd hlim hcd rfl hbind hcell hloc (fun h₁ hns hk₁ => ?_) hco hgen hk)
  exact wpAny_mono (h s.heap.objs.size h₁ _ ⟨hns, hk₁, Nat.le_refl _⟩ News.nil) (fun _ _ x => x) fun _ _ x => x.elim

theorem callC (hroom : A.depth < recursionLimit) (ho : s.heap.get? f = some fo) (hd : fo.data = .func (fnX name qual params body scope [] dV kV doc pm an cdv ct)) (hlim : s.heap.NoLimit) (hcd : s.heap.CodeRec cdv qual)
    (hbind : BindsTo s (fnX name qual params body scope [] dV kV doc pm an cdv ct) ⟨args, []⟩ binds)
    (hkind : (binds.all fun y => scope.names.lookup y.1 == some .local || scope.names.lookup y.1 == some .cell) = true)
    (hnd : ((cellsFrom 0 scope.names []).map (·.1)).Nodup)
    (hco : scope.isCoroutine = false) (hgen : scope.isGenerator = false) (hk : scope.kind = .function)
    (h : ∀ L h₁ tk cells, Fr s.heap L h₁ (bindL (envOfC qual scope L f cdv).kindOf binds fun _ => none) → News s.heap L h₁ cells →
      CellsAre (bindC (envOfC qual scope L f cdv).kindOf binds fun _ => none) (cellsFrom (L + 1) scope.names []) cells →
      wpAny (model prog w) (A.deeper (envOfC qual scope L f cdv)) (execs body (envOfC qual scope L f cdv))
        (fun fl s' => Q (match fl with | .ret v => v | _ => .none) s') (fun _ _ => False) { s with heap := h₁, toks := tk }) :
    wpAny (model prog w) A (call (.ref f) args) Q E s := by
  refine wpAny_call (codeAny_call_function hroom ho hd hco hgen rfl hcd (hbind _ _ _ _ ?_))
  refine wpAny_newFunctionEnv_cells hk (kindsX hkind _) fun env' he s' x => ?_
  subst he
  refine ⟨hlim.keeps x.toInCall.keep, codeAny_func ?_⟩
  obtain ⟨h₁, tk, rfl, _⟩ := x.done
  have hk₁ := x.toInCall.keep
  obtain ⟨cells, NC, Y⟩ := Cl.news (h₀ := s.heap) (Nat.le_refl _) fun n c hm => ⟨x.cell n c (lookup_of_mem_nodup (cellsFrom_names scope.names 0 (s.heap.objs.size + 1) [] [] rfl ▸ hnd) hm), x.above n c hm⟩
  exact wpAny_mono (h s.heap.objs.size h₁ tk cells ⟨x.toInCall.ns, hk₁, Nat.le_refl _⟩ NC Y) (fun _ _ x => x) fun _ _ x => x.elim

theorem callC' (cl : Addr → List (Str × Addr)) (m cm : Str → Option Value) (hroom : A.depth < recursionLimit) (ho : s.heap.get? f = some fo) (hd : fo.data = .func (fnX name qual params body scope [] dV kV doc pm an cdv ct)) (hlim : s.heap.NoLimit) (hcd : s.heap.CodeRec cdv qual)
    (hbind : BindsTo s (fnX name qual params body scope [] dV kV doc pm an cdv ct) ⟨args, []⟩ binds)
    (hkind : (binds.all fun y => scope.names.lookup y.1 == some .local || scope.names.lookup y.1 == some .cell) = true)
    (hnd : ((cellsFrom 0 scope.names []).map (·.1)).Nodup)
    (hco : scope.isCoroutine = false) (hgen : scope.isGenerator = false) (hk : scope.kind = .function)
    (hcl : ∀ L, cellsFrom (L + 1) scope.names [] = cl L) (hm : ∀ L, bindL (envOfC qual scope L f cdv).kindOf binds (fun _ => none) = m) (hcm : ∀ L, bindC (envOfC qual scope L f cdv).kindOf binds (fun _ => none) = cm)
    (h : ∀ L h₁ tk cells, Fr s.heap L h₁ m → News s.heap L h₁ cells → CellsAre cm (cl L) cells →
      wpAny (model prog w) (A.deeper (envX qual scope L f cdv (cl L))) (execs body (envX qual scope L f cdv (cl L)))
        (fun fl s' => Q (match fl with | .ret v => v | _ => .none) s') (fun _ _ => False) { s with heap := h₁, toks := tk }) :
    wpAny (model prog w) A (call (.ref f) args) Q E s := by
  refine callC hroom ho hd hlim hcd hbind hkind hnd hco hgen hk fun L h₁ tk cells F N Y => ?_
  rw [hm L] at F
  rw [hcm L, hcl L] at Y
  have e : envOfC qual scope L f cdv = envX qual scope L f cdv (cl L) := by
    show envX qual scope L f cdv (cellsFrom (L + 1) scope.names []) = _
    rw [hcl L]
  rw [e]
  exact h L h₁ tk cells F N Y
end

/-- the surroundings of a call: nothing handled, room for n more levels -/
structure Am (n : Nat) (A : Around) : Prop where
  hd : A.handled = none
  dp : A.depth + n < recursionLimit
  un : A.units + 20 * n < cLine
  gd : A.guards = some []
theorem Am.deeper {n : Nat} {A : Around} (h : Am (n + 1) A) (env : Env) : Am n (A.deeper env) :=
  ⟨h.hd, by have := h.dp; show A.depth + 1 + n < _; omega, by have := h.un; show A.units + 3 + 20 * n < _; omega, h.gd⟩
theorem Am.in1 {n : Nat} {A : Around} (h : Am (n + 1) A) : Am n A.in1 :=
  ⟨h.hd, by have := h.dp; show A.depth + n < _; omega, by have := h.un; show A.units + 1 + 20 * n < _; omega, h.gd⟩
theorem Am.less {n m : Nat} {A : Around} (h : Am n A) (hm : m ≤ n) : Am m A :=
  ⟨h.hd, by have := h.dp; omega, by have := h.un; omega, h.gd⟩
theorem Am.room {n : Nat} {A : Around} (h : Am n A) : A.depth < recursionLimit := by have := h.dp; omega

/-! ## Trees -/
inductive Leaf where
  | none
  | int (i : Int)
  | str (x : Str)
inductive Cont (α : Type) where
  | leaf (l : Leaf)
  | list (xs : List α)
  | dict (kvs : List (Str × α))
def J : Nat → Type
  | 0 => Empty
  | n + 1 => Cont (J n)

def LeafOk : Leaf → Prop
  | .none => True
  | .int i => -100 ≤ i ∧ i < 2900
  | .str x => x.cps.size ≤ 13 ∧ ∀ c ∈ x.cps.toList, c ≠ 46
def LeafIs (v : Value) : Leaf → Prop
  | .none => v = .none
  | .int i => ∃ t, v = .int i t
  | .str x => ∃ t, v = .str x t

abbrev Rl (α : Type) := Heap → Value → α → Prop
def Mono {α : Type} (R : Rl α) : Prop := ∀ h h' v x, (∀ b o, h.get? b = some o → h'.get? b = some o) → R h v x → R h' v x
abbrev prog : Program := PySem.Challenge.rw_ez0045_01.row.prog

def ContIs (w : World) {α : Type} (R : Rl α) : Rl (Cont α) := fun h v x => match x with
  | .leaf l => LeafIs v l ∧ LeafOk l
  | .list xs => xs.length ≤ 3 ∧ ∃ a vs, v = .ref a ∧ h.IsList a (List.toArray vs) ∧ Paired (R h) vs xs
  | .dict kvs => kvs.length ≤ 3 ∧ (∀ p ∈ kvs, p.1.cps.size ≤ 6) ∧ ∃ a es, v = .ref a ∧ (a == sysModules) = false ∧ h.DictOf (strKind prog w) a es ∧ Paired (fun (e : Str × Value) (p : Str × α) => e.1 = p.1 ∧ R h e.2 p.2) es kvs
def Is (w : World) : (n : Nat) → Rl (J n)
  | 0 => fun _ _ x => x.elim
  | n + 1 => ContIs w (Is w n)

theorem isList_keeps {h h' : Heap} {a : Addr} {vs : Array Value} (x : h.IsList a vs) (k : ∀ b o, h.get? b = some o → h'.get? b = some o) : h'.IsList a vs := let ⟨o, ho, r⟩ := x; ⟨o, k a o ho, r⟩
theorem dictOf_keeps {w : World} {h h' : Heap} {a : Addr} {es : List (Str × Value)} (x : h.DictOf (strKind prog w) a es) (k : ∀ b o, h.get? b = some o → h'.get? b = some o) : h'.DictOf (strKind prog w) a es :=
  let ⟨o, es, ep, ho, r⟩ := x; ⟨o, es, ep, k a o ho, r⟩
theorem mono_cont {w : World} {α : Type} {R : Rl α} (hR : Mono R) : Mono (ContIs w R) := by
  intro h h' v x k hx
  cases x with
  | leaf l => exact hx
  | list xs =>
    obtain ⟨hl, a, vs, rfl, hv, hp⟩ := hx
    exact ⟨hl, a, vs, rfl, isList_keeps hv k, hp.mono fun u y => hR h h' u y k⟩
  | dict kvs =>
    obtain ⟨hl, hk, a, es, rfl, hs, hv, hp⟩ := hx
    exact ⟨hl, hk, a, es, rfl, hs, dictOf_keeps hv k, hp.mono fun e p he => ⟨he.1, hR h h' _ _ k he.2⟩⟩
theorem mono_is (w : World) : ∀ n, Mono (Is w n)
  | 0 => fun _ _ _ x => x.elim
  | n + 1 => mono_cont (mono_is w n)

/-! ## What the functions reckon -/
def txt (i : Int) : Str := Str.ofString (toString i)
def leafW : Leaf → Int
  | .none => 1
  | .int i => (txt i).length
  | .str x => x.length
def wtC {α : Type} (f : α → Int) : Cont α → Int
  | .leaf l => leafW l
  | .list xs => (xs.map f).sum
  | .dict kvs => (kvs.map fun p => (p.1.length : Int) + f p.2).sum
def wt : (n : Nat) → J n → Int
  | 0 => fun x => x.elim
  | n + 1 => wtC (wt n)

/-- what stands at the top: the written part and the names -/
structure Gd (w : World) (p : Program) (loose : List Str) (mean : ExcName → Option Value) (mg mb : Str → Option Value) (h : Heap) : Prop where
  X : (Mine.hd.heap_39 w.params).In h
  T : Top p loose mean mg mb h
theorem Gd.keeps {w : World} {p : Program} {loose : List Str} {mean : ExcName → Option Value} {mg mb : Str → Option Value} {h h' : Heap} (G : Gd w p loose mean mg mb h)
    (k : ∀ b o, h.get? b = some o → h'.get? b = some o) : Gd w p loose mean mg mb h' := ⟨G.X.keeps k, G.T.keeps k⟩

/-! ## Halting the walk; names inside a comprehension -/
def Stop (P : Prop) : Prop := P
theorem stop_ {P : Prop} (h : Stop P) : P := h
theorem go_ {P : Prop} (h : P) : Stop P := h
section
variable {w : World} {p : Program} {loose : List Str} {mean : ExcName → Option Value} {mg mb : Str → Option Value} {M : Model} {A : Around} {E : Value → Shared → Prop} {s : Shared} {C c : Addr} {m : Str → Option Value}
  {scope : Scope} {cl : List (Str × Addr)} {env : Env} {x : Str} {pos : Pos} {v : Value} {Q : Value → Shared → Prop}
theorem cname_L (hn : s.heap.Ns C m) (hx : m x = some v) (h : Q v s) (hk : (compEnvC scope cl C env).scope.kind = .function) (hl : (compEnvC scope cl C env).kindOf x = some .local) (hd : (x == ("__debug__" : Str)) = false) :
    wpAny M A (eval (.Name x pos) (compEnvC scope cl C env)) Q E s := ldVarK hn hx h hk hl hd
theorem cname_C (hc : cl.lookup x = some c) (hi : s.heap.IsCell c (some v)) (h : Q v s) (hk : (compEnvC scope cl C env).scope.kind = .function) (hl : (compEnvC scope cl C env).kindOf x = some .cell) (hd : (x == ("__debug__" : Str)) = false) :
    wpAny M A (eval (.Name x pos) (compEnvC scope cl C env)) Q E s := wpAny_Name (wpAny_loadName_cell hk hl hc hi h) hd
theorem cname_K (G : Gd w p loose mean mg mb s.heap) (e : nsIn (Mine.hd.heap_39 w.params) mainGlobals x = some (some v)) (h : Q v s) (hg : env.globals = mainGlobals)
    (hk : (compEnvC scope cl C env).scope.kind = .function) (hx : (compEnvC scope cl C env).kindOf x = some .globalImplicit) (hd : (x == ("__debug__" : Str)) = false) :
    wpAny M A (eval (.Name x pos) (compEnvC scope cl C env)) Q E s :=
  Name_function_global hk hx (loadGlobal_global (env := compEnvC scope cl C env) (show s.heap.Ns env.globals mg from hg ▸ G.T.g) (mg_of G.X G.T.g e) h) hd
theorem cname_B (G : Gd w p loose mean mg mb s.heap) (e : nsIn (Mine.hd.heap_39 w.params) mainGlobals x = some none) (hv : bootBuiltins x = some v) (hn : x ≠ "__name__") (h : Q v s) (hg : env.globals = mainGlobals) (hb : env.builtins = builtinsNs)
    (hk : (compEnvC scope cl C env).scope.kind = .function) (hx : (compEnvC scope cl C env).kindOf x = some .globalImplicit) (hd : (x == ("__debug__" : Str)) = false) :
    wpAny M A (eval (.Name x pos) (compEnvC scope cl C env)) Q E s :=
  Name_function_global hk hx (loadGlobal_builtin (env := compEnvC scope cl C env) (show s.heap.Ns env.globals mg from hg ▸ G.T.g) (mg_none_of G.X G.T.g e) (show s.heap.Ns env.builtins mb from hb ▸ G.T.b) ((G.T.builtins x hn).trans hv) h) hd
end
end Mine

end PartMBase

section PartMComp
open PySem PySem.W PyProof.Rows PySem.Calls
namespace Mine

/-! ## Pairs -/
theorem Paired.at' {α β : Type} {F : α → β → Prop} : ∀ {l₁ : List α} {l₂ : List β}, Paired F l₁ l₂ → ∀ (i : Nat) (a : α), l₁[i]? = some a → ∃ b, l₂[i]? = some b ∧ F a b
  | _, _, .nil, i, a, h => by simp at h
  | _, _, .cons h t, 0, a, e => by simp at e; subst e; exact ⟨_, rfl, h⟩
  | _, _, .cons h t, i + 1, a, e => by
    obtain ⟨b, hb, hF⟩ := Paired.at' t i a (by simpa using e)
    exact ⟨b, by simpa using hb, hF⟩
theorem paired_of {α β : Type} {F : α → β → Prop} : ∀ {l₁ : List α} {l₂ : List β}, l₁.length = l₂.length → (∀ (i : Nat) (a : α) (b : β), l₁[i]? = some a → l₂[i]? = some b → F a b) → Paired F l₁ l₂
  | [], [], _, _ => .nil
  | [], _ :: _, h, _ => by simp at h
  | _ :: _, [], h, _ => by simp at h
  | a :: l₁, b :: l₂, h, k => .cons (k 0 a b rfl rfl) (paired_of (by simpa using h) fun i x y e1 e2 => k (i + 1) x y (by simpa using e1) (by simpa using e2))
theorem Paired.swap {α β : Type} {F : α → β → Prop} : ∀ {l₁ : List α} {l₂ : List β}, Paired F l₁ l₂ → Paired (fun b a => F a b) l₂ l₁
  | _, _, .nil => .nil
  | _, _, .cons h t => .cons h (Paired.swap t)

def Fun {α : Type} (R : Rl α) : Prop := ∀ h v x y, R h v x → R h v y → x = y
theorem paired_fun {α β : Type} {F : α → β → Prop} (hF : ∀ a x y, F a x → F a y → x = y) : ∀ {l : List α} {xs ys : List β}, Paired F l xs → Paired F l ys → xs = ys
  | _, _, _, .nil, .nil => rfl
  | _, _, _, .cons h t, .cons h' t' => by rw [hF _ _ _ h h', paired_fun hF t t']
theorem leafIs_fun {v : Value} : ∀ {l l' : Leaf}, LeafIs v l → LeafIs v l' → l = l'
  | .none, .none, _, _ => rfl
  | .int _, .int _, ⟨_, h⟩, ⟨_, h'⟩ => by rw [h] at h'; cases h'; rfl
  | .str _, .str _, ⟨_, h⟩, ⟨_, h'⟩ => by rw [h] at h'; cases h'; rfl
  | .none, .int _, h, ⟨_, h'⟩ => by have h : v = .none := h; rw [h] at h'; cases h'
  | .none, .str _, h, ⟨_, h'⟩ => by have h : v = .none := h; rw [h] at h'; cases h'
  | .int _, .none, ⟨_, h'⟩, h => by have h : v = .none := h; rw [h] at h'; cases h'
  | .str _, .none, ⟨_, h'⟩, h => by have h : v = .none := h; rw [h] at h'; cases h'
  | .int _, .str _, ⟨_, h⟩, ⟨_, h'⟩ => by rw [h] at h'; cases h'
  | .str _, .int _, ⟨_, h⟩, ⟨_, h'⟩ => by rw [h] at h'; cases h'
theorem leafIs_ref {a : Addr} {l : Leaf} (h : LeafIs (.ref a) l) : False := by
  cases l with
  | none => cases h
  | int i => obtain ⟨t, e⟩ := h; cases e
  | str x => obtain ⟨t, e⟩ := h; cases e
theorem isList_fun {h : Heap} {a : Addr} {vs us : Array Value} (x : h.IsList a vs) (y : h.IsList a us) : vs = us := by
  obtain ⟨o, ho, _, n, hd⟩ := x
  obtain ⟨o', ho', _, n', hd'⟩ := y
  rw [ho] at ho'; cases ho'
  rw [hd] at hd'; cases hd'; rfl
theorem pairs_fun {w : World} : ∀ {es : List DictEntry} {kvs kvs' : List (Str × Value)}, Pairs (strKind prog w) es kvs → Pairs (strKind prog w) es kvs' → kvs = kvs'
  | _, _, _, .nil, .nil => rfl
  | _, _, _, .cons (kv := kv) h e t, .cons (kv := kv') h' e' t' => by
    obtain ⟨k, v⟩ := kv
    obtain ⟨k', v'⟩ := kv'
    have e1 := (strKind prog w).inj _ _ _ h h'
    dsimp only at e1 e e'
    rw [e1, ← e, e', pairs_fun t t']
theorem dictOf_fun {w : World} {h : Heap} {a : Addr} {es es' : List (Str × Value)} (x : h.DictOf (strKind prog w) a es) (y : h.DictOf (strKind prog w) a es') : es = es' := by
  obtain ⟨o, ds, ep, ho, _, hd, _, hp, _⟩ := x
  obtain ⟨o', ds', ep', ho', _, hd', _, hp', _⟩ := y
  rw [ho] at ho'; cases ho'
  rw [hd] at hd'; cases hd'
  exact pairs_fun hp hp'
theorem list_not_dict {w : World} {h : Heap} {a : Addr} {vs : Array Value} {es : List (Str × Value)} (x : h.IsList a vs) (y : h.DictOf (strKind prog w) a es) : False := by
  obtain ⟨o, ho, _, n, hd⟩ := x
  obtain ⟨o', ds', ep', ho', _, hd', _⟩ := y
  rw [ho] at ho'; cases ho'
  rw [hd] at hd'; cases hd'
theorem fun_cont {w : World} {α : Type} {R : Rl α} (hR : Fun R) : Fun (ContIs w R) := by
  intro h v x y hx hy
  cases x with
  | leaf l =>
    cases y with
    | leaf l' => rw [leafIs_fun hx.1 hy.1]
    | list ys => obtain ⟨_, a, vs, rfl, _⟩ := hy; exact (leafIs_ref hx.1).elim
    | dict ys => obtain ⟨_, _, a, vs, rfl, _⟩ := hy; exact (leafIs_ref hx.1).elim
  | list xs =>
    obtain ⟨_, a, vs, rfl, hv, hp⟩ := hx
    cases y with
    | leaf l' => exact (leafIs_ref hy.1).elim
    | list ys =>
      obtain ⟨_, a', vs', e, hv', hp'⟩ := hy
      cases e
      have e2 : vs = vs' := by simpa using isList_fun hv hv'
      subst e2
      rw [paired_fun (hR h) hp hp']
    | dict ys => obtain ⟨_, _, a', vs', e, _, hv', _⟩ := hy; cases e; exact (list_not_dict hv hv').elim
  | dict xs =>
    obtain ⟨_, _, a, es, rfl, _, hv, hp⟩ := hx
    cases y with
    | leaf l' => exact (leafIs_ref hy.1).elim
    | list ys => obtain ⟨_, a', vs', e, hv', _⟩ := hy; cases e; exact (list_not_dict hv' hv).elim
    | dict ys =>
      obtain ⟨_, _, a', es', e, _, hv', hp'⟩ := hy
      cases e
      have e2 := dictOf_fun hv hv'
      subst e2
      rw [paired_fun (fun e x y h1 h2 => Prod.ext (h1.1.symm.trans h2.1) (hR h _ _ _ h1.2 h2.2)) hp hp']
theorem fun_is (w : World) : ∀ n, Fun (Is w n)
  | 0 => fun _ _ x => x.elim
  | n + 1 => fun_cont (fun_is w n)

theorem valueAt_mem {es : List (Str × Value)} (hn : (es.map (·.1)).Nodup) {k : Str} {v : Value} (hm : (k, v) ∈ es) : valueAt es k = some v := by
  obtain ⟨i, hi⟩ := List.getElem?_of_mem hm
  exact valueAt_of_get hn hi
theorem item_dict {w : World} {A : Around} {E : Value → Shared → Prop} {s : Shared} {a : Addr} {es : List (Str × Value)} {k : Str} {t : Tok} {v : Value} {value slice : PySem.Expr} {Q : Value → Shared → Prop} (hd : s.heap.DictOf (strKind prog w) a es) (hm : (k, v) ∈ es) (h : Q v { s with toks := s.toks + 1 })
    (hs : subscripted slice false (.ref a) (.str k t) = operate [.ref a, .str k t] (getItem (.ref a) (.str k t))) (hg : ∀ r, letTemporaryGo value (.ref a) r = pure ()) :
    wpAny (model prog w) A (subscriptTail value slice (.ref a) (.str k t)) Q E s := by
  have hn : (es.map (·.1)).Nodup := by obtain ⟨_, hat⟩ := hd.dictAt; exact hat.nodup
  exact subscriptTail_builtin hd.typeIs slot_dict_getitem.lookup (wpAny_getItem_of (strKind_is prog w k t) hd.mapOf (valueAt_mem hn hm) h) hs hg

/-! ## Comprehensions whose elements are reckoned -/
section
variable {w : World} {A : Around} {E : Value → Shared → Prop} {s : Shared} {env : Env} {α : Type} {R : Rl α}

theorem noTests {A : Around} {s : Shared} {E : Value → Shared → Prop} {env : Env} :
    wpAny (model prog w) A (forIn ([] : List Expr) true fun c r => if r = true then do let ok ← isTrue c env (eval c env); pure (ForInStep.yield ok) else pure (ForInStep.yield r)) (fun ok s₄ => ok = true ∧ Keeps s s₄) E s := by
  rw [List.forIn_nil]
  exact wpAny_pure ⟨rfl, s.heap, s.toks, rfl, fun _ _ e => e⟩

theorem comp_listG {h₀ : Heap} {elt iter : Expr} {x : Str} {px : Pos} {scope : Scope} {cl : List (Str × Addr)} {pos : Pos} {Q : Value → Shared → Prop} (G : α → Value → Prop) (hR : Mono R) (hf : Fun R) (hh : A.handled = none)
    (hclos : closureFor scope env = pure cl) (hcell : ∀ y ∈ scope.names, y.2 ≠ .cell) (hkind : scope.kind = .function)
    (hnames : ∀ y ∈ scope.names, y.2 = .local → scope.names.lookup y.1 = some .local) (hx : scope.names.lookup x = some .local)
    (h : wpAny (model prog w) A (eval iter env) (fun xv s₁ => Mine.Stop <| ∃ a vs ys, xv = .ref a ∧ s₁.heap.IsList a (List.toArray vs) ∧ Paired (R h₀) vs ys ∧ vs.length ≤ 4 ∧ (∀ b o, h₀.get? b = some o → s₁.heap.get? b = some o) ∧
      (∀ C s₃ m₃ u y E', s₁.heap.objs.size ≤ C → s₃.heap.Ns C m₃ → m₃ x = some u → R s₃.heap u y → y ∈ ys → (∀ b o, s₁.heap.get? b = some o → s₃.heap.get? b = some o) →
        wpAny (model prog w) A (eval elt (compEnvC scope cl C env)) (fun r s₄ => G y r ∧ Keeps s₃ s₄) E' s₃) ∧
      (∀ D h' tk rs, s₁.heap.get? D = none → h'.IsList D (List.toArray rs) → Paired G ys rs → (∀ b o, s₁.heap.get? b = some o → h'.get? b = some o) → Q (.ref D) { s₁ with heap := h', toks := tk })) E s)
    (hs : ∀ x, foldedSetIterable iter env x = pure x := by intro _; rfl) :
    wpAny (model prog w) A (eval (.ListComp elt [⟨.Name x px, iter, [], 0⟩] scope pos) env) Q E s := by
  refine wpAny_ListComp_free (fun _ => true) (fun u r => ∃ y, R h₀ u y ∧ G y r) hclos hcell hkind hnames hx (wpAny_mono h (fun xv s₁ h₁ => ?_) fun _ _ e => e) hs
  obtain ⟨a, vs, ys, rfl, hv, hp, hlen, hk, helt, hQ⟩ := h₁
  refine wpAny_pyIter_list hv ?_
  have hlt : a < s₁.heap.objs.size := by obtain ⟨o, ho, _⟩ := hv; exact Heap.lt_size ho
  have hne : a ≠ s₁.heap.objs.size := Nat.ne_of_lt hlt
  have keep : ∀ (it : Obj) b o, s₁.heap.get? b = some o → (s₁.heap.push it).get? b = some o := fun it b o e => Heap.get?_push_of_some _ e
  refine ⟨_, _, _, _, _, _, rfl, Walks.list hh s₁.heap.objs.size a hne (List.toArray vs), by rw [List.size_toArray, sizeLine_eq]; omega, ⟨⟨_, Heap.get?_push_size _ rfl, rfl, rfl⟩, isList_keeps hv (keep _)⟩, ?_, ⟨?_, ?_⟩, ?_⟩
  · intro b hb
    show b < (s₁.heap.push _).objs.size
    rw [Heap.size_push]
    rcases List.mem_cons.mp hb with rfl | hb
    · exact Nat.lt_succ_self _
    · rw [List.mem_singleton.mp hb]; exact Nat.lt_succ_of_lt hlt
  · intro C i v s₃ m₃ E' _ _ _ _ _ _
    exact noTests
  · intro C i v s₃ m₃ E' hC hi _ hn hm hk3 _
    have hi' : vs[i]? = some v := by simpa using hi
    obtain ⟨y, hy, hRy⟩ := Paired.at' hp i v hi'
    have k3 : ∀ b o, s₁.heap.get? b = some o → s₃.heap.get? b = some o := fun b o e => hk3 b o (fun hm => by
      have := List.mem_singleton.mp hm
      rw [this] at e; exact absurd (Heap.lt_size e) (Nat.lt_irrefl _)) (keep _ b o e)
    have hC' : s₁.heap.objs.size ≤ C := Nat.le_trans (Nat.le_succ _) (by rw [Heap.size_push] at hC; exact hC)
    refine wpAny_mono (helt C s₃ m₃ v y E' hC' hn hm (hR _ _ _ _ (fun b o e => k3 b o (hk b o e)) hRy) (List.mem_of_getElem? hy) k3) (fun r s₄ h₄ => ?_) fun _ _ e => e
    exact ⟨⟨y, hRy, h₄.1⟩, h₄.2⟩
  · intro D h' tk rs us hD hl _ hlen' hP hF hk'
    have hus : us = vs := by
      apply List.ext_getElem?
      intro i
      have hsz : us.length = vs.length := by simpa using hlen'
      by_cases hi : i < us.length
      · have h1 : us[i]? = some us[i] := List.getElem?_eq_getElem hi
        have h2 := hP i _ h1
        rw [h1]
        simpa using h2.symm
      · rw [List.getElem?_eq_none (by omega), List.getElem?_eq_none (by omega)]
    subst hus
    have hF' : Paired (fun u r => ∃ y, R h₀ u y ∧ G y r) us rs.toList := by rw [List.filter_eq_self.mpr (fun _ _ => rfl)] at hF; exact hF
    have hD' : s₁.heap.get? D = none := by
      cases e : s₁.heap.get? D with
      | none => rfl
      | some o => rw [keep _ D o e] at hD; cases hD
    refine hQ D h' tk rs.toList hD' (by simpa using hl) (paired_of (by rw [← hp.length, hF'.length]) fun i y r e1 e2 => ?_) fun b o e => ?_
    · obtain ⟨u, hu, hRu⟩ := Paired.at' (Paired.swap hp) i y e1
      obtain ⟨r', hr', y', hRy', hG⟩ := Paired.at' hF' i u hu
      rw [e2] at hr'; cases hr'
      rw [hf _ _ _ _ hRu hRy']
      exact hG
    · refine hk' b o (fun hm => ?_) (keep _ b o e)
      rw [List.mem_singleton.mp hm] at e; exact absurd (Heap.lt_size e) (Nat.lt_irrefl _)

theorem comp_list {elt iter : Expr} {x : Str} {px : Pos} {scope : Scope} {cl : List (Str × Addr)} {pos : Pos} {Q : Value → Shared → Prop} (G : α → Value → Prop) (hR : Mono R) (hf : Fun R) (hh : A.handled = none)
    (hclos : closureFor scope env = pure cl) (hcell : ∀ y ∈ scope.names, y.2 ≠ .cell) (hkind : scope.kind = .function)
    (hnames : ∀ y ∈ scope.names, y.2 = .local → scope.names.lookup y.1 = some .local) (hx : scope.names.lookup x = some .local)
    (h : wpAny (model prog w) A (eval iter env) (fun xv s₁ => ∃ a vs ys, xv = .ref a ∧ s₁.heap.IsList a (List.toArray vs) ∧ Paired (R s.heap) vs ys ∧ vs.length ≤ 4 ∧ (∀ b o, s.heap.get? b = some o → s₁.heap.get? b = some o) ∧
      (∀ C s₃ m₃ u y E', s₁.heap.objs.size ≤ C → s₃.heap.Ns C m₃ → m₃ x = some u → R s₃.heap u y → y ∈ ys → (∀ b o, s₁.heap.get? b = some o → s₃.heap.get? b = some o) →
        wpAny (model prog w) A (eval elt (compEnvC scope cl C env)) (fun r s₄ => G y r ∧ Keeps s₃ s₄) E' s₃) ∧
      (∀ D h' tk rs, s₁.heap.get? D = none → h'.IsList D (List.toArray rs) → Paired G ys rs → (∀ b o, s₁.heap.get? b = some o → h'.get? b = some o) → Q (.ref D) { s₁ with heap := h', toks := tk })) E s)
    (hs : ∀ x, foldedSetIterable iter env x = pure x := by intro _; rfl) :
    wpAny (model prog w) A (eval (.ListComp elt [⟨.Name x px, iter, [], 0⟩] scope pos) env) Q E s := by
  exact comp_listG (h₀ := s.heap) G hR hf hh hclos hcell hkind hnames hx h hs

theorem nodup_at {β γ : Type} [DecidableEq β] : ∀ {l : List (β × γ)} {i : Nat} {p q : β × γ}, (l.map (·.1)).Nodup → l[i]? = some p → q ∈ l → q.1 = p.1 → q = p
  | [], i, p, q, _, h, _, _ => by simp at h
  | a :: l, 0, p, q, hn, h, hq, e => by
    have h' : a = p := by simpa using h
    subst h'
    rcases List.mem_cons.mp hq with rfl | hq
    · rfl
    · exact absurd (List.mem_map.mpr ⟨q, hq, e⟩) (List.nodup_cons.mp hn).1
  | a :: l, i + 1, p, q, hn, h, hq, e => by
    have h' : l[i]? = some p := by simpa using h
    rcases List.mem_cons.mp hq with rfl | hq
    · exact absurd (List.mem_map.mpr ⟨p, List.mem_of_getElem? h', e.symm⟩) (List.nodup_cons.mp hn).1
    · exact nodup_at (List.nodup_cons.mp hn).2 h' hq e
theorem paired_keys {β γ δ : Type} {F : β × γ → β × δ → Prop} : ∀ {l : List (β × γ)} {m : List (β × δ)}, Paired (fun e p => e.1 = p.1 ∧ F e p) l m → l.map (·.1) = m.map (·.1)
  | _, _, .nil => rfl
  | _, _, .cons h t => by rw [List.map_cons, List.map_cons, h.1, paired_keys t]

theorem comp_keys {elt iter : Expr} {x : Str} {px : Pos} {scope : Scope} {cl : List (Str × Addr)} {pos : Pos} {Q : Value → Shared → Prop} (G : Str × α → Value → Prop) {a : Addr} {es : List (Str × Value)} {kvs : List (Str × α)} (hR : Mono R) (hh : A.handled = none)
    (hd : s.heap.DictOf (strKind prog w) a es) (hp : Paired (fun (e : Str × Value) (p : Str × α) => e.1 = p.1 ∧ R s.heap e.2 p.2) es kvs) (hsm : (a == sysModules) = false) (hlen : kvs.length ≤ 4)
    (hclos : closureFor scope env = pure cl) (hcell : ∀ y ∈ scope.names, y.2 ≠ .cell) (hkind : scope.kind = .function)
    (hnames : ∀ y ∈ scope.names, y.2 = .local → scope.names.lookup y.1 = some .local) (hx : scope.names.lookup x = some .local)
    (h : wpAny (model prog w) A (eval iter env) (fun xv s₁ => xv = .ref a ∧ (∀ b o, s.heap.get? b = some o → s₁.heap.get? b = some o) ∧
      (∀ C s₃ m₃ t u q E', s₁.heap.objs.size ≤ C → s₃.heap.Ns C m₃ → m₃ x = some (.str q.1 t) → (q.1, u) ∈ es → R s₃.heap u q.2 → q ∈ kvs → (∀ b o, s₁.heap.get? b = some o → s₃.heap.get? b = some o) →
        wpAny (model prog w) A (eval elt (compEnvC scope cl C env)) (fun r s₄ => G q r ∧ Keeps s₃ s₄) E' s₃) ∧
      (∀ D h' tk rs, s₁.heap.get? D = none → h'.IsList D (List.toArray rs) → Paired G kvs rs → (∀ b o, s₁.heap.get? b = some o → h'.get? b = some o) → Q (.ref D) { s₁ with heap := h', toks := tk })) E s)
    (hs : ∀ x, foldedSetIterable iter env x = pure x := by intro _; rfl) :
    wpAny (model prog w) A (eval (.ListComp elt [⟨.Name x px, iter, [], 0⟩] scope pos) env) Q E s := by
  have hnd : (kvs.map (·.1)).Nodup := by
    obtain ⟨_, hat⟩ := hd.dictAt
    rw [← paired_keys hp]
    exact hat.nodup
  refine wpAny_ListComp_free (fun _ => true) (fun u r => ∃ q : Str × α, q ∈ kvs ∧ (∃ t, u = .str q.1 t) ∧ G q r) hclos hcell hkind hnames hx (wpAny_mono h (fun xv s₁ h₁ => ?_) fun _ _ e => e) hs
  obtain ⟨rfl, hk, helt, hQ⟩ := h₁
  obtain ⟨ep, hat₀⟩ := hd.dictAt
  have hat := hat₀.keep hk
  refine wpAny_pyIter_dict hsm hat ?_
  have hlt : a < s₁.heap.objs.size := hat.lt_size
  have hne : a ≠ s₁.heap.objs.size := Nat.ne_of_lt hlt
  have keep : ∀ (it : Obj) b o, s₁.heap.get? b = some o → (s₁.heap.push it).get? b = some o := fun it b o e => Heap.get?_push_of_some _ e
  have hel := hp.length
  refine ⟨_, _, _, _, _, _, rfl, Walks.dictKeys hh s₁.heap.objs.size a hne es ep, by rw [sizeLine_eq]; omega, ⟨⟨_, Heap.get?_push_size _ rfl, rfl, rfl⟩, hat.keep (keep _)⟩, ?_, ⟨?_, ?_⟩, ?_⟩
  · intro b hb
    show b < (s₁.heap.push _).objs.size
    rw [Heap.size_push]
    rcases List.mem_cons.mp hb with rfl | hb
    · exact Nat.lt_succ_self _
    · rw [List.mem_singleton.mp hb]; exact Nat.lt_succ_of_lt hlt
  · intro C i v s₃ m₃ E' _ _ _ _ _ _
    exact noTests
  · intro C i v s₃ m₃ E' hC hi _ hn hm hk3 _
    obtain ⟨k, u, hi', hkv⟩ := hi
    obtain ⟨t, rfl⟩ := Value.isStrOf_shape hkv
    obtain ⟨q, hq, he, hRy⟩ := Paired.at' hp i _ hi'
    have he' : k = q.1 := he
    subst he'
    have k3 : ∀ b o, s₁.heap.get? b = some o → s₃.heap.get? b = some o := fun b o e => hk3 b o (fun hm => by
      have := List.mem_singleton.mp hm
      rw [this] at e; exact absurd (Heap.lt_size e) (Nat.lt_irrefl _)) (keep _ b o e)
    have hC' : s₁.heap.objs.size ≤ C := Nat.le_trans (Nat.le_succ _) (by rw [Heap.size_push] at hC; exact hC)
    refine wpAny_mono (helt C s₃ m₃ t u q E' hC' hn hm (List.mem_of_getElem? hi') (hR _ _ _ _ (fun b o e => k3 b o (hk b o e)) hRy) (List.mem_of_getElem? hq) k3) (fun r s₄ h₄ => ?_) fun _ _ e => e
    exact ⟨⟨q, List.mem_of_getElem? hq, ⟨t, rfl⟩, h₄.1⟩, h₄.2⟩
  · intro D h' tk rs us hD hl _ hlen' hP hF hk'
    have hF' : Paired (fun u r => ∃ q : Str × α, q ∈ kvs ∧ (∃ t, u = .str q.1 t) ∧ G q r) us rs.toList := by rw [List.filter_eq_self.mpr (fun _ _ => rfl)] at hF; exact hF
    have hD' : s₁.heap.get? D = none := by
      cases e : s₁.heap.get? D with
      | none => rfl
      | some o => rw [keep _ D o e] at hD; cases hD
    refine hQ D h' tk rs.toList hD' (by simpa using hl) (paired_of (by rw [← hF'.length, hlen', hel]) fun i q r e1 e2 => ?_) fun b o e => ?_
    · obtain ⟨e', he', hke, _⟩ := Paired.at' (Paired.swap hp) i q e1
      obtain ⟨u, hu, q', hq', ⟨t, rfl⟩, hG⟩ := Paired.at' (Paired.swap hF') i r e2
      obtain ⟨k, z, h1, h2⟩ := hP i _ hu
      rw [he'] at h1
      have h2' : Value.isStrOf k (Value.str q'.1 t) = true := h2
      obtain ⟨t', e3⟩ := Value.isStrOf_shape h2'
      cases e3
      have h3 : q'.1 = q.1 := by
        have : e' = (q'.1, z) := Option.some.inj h1
        rw [← hke, this]
      rw [← nodup_at hnd e1 hq' h3]
      exact hG
    · refine hk' b o (fun hm => ?_) (keep _ b o e)
      rw [List.mem_singleton.mp hm] at e; exact absurd (Heap.lt_size e) (Nat.lt_irrefl _)
end
end Mine

end PartMComp

section PartMWeight
open PySem PySem.W PyProof.Rows PySem.Calls
local macro_rules | `(tactic| walk_at "eval ListComp") => `(tactic| refine Mine.stop_ ?_)
local macro_rules | `(tactic| walk_at "call builtin:len") => `(tactic| ((with_reducible show wpAny _ _ (call (Value.builtin "len") [Value.str _ _]) _ _ _); refine len_str (by assumption) ?_))
local macro_rules | `(tactic| walk_at "subscriptTail") => `(tactic| ((with_reducible show wpAny _ _ (subscriptTail _ _ (Value.ref _) (Value.str _ _)) _ _ _); refine Mine.item_dict (by assumption) (by assumption) ?_ (by with_unfolding_all rfl) (by intro _; with_unfolding_all rfl)))
local macro_rules | `(tactic| walk_at "call ref") => `(tactic| refine Mine.stop_ ?_)
local macro_rules | `(tactic| walk_at "eval Name") => `(tactic| ((with_reducible show wpAny _ _ (eval (Expr.Name _ _) (compEnvC _ _ _ _)) _ _ _); first
  | (refine Mine.cname_L (by assumption) (by assumption) ?_ (by rfl) (by rfl) (by decide))
  | (refine Mine.cname_C (by rfl) (by assumption) ?_ (by rfl) (by rfl) (by decide))
  | (refine Mine.cname_K (by assumption) (by rfl) ?_ (by rfl) (by rfl) (by rfl) (by decide))
  | (refine Mine.cname_B (by assumption) (by rfl) (by boot_by_name) (by decide) ?_ (by rfl) (by rfl) (by rfl) (by rfl) (by decide))))
local macro_rules | `(tactic| walk_at "call type:str") => `(tactic| ((with_reducible show wpAny _ _ (call (Value.type "str") [Value.int _ _]) _ _ _); refine Mine.stop_ ?_))
namespace Mine
variable {w : World} {p : Program} {loose : List Str} {mean : ExcName → Option Value} {mg mb : Str → Option Value}

def WeightOk (w : World) (p : Program) (loose : List Str) (mean : ExcName → Option Value) (mg mb : Str → Option Value) {α : Type} (R : Rl α) (f : α → Int) (k : Nat) : Prop :=
  ∀ (A : Around) (s : Shared) (v : Value) (x : α) (E : Value → Shared → Prop), Am k A → Gd w p loose mean mg mb s.heap → R s.heap v x →
    wpAny (model PySem.Challenge.rw_ez0045_01.row.prog w) A (call (.ref 74) [v]) (fun r s' => Keeps s s' ∧ ∃ t, r = .int (f x) t) E s

theorem intsAre_of {α : Type} {f : α → Int} : ∀ {xs : List α} {rs : List Value}, Paired (fun y r => ∃ t, r = Value.int (f y) t) xs rs → IntsAre rs (xs.map f)
  | _, _, .nil => .nil
  | _, _, .cons ⟨t, h⟩ r => by subst h; exact .cons _ t (intsAre_of r)

theorem smallLog {i : Int} (h : LeafOk (.int i)) : i.natAbs.log2 < 1920 := by
  obtain ⟨h1, h2⟩ : -100 ≤ i ∧ i < 2900 := h
  by_cases hz : i.natAbs = 0
  · rw [hz]; decide
  · exact Nat.lt_of_lt_of_le ((Nat.log2_lt hz).mpr (show i.natAbs < 2 ^ 12 by omega)) (by decide)
theorem txt_fit {i : Int} (h : LeafOk (.int i)) : ¬ (((txt i).length : Int) ≥ 2 ^ 63) := by
  obtain ⟨h1, h2⟩ : -100 ≤ i ∧ i < 2900 := h
  have := len_str_of_int i
  unfold txt
  omega

set_option maxHeartbeats 1000000 in
theorem weight_step {α : Type} {R : Rl α} {f : α → Int} {k : Nat} (hR : Mono R) (hf : Fun R) (ih : WeightOk w p loose mean mg mb R f k) : WeightOk w p loose mean mg mb (ContIs w R) (wtC f) (k + 5) := by
  intro A s v x E hA G hx
  obtain ⟨X, T⟩ := G
  revert X; k_fill; intro X
  refine callC' (binds := [(Str.ofString "tree", v)]) (fun L => [(Str.ofString "tree", L + 1)]) (fun _ => none) (fun y => if y = Str.ofString "tree" then some v else none) hA.room (X 74 _ rfl) rfl T.nolimit (codeRec_of X (by rfl)) (BindsTo.of_eq rfl) (by rfl) (by decide) rfl rfl rfl
    (fun _ => rfl) (fun _ => rfl) (fun _ => rfl) fun L h₁ tk cells F N Y => ?_
  obtain ⟨oc, rfl, hoc⟩ := Y.one
  replace hoc : oc.data = .cell (some v) := hoc
  w_on
  have hh : A.handled = none := hA.hd
  cases x with
  | leaf l =>
    obtain ⟨hl, ho⟩ := hx
    cases l with
    | none =>
      have e : v = .none := hl
      subst e
      k_steps
      exact ⟨_, _, rfl, F.keep⟩
    | int i =>
      obtain ⟨t, rfl⟩ := hl
      have hlog : i.natAbs.log2 < 1920 := smallLog ho
      have hfit : ¬ (((txt i).length : Int) ≥ 2 ^ 63) := txt_fit ho
      k_steps
      unfold Mine.Stop
      refine PySem.P.str_of_int hlog ?_
      k_steps
      exact ⟨_, _, rfl, F.keep⟩
    | str x =>
      obtain ⟨t, rfl⟩ := hl
      have hfit : ¬ ((x.length : Int) ≥ 2 ^ 63) := by have := ho.1; have e : x.length = x.cps.size := rfl; omega
      k_steps
      exact ⟨_, _, rfl, F.keep⟩
  | list xs =>
    obtain ⟨hl, a, vs, rfl, hv, hp⟩ := hx
    k_steps
    unfold Mine.Stop
    refine comp_list (R := R) (fun y r => ∃ t, r = .int (f y) t) hR hf hh (by rfl) (by decide) rfl (by decide) rfl ?_
    refine nameX_C N rfl (.head _) hoc ?_
    refine ⟨a, vs, xs, rfl, isList_keeps hv F.keep, hp.mono fun u y => hR _ _ u y F.keep, by rw [hp.length]; omega, fun _ _ e => e, ?_, ?_⟩
    · intro C s₃ m₃ u y E' hC hn hm hRy hy hk₃
      have G₃ : Gd w p loose mean mg mb s₃.heap := (Gd.mk X T).keeps fun b o e => hk₃ b o (F.keep b o e)
      k_steps
      unfold Mine.Stop
      refine wpAny_mono (ih _ _ _ y _ ((hA.deeper _).less (by omega)) G₃ hRy) (fun r s₄ h₄ => ⟨h₄.2, h₄.1⟩) fun _ _ e => e
    · intro D h' tk' rs hDn hD hG hk'
      have hI : IntsAre rs (xs.map f) := intsAre_of hG
      have F2 := F.keeps hk'
      have N2 := N.grown hk'
      clear F N
      k_steps
      refine sumK hh F2 N2 hD hI fun h3 tk3 t3 F3 N3 => ?_
      clear F2 N2
      k_steps
      exact ⟨_, _, rfl, F3.keep⟩
  | dict kvs =>
    obtain ⟨hl, hks, a, es, rfl, hsm, hd, hp⟩ := hx
    have ha : ∃ o, s.heap.get? a = some o ∧ o.cls = .type "dict" := let ⟨o, _, _, ho, hc, _⟩ := hd; ⟨o, ho, hc.1⟩
    obtain ⟨od, hod, hcd⟩ := ha
    have hod1 := F.keep _ _ hod
    k_steps
    unfold Mine.Stop
    refine comp_keys (R := R) (fun (q : Str × α) r => ∃ t, r = .int ((q.1.length : Int) + f q.2) t) (es := es) (kvs := kvs) hR hh (dictOf_keeps hd F.keep) (hp.mono fun e q he => ⟨he.1, hR _ _ _ _ F.keep he.2⟩) hsm (by omega) (by rfl) (by decide) rfl (by decide) rfl ?_
    refine nameX_C N rfl (.head _) hoc ?_
    refine ⟨rfl, fun _ _ e => e, ?_, ?_⟩
    · intro C s₃ m₃ t u q E' hC hn hm hmem hRy hq hk₃
      have kk : ∀ b o, s.heap.get? b = some o → s₃.heap.get? b = some o := fun b o e => hk₃ b o (F.keep b o e)
      have G₃ : Gd w p loose mean mg mb s₃.heap := (Gd.mk X T).keeps kk
      have hcell : s₃.heap.IsCell (L + 1) (some (.ref a)) := ⟨oc, hk₃ _ _ (N _ (.head _)).1, hoc⟩
      have hd3 := dictOf_keeps hd kk
      have hfit : ¬ ((q.1.length : Int) ≥ 2 ^ 63) := by have := hks q hq; have e : q.1.length = q.1.cps.size := rfl; omega
      k_steps
      unfold Mine.Stop
      refine wpAny_mono (ih _ _ _ q.2 _ ((hA.deeper _).less (by omega)) G₃ hRy) (fun r s₄ h₄ => ?_) fun _ _ e => e
      obtain ⟨⟨h4, tk4, rfl, k4⟩, t4, rfl⟩ := h₄
      k_steps
      exact ⟨_, _, rfl, k4⟩
    · intro D h' tk' rs hDn hD hG hk'
      have hI : IntsAre rs (kvs.map fun q => (q.1.length : Int) + f q.2) := intsAre_of hG
      have F2 := F.keeps hk'
      have N2 := N.grown hk'
      clear F N
      k_steps
      refine sumK hh F2 N2 hD hI fun h3 tk3 t3 F3 N3 => ?_
      clear F2 N2
      k_steps
      exact ⟨_, _, rfl, F3.keep⟩
end Mine

end PartMWeight

section PartMAny
open PySem PySem.W PyProof.Rows PySem.Calls
local macro_rules | `(tactic| walk_at "eval ListComp") => `(tactic| refine Mine.stop_ ?_)
local macro_rules | `(tactic| walk_at "call builtin:len") => `(tactic| ((with_reducible show wpAny _ _ (call (Value.builtin "len") [Value.str _ _]) _ _ _); refine len_str (by assumption) ?_))
local macro_rules | `(tactic| walk_at "subscriptTail") => `(tactic| ((with_reducible show wpAny _ _ (subscriptTail _ _ (Value.ref _) (Value.str _ _)) _ _ _); refine Mine.item_dict (by assumption) (by assumption) ?_ (by with_unfolding_all rfl) (by intro _; with_unfolding_all rfl)))
local macro_rules | `(tactic| walk_at "call ref") => `(tactic| refine Mine.stop_ ?_)
local macro_rules | `(tactic| walk_at "eval Name") => `(tactic| ((with_reducible show wpAny _ _ (eval (Expr.Name _ _) (compEnvC _ _ _ _)) _ _ _); first
  | (refine Mine.cname_L (by assumption) (by assumption) ?_ (by rfl) (by rfl) (by decide))
  | (refine Mine.cname_C (by rfl) (by assumption) ?_ (by rfl) (by rfl) (by decide))
  | (refine Mine.cname_K (by assumption) (by rfl) ?_ (by rfl) (by rfl) (by rfl) (by decide))
  | (refine Mine.cname_B (by assumption) (by rfl) (by boot_by_name) (by decide) ?_ (by rfl) (by rfl) (by rfl) (by rfl) (by decide))))
namespace Mine
variable {w : World} {p : Program} {loose : List Str} {mean : ExcName → Option Value} {mg mb : Str → Option Value}

def anyC {α : Type} (f : α → Int → Bool) (x : Cont α) (m : Int) : Bool := match x with
  | .leaf .none => false
  | .leaf _ => true
  | .list xs => decide (0 < (xs.length : Int)) && (decide (m < 2) || xs.any fun y => f y m)
  | .dict kvs => kvs.any fun q => decide ((q.1.length : Int) < m) && f q.2 (m - q.1.length)
def anyJ : (n : Nat) → J n → Int → Bool
  | 0 => fun x => x.elim
  | n + 1 => anyC (anyJ n)

def AnyOk (w : World) (p : Program) (loose : List Str) (mean : ExcName → Option Value) (mg mb : Str → Option Value) {α : Type} (R : Rl α) (f : α → Int → Bool) (k : Nat) : Prop :=
  ∀ (A : Around) (s : Shared) (v : Value) (x : α) (m : Int) (t : Tok) (E : Value → Shared → Prop), Am k A → Gd w p loose mean mg mb s.heap → R s.heap v x →
    wpAny (model PySem.Challenge.rw_ez0045_01.row.prog w) A (call (.ref 89) [v, .int m t]) (fun r s' => Keeps s s' ∧ r = .bool (f x m)) E s

theorem boolsAre_of {α : Type} {f : α → Bool} : ∀ {xs : List α} {rs : List Value}, Paired (fun y r => r = Value.bool (f y)) xs rs → LSm.BoolsAre rs (xs.map f)
  | _, _, .nil => .nil
  | _, _, .cons h r => by subst h; exact .cons _ (boolsAre_of r)

set_option maxHeartbeats 1000000 in
theorem any_step {α : Type} {R : Rl α} {f : α → Int → Bool} {k : Nat} (hR : Mono R) (hf : Fun R) (ih : AnyOk w p loose mean mg mb R f k) : AnyOk w p loose mean mg mb (ContIs w R) (anyC f) (k + 5) := by
  intro A s v x m tm E hA G hx
  obtain ⟨X, T⟩ := G
  revert X; k_fill; intro X
  refine callC' (binds := [(Str.ofString "tree", v), (Str.ofString "most", .int m tm)]) (fun L => [(Str.ofString "most", L + 2), (Str.ofString "tree", L + 1)]) (fun _ => none) (fun y => if y = Str.ofString "most" then some (.int m tm) else if y = Str.ofString "tree" then some v else none) hA.room (X 89 _ rfl) rfl T.nolimit (codeRec_of X (by rfl)) (BindsTo.of_eq rfl) (by rfl) (by decide) rfl rfl rfl
    (fun _ => rfl) (fun _ => rfl) (fun _ => rfl) fun L h₁ tk cells F N Y => ?_
  obtain ⟨om, ot, rfl, hom, hot⟩ := Y.two
  replace hom : om.data = .cell (some (.int m tm)) := hom
  replace hot : ot.data = .cell (some v) := hot
  clear Y
  w_on
  have hh : A.handled = none := hA.hd
  have hcm : h₁.IsCell (L + 2) (some (.int m tm)) := ⟨om, (N _ (.head _)).1, hom⟩
  have hct : h₁.IsCell (L + 1) (some v) := ⟨ot, (N _ (.tail _ (.head _))).1, hot⟩
  cases x with
  | leaf l =>
    obtain ⟨hl, ho⟩ := hx
    cases l with
    | none =>
      have e : v = .none := hl
      subst e
      k_steps
      exact ⟨_, _, rfl, F.keep⟩
    | int i =>
      obtain ⟨t, rfl⟩ := hl
      k_steps
      exact ⟨_, _, rfl, F.keep⟩
    | str x =>
      obtain ⟨t, rfl⟩ := hl
      k_steps
      exact ⟨_, _, rfl, F.keep⟩
  | list xs =>
    obtain ⟨hl, a, vs, rfl, hv, hp⟩ := hx
    have hlen : vs.length = xs.length := hp.length
    k_steps
    have hv1 := isList_keeps hv F.keep
    have hsz : (((List.toArray vs).size : Nat) : Int) < 2 ^ 63 := by rw [List.size_toArray]; omega
    refine' PyProof.Rows.len_list ?k1 ?k2 ?_
    case k1 => exact hv1
    case k2 => exact hsz
    have e : ((List.toArray vs).size : Int) = xs.length := by rw [List.size_toArray, hlen]
    rw [e]
    k_steps
    · exact ⟨_, _, rfl, F.keep⟩
    · show Value.bool (decide (m < 2)) = Value.bool (decide (0 < (xs.length : Int)) && (decide (m < 2) || xs.any fun y => f y m))
      rename m < 2 => hm2
      rename (0 : Int) < _ => h0
      simp only [h0, hm2, decide_true, Bool.true_and, Bool.true_or]
    · rename ¬ m < 2 => hm2
      rename (0 : Int) < _ => h0
      unfold Mine.Stop
      refine comp_list (R := R) (fun y r => r = .bool (f y m)) hR hf hh (by rfl) (by decide) rfl (by decide) rfl ?_
      refine nameX_C N rfl (.tail _ (.head _)) hot ?_
      refine ⟨a, vs, xs, rfl, isList_keeps hv F.keep, hp.mono fun u y => hR _ _ u y F.keep, by omega, fun _ _ e => e, ?_, ?_⟩
      · intro C s₃ m₃ u y E' hC hn hm hRy hy hk₃
        have G₃ : Gd w p loose mean mg mb s₃.heap := (Gd.mk X T).keeps fun b o e => hk₃ b o (F.keep b o e)
        have hcell2 : s₃.heap.IsCell (L + 2) (some (.int m tm)) := ⟨om, hk₃ _ _ (N _ (.head _)).1, hom⟩
        k_steps
        unfold Mine.Stop
        refine wpAny_mono (ih _ _ _ y _ _ _ ((hA.deeper _).less (by omega)) G₃ hRy) (fun r s₄ h₄ => ⟨h₄.2, h₄.1⟩) fun _ _ e => e
      · intro D h' tk' rs hDn hD hG hk'
        have hI := boolsAre_of hG
        have F2 := F.keeps hk'
        have N2 := N.grown hk'
        clear F N
        k_steps
        refine LSm.any_bools F2 N2 hh hD hI fun h3 tk3 F3 N3 => ?_
        clear F2 N2
        k_steps
        · exact ⟨_, _, rfl, F3.keep⟩
        · show Value.bool _ = Value.bool (decide (0 < (xs.length : Int)) && (decide (m < 2) || xs.any fun y => f y m))
          rw [List.any_map]
          simp only [h0, hm2, decide_true, decide_false, Bool.true_and, Bool.false_or]
          rfl
    · exact ⟨_, _, rfl, F.keep⟩
    · show Value.bool (decide (0 < (xs.length : Int))) = Value.bool (decide (0 < (xs.length : Int)) && (decide (m < 2) || xs.any fun y => f y m))
      rename ¬ (0 : Int) < _ => h0
      simp only [h0, decide_false, Bool.false_and]
  | dict kvs =>
    obtain ⟨hl, hks, a, es, rfl, hsm, hd, hp⟩ := hx
    have ha : ∃ o, s.heap.get? a = some o ∧ o.cls = .type "dict" := let ⟨o, _, _, ho, hc, _⟩ := hd; ⟨o, ho, hc.1⟩
    obtain ⟨od, hod, hcd⟩ := ha
    have hod1 := F.keep _ _ hod
    k_steps
    unfold Mine.Stop
    refine comp_keys (R := R) (fun (q : Str × α) r => r = .bool (decide ((q.1.length : Int) < m) && f q.2 (m - q.1.length))) (es := es) (kvs := kvs) hR hh (dictOf_keeps hd F.keep) (hp.mono fun e q he => ⟨he.1, hR _ _ _ _ F.keep he.2⟩) hsm (by omega) (by rfl) (by decide) rfl (by decide) rfl ?_
    refine nameX_C N rfl (.tail _ (.head _)) hot ?_
    refine ⟨rfl, fun _ _ e => e, ?_, ?_⟩
    · intro C s₃ m₃ t u q E' hC hn hm hmem hRy hq hk₃
      have kk : ∀ b o, s.heap.get? b = some o → s₃.heap.get? b = some o := fun b o e => hk₃ b o (F.keep b o e)
      have G₃ : Gd w p loose mean mg mb s₃.heap := (Gd.mk X T).keeps kk
      have hcell : s₃.heap.IsCell (L + 1) (some (.ref a)) := ⟨ot, hk₃ _ _ (N _ (.tail _ (.head _))).1, hot⟩
      have hcell2 : s₃.heap.IsCell (L + 2) (some (.int m tm)) := ⟨om, hk₃ _ _ (N _ (.head _)).1, hom⟩
      have hd3 := dictOf_keeps hd kk
      have hfit : ¬ ((q.1.length : Int) ≥ 2 ^ 63) := by have := hks q hq; have e : q.1.length = q.1.cps.size := rfl; omega
      k_steps
      all_goals (try rename ¬ _ < m => hlt)
      · rename (_ : Int) < m => hlt
        unfold Mine.Stop
        refine wpAny_mono (ih _ _ _ q.2 _ _ _ ((hA.deeper _).less (by omega)) G₃ hRy) (fun r s₄ h₄ => ?_) fun _ _ e => e
        obtain ⟨⟨h4, tk4, rfl, k4⟩, rfl⟩ := h₄
        k_steps
        · simp [hlt]
        · exact ⟨_, _, rfl, k4⟩
      · rename ¬ _ => hlt
        simp [hlt]
      · exact ⟨_, _, rfl, fun _ _ e => e⟩
    · intro D h' tk' rs hDn hD hG hk'
      have hI := boolsAre_of hG
      have F2 := F.keeps hk'
      have N2 := N.grown hk'
      clear F N
      k_steps
      refine LSm.any_bools F2 N2 hh hD hI fun h3 tk3 F3 N3 => ?_
      clear F2 N2
      k_steps
      · exact ⟨_, _, rfl, F3.keep⟩
      · show Value.bool _ = Value.bool _
        rw [List.any_map]; rfl
end Mine

end PartMAny

section PartMEq
open PySem PySem.W PyProof.Rows PySem.Calls
namespace Mine
open Builtin Builtin.List

/-- two values are found equal -/
def EqT (w : World) (A : Around) (s : Shared) (v u : Value) : Prop :=
  ∀ (E : Value → Shared → Prop) (Q : Bool → Shared → Prop), Q true s → wpAny (model prog w) A (eqBool v u) Q E s
def CmpT (w : World) (A : Around) (s : Shared) (ne : Bool) (v u : Value) : Prop :=
  ∀ (E : Value → Shared → Prop) (Q : Value → Shared → Prop), Q (.bool (!ne)) s → wpAny (model prog w) A (richCompare (if ne then .NotEq else .Eq) v u) Q E s

section
variable {w : World} {A : Around} {s : Shared}
open SeqAt in
theorem eq_loopT (l b : Addr) (items items2 : Array Value) (n n2 : Nat) (dd dd2 : Option Addr) (sl sl2 : Array (Option Value)) (hsz : items.size = items2.size) (ne : Bool)
    (hl : s.heap.get? l = some { cls := .type "list", dict := dd, data := .seq items n, slots := sl }) (hb : s.heap.get? b = some { cls := .type "list", dict := dd2, data := .seq items2 n2, slots := sl2 })
    (he : ∀ j (h1 : j < items.size) (h2 : j < items2.size), EqT w A.in1 s items[j] items2[j]) {R : Result → Shared → Prop} (h : R (.ok (.ret (.bool (!ne)))) s) (k : Nat) :
    ∀ i : Nat, items.size - i = k → wpAny (model prog w) A.in1 (Builtin.«list.__eq__.loop» ⟨[.ref l, .ref b, rawInt i, rawInt (if ne then 3 else 2)], []⟩)
      (fun fin s' => match fin with | .done f => R (.ok f) s' | .again c' => c'.quiet = true ∧ codeAny (model prog w) A c' R s') (fun e s' => R (.error e) s') s := by
  obtain ⟨hp, g, d, tk, os⟩ := s
  induction k with
  | zero =>
    intro i hk
    have hi1 : items[((i : Nat) : Int).toNat]? = none := by simp; omega
    have hi2 : items2[((i : Nat) : Int).toNat]? = none := by simp; omega
    cases ne
    all_goals (
      wp_walk using wpAny_loadPart' hl, wpAny_loadPart' hb
      rw [hi1, hi2]
      wp_walk using wpAny_loadPart' hl, wpAny_loadPart' hb)
    · show R (.ok (.ret (.bool (items.size == items2.size)))) _
      rw [hsz]
      simpa using h
    · show R (.ok (.ret (.bool (items.size != items2.size)))) _
      rw [hsz]
      simpa using h
  | succ k ih =>
    intro i hk
    have hlt : i < items.size := by omega
    have hlt2 : i < items2.size := by omega
    have hi1 : items[((i : Nat) : Int).toNat]? = some items[i] := by simp [hlt]
    have hi2 : items2[((i : Nat) : Int).toNat]? = some items2[i] := by simp [hlt2]
    have hc : ((i : Int) + 1) = ((i + 1 : Nat) : Int) := by push_cast; rfl
    cases ne
    all_goals (
      wp_walk using wpAny_loadPart' hl, wpAny_loadPart' hb
      rw [hi1, hi2]
      refine wpAny_bind (he i hlt hlt2 _ _ ?_)
      wp_walk
      rw [hc]
      exact ⟨plainId_quiet MeetsSeq3.plain_eq_loop _, codeAny_builtin MeetsSeq3.entry_eq_loop (by
        rw [Around.under_plainId MeetsSeq3.plain_eq_loop _]
        exact ih (i + 1) (by omega))⟩)

theorem cmp_own {T id : String} {op : CmpOp} {B : Builtin} {a b : Value} {E : Value → Shared → Prop} {Q : Value → Shared → Prop} (ha : s.TypeIs a T) (hb : s.TypeIs b T)
    (slot : Slot T (cmpInfo op).2.1 id) (entry : entryFor table id = some B) (args : argsOk id ⟨[a, b], []⟩) (hu : A.units < cLine)
    (h : wpAny (model prog w) A.in1 (B ⟨[a, b], []⟩) (fun fin s' => match fin with | .done f => wants (fun v s' => v ≠ .notImplemented ∧ Q v s') E (.ok f) s' | .again c' => c'.quiet = true ∧ codeAny (model prog w) A c' (wants (fun v s' => v ≠ .notImplemented ∧ Q v s') E) s')
      (fun e s' => wants (fun v s' => v ≠ .notImplemented ∧ Q v s') E (.error e) s') s) :
    wpAny (model prog w) A (richCompare op a b) Q E s :=
  wpAny_richCompare_same_room ha hb slot (wpAny_call (codeAny_call_builtin slot.plain entry (slot.check _ _ _ _ _ _ _ _ ha args h))) hu

open SeqAt in
theorem listsT {l b : Addr} {items items2 : Array Value} (hl : s.heap.IsList l items) (hb : s.heap.IsList b items2) (hsz : items.size = items2.size) (hu : A.units < cLine) (ne : Bool)
    (he : ∀ j (h1 : j < items.size) (h2 : j < items2.size), EqT w A.in1 s items[j] items2[j]) : CmpT w A s ne (.ref l) (.ref b) := by
  intro E Q h
  obtain ⟨⟨cls, dd, data, sl⟩, ho, hc, n, hd⟩ := id hl
  obtain ⟨⟨cls2, dd2, data2, sl2⟩, ho2, hc2, n2, hd2⟩ := id hb
  simp only at hc hd hc2 hd2
  subst hc hd hc2 hd2
  have f3 := AutoSeq1.sub_list_list
  have hne : ¬ (items.size != items2.size) = true := by simp [hsz]
  have hQ : wants (fun v s' => v ≠ .notImplemented ∧ Q v s') E (.ok (.ret (.bool (!ne)))) s := ⟨(fun x => nomatch x), h⟩
  have key := eq_loopT (w := w) (A := A) (s := s) l b items items2 n n2 dd dd2 sl sl2 hsz ne ho ho2 he hQ _ 0 rfl
  obtain ⟨hp, g, d, tk, os⟩ := s
  cases ne with
  | false =>
    refine cmp_own (op := .Eq) ⟨_, ho, rfl⟩ ⟨_, ho2, rfl⟩ F.slot_list_eq F.entry_list_eq (F.args_list_eq_2 _ _) hu ?_
    wp_walk using wpAny_loadPart' ho, wpAny_loadPart' ho2
    exact ⟨plainId_quiet MeetsSeq3.plain_eq_loop _, codeAny_builtin MeetsSeq3.entry_eq_loop (by
      rw [Around.under_plainId MeetsSeq3.plain_eq_loop _]
      exact key)⟩
  | true =>
    refine cmp_own (op := .NotEq) ⟨_, ho, rfl⟩ ⟨_, ho2, rfl⟩ F.slot_list_ne F.entry_list_ne (F.args_list_ne_2 _ _) hu ?_
    wp_walk using wpAny_loadPart' ho, wpAny_loadPart' ho2
    exact ⟨plainId_quiet MeetsSeq3.plain_eq_loop _, codeAny_builtin MeetsSeq3.entry_eq_loop (by
      rw [Around.under_plainId MeetsSeq3.plain_eq_loop _]
      exact key)⟩

theorem eqT_same (v : Value) : EqT w A s v v := fun E Q h => SeqAt.EqAt.same v prog w E Q h
theorem eqT_of {l b : Addr} (h : l ≠ b → CmpT w A s false (.ref l) (.ref b)) : EqT w A s (.ref l) (.ref b) := fun E Q hq => by
  unfold eqBool
  refine wpAny_holding ?_
  refine wpAny_ite_split (fun _ => ?_) (fun hab => ?_)
  · exact wpAny_bind (wpAny_rule (wpAny_pure hq))
  · exact wpAny_bind (h (fun e => hab (by rw [e]; exact beq_self_eq_true _)) E _ (wpAny_truthy_bool hq))

theorem samePairsT {nm : String} {a b : Addr} {ka kb : List (Str × Value)} {E : Value → Shared → Prop} {Q : Bool → Shared → Prop} (ha : (a == sysModules) = false) (hb : (b == sysModules) = false)
    (da : s.heap.DictOf (strKind prog w) a ka) (db : s.heap.DictOf (strKind prog w) b kb) (hlen : ka.length = kb.length)
    (hits : ∀ (i : Nat) (k : Str) (v : Value), ka[i]? = some (k, v) → ∃ u, valueAt kb k = some u ∧ EqT w A s v u) (h : Q true s) :
    wpAny (model prog w) A (Builtin.Dict.samePairs nm a b) Q E s := by
  obtain ⟨oa, es, ep, hoa, _, hda, hka, hpa, _⟩ := da
  obtain ⟨ob, es', ep', hob, _, hdb, hkb, hpb, _⟩ := db
  have hla : ka.length = es.size := by rw [← hpa.length]; exact Array.length_toList
  have hlb : kb.length = es'.size := by rw [← hpb.length]; exact Array.length_toList
  have hfind : ∀ k, findBy (strKind prog w).is es' k = valueAt kb k := fun k => by
    rw [← hpb.find k]
    clear hlb hpb hkb hdb hob
    obtain ⟨l⟩ := es'
    simp [findBy]
  have hsz : es.size = es'.size := by omega
  unfold Builtin.Dict.samePairs Builtin.Dict.showsAll
  rw [if_neg (by rw [ha]; exact Bool.false_ne_true), if_neg (by rw [hb]; exact Bool.false_ne_true)]
  refine wpAny_bind (wpAny_pure (wpAny_bind (wpAny_pure ?_)))
  refine wpAny_bind (wpAny_dictEntries hoa hda ?_)
  dsimp only
  refine wpAny_bind (wpAny_dictEntries hob hdb ?_)
  rw [if_neg (by rw [hsz]; simp)]
  refine wpAny_bind (wpAny_dictEpoch hoa hda ?_)
  refine wpAny_bind ?_
  rw [Std.Legacy.Range.forIn_eq_forIn_range']
  simp only [Std.Legacy.Range.size, Nat.sub_zero, Nat.add_sub_cancel, Nat.div_one]
  refine wpAny_forIn_list _ (fun rest q s' => s' = s ∧ q = (none, ()) ∧ ∃ i, rest = List.range' i (es.size - i) ∧ i ≤ es.size) _ ?_ ?_ _ _ ⟨rfl, rfl, 0, by simp, Nat.zero_le _⟩
  · rintro x rest q s' ⟨rfl, rfl, i, hr, hi⟩
    have hlt : i < es.size := by
      rcases Nat.lt_or_ge i es.size with h | h
      · exact h
      · rw [Nat.sub_eq_zero_of_le h] at hr; simp at hr
    obtain ⟨rfl, hrest⟩ : x = i ∧ rest = List.range' (i + 1) (es.size - (i + 1)) := by
      have e : es.size - i = (es.size - (i + 1)) + 1 := by omega
      rw [e, List.range'_succ] at hr
      injection hr with h1 h2
      exact ⟨h1, h2⟩
    refine wpAny_bind (wpAny_dictEntries hoa hda ?_)
    rw [Array.getElem?_eq_getElem hlt]
    have hlt' : x < ka.length := by rw [hla]; exact hlt
    obtain ⟨k, v, hkv⟩ : ∃ k v, ka[x] = (k, v) := ⟨_, _, rfl⟩
    have hkv' : ka[x]? = some (k, v) := by rw [List.getElem?_eq_getElem hlt', hkv]
    obtain ⟨hkey, hval⟩ := hpa.get? (i := x) (e := es[x]) (k := k) (v := v) (by rw [Array.getElem?_toList]; exact Array.getElem?_eq_getElem hlt) hkv'
    obtain ⟨k', hk', hh⟩ := hka es[x] (Array.getElem_mem hlt)
    have ekk : k' = k := (strKind prog w).inj _ _ _ hk' hkey
    rw [ekk] at hh
    obtain ⟨u, hu, he⟩ := hits x k v hkv'
    show wpAny _ _ (holding [es[x].key, es[x].val] _ >>= _) _ _ _
    rw [hh]
    refine wpAny_bind (wpAny_holding (wpAny_bind (wpAny_dictFind_of hkey hob hdb hkb ?_)))
    cases hj : es'.findIdx? fun e => (strKind prog w).is k e.key with
    | none =>
      have hn : valueAt kb k = none := by rw [← hfind k, findBy_of_findIdx?, hj]
      rw [hn] at hu; cases hu
    | some j =>
      obtain ⟨hjlt, _, _⟩ := Array.findIdx?_eq_some_iff_getElem.mp hj
      have hv' : valueAt kb k = some es'[j].val := by
        rw [← hfind k, findBy_of_findIdx?, hj]
        simp [Array.getElem?_eq_getElem hjlt]
      refine wpAny_bind (wpAny_dictEntries hob hdb ?_)
      rw [Array.getElem?_eq_getElem hjlt]
      have ey : es'[j].val = u := Option.some.inj (hv'.symm.trans hu)
      rw [← ey, ← hval] at he
      refine wpAny_holding (he _ _ ?_)
      show wpAny _ _ (if (!true) = true then _ else _) _ _ _
      rw [if_neg (by decide)]
      refine wpAny_bind (wpAny_dictEpoch hoa hda ?_)
      rw [if_neg (by simp)]
      exact wpAny_pure ⟨rfl, rfl, x + 1, hrest, hlt⟩
  · rintro q s' ⟨rfl, rfl, i, hr, hi⟩
    exact wpAny_pure h

theorem dictsT {a b : Addr} {ka kb : List (Str × Value)} (ha : (a == sysModules) = false) (hb : (b == sysModules) = false)
    (da : s.heap.DictOf (strKind prog w) a ka) (db : s.heap.DictOf (strKind prog w) b kb) (hlen : ka.length = kb.length) (hu : A.units < cLine) (ne : Bool)
    (hits : ∀ (i : Nat) (k : Str) (v : Value), ka[i]? = some (k, v) → ∃ u, valueAt kb k = some u ∧ EqT w A.in1 s v u) : CmpT w A s ne (.ref a) (.ref b) := by
  intro E Q h
  cases ne with
  | false =>
    refine wpAny_richCompare_same_room (op := .Eq) da.typeIs db.typeIs PySem.F.slot_dict_eq (wpAny_call_entry PySem.F.slot_dict_eq da.typeIs PySem.F.entry_dict_eq ?_ (PySem.F.args_dict_eq_2 _ _)) hu
    show wpAny _ _ (Builtin.Dict.dictSlotArgs "__eq__" ⟨[.ref a, .ref b], []⟩ >>= _) _ _ s
    refine wpAny_bind ?_
    unfold Builtin.Dict.dictSlotArgs
    refine wpAny_bind (wpAny_notOrdered_dict da.typeIs ?_)
    show wpAny _ _ (pure (Value.ref a, Value.ref b)) _ _ s
    refine wpAny_pure ?_
    refine wpAny_bind (wpAny_isInstance (T := "dict") db.typeIs PySem.F.sub_dict_dict ?_)
    simp only [Bool.not_true, Bool.false_eq_true, if_false]
    refine wpAny_bind (wpAny_pure (wpAny_bind (wpAny_pure ?_)))
    refine wpAny_bind (samePairsT ha hb da db hlen hits ?_)
    exact wpAny_pure ⟨_, rfl, (fun x => nomatch x), by simpa using h⟩
  | true =>
    refine wpAny_richCompare_same_room (op := .NotEq) da.typeIs db.typeIs PySem.F.slot_dict_ne (wpAny_call_entry PySem.F.slot_dict_ne da.typeIs PySem.F.entry_dict_ne ?_ (PySem.F.args_dict_ne_2 _ _)) hu
    show wpAny _ _ (Builtin.Dict.dictSlotArgs "__ne__" ⟨[.ref a, .ref b], []⟩ >>= _) _ _ s
    refine wpAny_bind ?_
    unfold Builtin.Dict.dictSlotArgs
    refine wpAny_bind (wpAny_notOrdered_dict da.typeIs ?_)
    show wpAny _ _ (pure (Value.ref a, Value.ref b)) _ _ s
    refine wpAny_pure ?_
    refine wpAny_bind (wpAny_isInstance (T := "dict") db.typeIs PySem.F.sub_dict_dict ?_)
    simp only [Bool.not_true, Bool.false_eq_true, if_false]
    refine wpAny_bind (wpAny_pure (wpAny_bind (wpAny_pure ?_)))
    refine wpAny_bind (samePairsT ha hb da db hlen hits ?_)
    exact wpAny_pure ⟨_, rfl, (fun x => nomatch x), by simpa using h⟩
end
end Mine

end PartMEq

section PartMTold
open PySem PySem.W PyProof.Rows PySem.Calls
namespace Mine

inductive TCont (α : Type) where
  | leaf (l : Leaf)
  | list (xs : List α) (dots : Bool)
  | dict (kvs : List (Str × α))
def T : Nat → Type
  | 0 => Empty
  | n + 1 => TCont (T n)
abbrev dotsS : Str := Str.ofString "..."
def TLeafOk : Leaf → Prop
  | .none => True
  | .int i => -100 ≤ i ∧ i < 2900
  | .str x => x.cps.size ≤ 13 ∧ x ≠ dotsS
def DotsIs (es : List Value) : Bool → Prop
  | false => es = []
  | true => ∃ t, es = [.str dotsS t]
def TContIs (w : World) {α : Type} (R : Rl α) : Rl (TCont α) := fun h v x => match x with
  | .leaf l => LeafIs v l ∧ TLeafOk l
  | .list xs dots => xs.length ≤ 3 ∧ ∃ a vs es, v = .ref a ∧ h.IsList a (List.toArray (vs ++ es)) ∧ Paired (R h) vs xs ∧ DotsIs es dots
  | .dict kvs => kvs.length ≤ 3 ∧ (∀ p ∈ kvs, p.1.cps.size ≤ 6) ∧ ∃ a es, v = .ref a ∧ (a == sysModules) = false ∧ h.DictOf (strKind prog w) a es ∧ Paired (fun (e : Str × Value) (p : Str × α) => e.1 = p.1 ∧ R h e.2 p.2) es kvs
def TIs (w : World) : (n : Nat) → Rl (T n)
  | 0 => fun _ _ x => x.elim
  | n + 1 => TContIs w (TIs w n)
theorem mono_tcont {w : World} {α : Type} {R : Rl α} (hR : Mono R) : Mono (TContIs w R) := by
  intro h h' v x k hx
  cases x with
  | leaf l => exact hx
  | list xs =>
    obtain ⟨hl, a, vs, es, rfl, hv, hp, hd⟩ := hx
    exact ⟨hl, a, vs, es, rfl, isList_keeps hv k, hp.mono fun u y => hR h h' u y k, hd⟩
  | dict kvs =>
    obtain ⟨hl, hk, a, es, rfl, hs, hv, hp⟩ := hx
    exact ⟨hl, hk, a, es, rfl, hs, dictOf_keeps hv k, hp.mono fun e p he => ⟨he.1, hR h h' _ _ k he.2⟩⟩
theorem mono_tis (w : World) : ∀ n, Mono (TIs w n)
  | 0 => fun _ _ _ x => x.elim
  | n + 1 => mono_tcont (mono_tis w n)
def NoDots {α : Type} (R : Rl α) : Prop := ∀ h t x, ¬ R h (.str dotsS t) x
theorem noDots_tcont {w : World} {α : Type} {R : Rl α} : NoDots (TContIs w R) := by
  intro h t x hx
  cases x with
  | leaf l =>
    cases l with
    | none => exact nomatch hx.1
    | int i => obtain ⟨⟨t, e⟩, _⟩ := hx; cases e
    | str x => obtain ⟨⟨t, e⟩, _, hn⟩ := hx; cases e; exact hn rfl
  | list xs => obtain ⟨hl, a, vs, es, e, _⟩ := hx; cases e
  | dict kvs => obtain ⟨hl, hk, a, es, e, _⟩ := hx; cases e
theorem noDots_tis (w : World) : ∀ n, NoDots (TIs w n)
  | 0 => fun _ _ x _ => x.elim
  | _ + 1 => noDots_tcont
theorem paired_last {α : Type} {R : Rl α} {h : Heap} (hn : NoDots R) {t : Tok} : ∀ {us vs : List Value} {ys : List α}, us = vs ++ [.str dotsS t] → Paired (R h) us ys → False
  | _, [], _, e, .cons h _ => by cases e; exact hn _ _ _ h
  | _, _ :: _, _, e, .cons _ r => by cases e; exact paired_last hn rfl r
theorem paired_dots {α : Type} {R : Rl α} {h : Heap} (hn : NoDots R) {vs es us fs : List Value} {xs ys : List α} {d d' : Bool} (e : vs ++ es = us ++ fs) (h1 : Paired (R h) vs xs) (h2 : Paired (R h) us ys) (hd : DotsIs es d) (hd' : DotsIs fs d') : vs = us ∧ d = d' := by
  cases d with
  | false =>
    have he : es = [] := hd
    subst he
    cases d' with
    | false => have he : fs = [] := hd'; subst he; simp at e; exact ⟨e, rfl⟩
    | true => obtain ⟨t, rfl⟩ := hd'; rw [List.append_nil] at e; exact (paired_last hn e h1).elim
  | true =>
    obtain ⟨t, rfl⟩ := hd
    cases d' with
    | false => have he : fs = [] := hd'; subst he; rw [List.append_nil] at e; exact (paired_last hn e.symm h2).elim
    | true =>
      obtain ⟨t, rfl⟩ := hd'
      exact ⟨(List.append_inj' e rfl).1, rfl⟩
theorem fun_tcont {w : World} {α : Type} {R : Rl α} (hR : Fun R) (hn : NoDots R) : Fun (TContIs w R) := by
  intro h v x y hx hy
  cases x with
  | leaf l =>
    cases y with
    | leaf l' => rw [leafIs_fun hx.1 hy.1]
    | list ys => obtain ⟨_, a, vs, es, rfl, _⟩ := hy; exact (leafIs_ref hx.1).elim
    | dict ys => obtain ⟨_, _, a, vs, rfl, _⟩ := hy; exact (leafIs_ref hx.1).elim
  | list xs dx =>
    obtain ⟨_, a, vs, es, rfl, hv, hp, hd⟩ := hx
    cases y with
    | leaf l' => exact (leafIs_ref hy.1).elim
    | list ys dy =>
      obtain ⟨_, a', vs', es', e, hv', hp', hd'⟩ := hy
      cases e
      have e2 : vs ++ es = vs' ++ es' := by simpa using isList_fun hv hv'
      obtain ⟨rfl, rfl⟩ := paired_dots hn e2 hp hp' hd hd'
      rw [paired_fun (hR h) hp hp']
    | dict ys => obtain ⟨_, _, a', vs', e, _, hv', _⟩ := hy; cases e; exact (list_not_dict hv hv').elim
  | dict xs =>
    obtain ⟨_, _, a, es, rfl, _, hv, hp⟩ := hx
    cases y with
    | leaf l' => exact (leafIs_ref hy.1).elim
    | list ys => obtain ⟨_, a', vs', es', e, hv', _⟩ := hy; cases e; exact (list_not_dict hv' hv).elim
    | dict ys =>
      obtain ⟨_, _, a', es', e, _, hv', hp'⟩ := hy
      cases e
      have e2 := dictOf_fun hv hv'
      subst e2
      rw [paired_fun (fun e x y h1 h2 => Prod.ext (h1.1.symm.trans h2.1) (hR h _ _ _ h1.2 h2.2)) hp hp']
theorem fun_tis (w : World) : ∀ n, Fun (TIs w n)
  | 0 => fun _ _ _ x => x.elim
  | n + 1 => fun_tcont (fun_tis w n) (noDots_tis w n)

/-! ## Weight of the told, points aside -/
def bareC {α : Type} (f : α → Int) : TCont α → Int
  | .leaf l => leafW l
  | .list xs _ => (xs.map f).sum
  | .dict kvs => (kvs.map fun p => (p.1.length : Int) + f p.2).sum
def bare : (n : Nat) → T n → Int
  | 0 => fun x => x.elim
  | n + 1 => bareC (bare n)
section
variable {prog : Program} {w : World} {A : Around} {E : Value → Shared → Prop} {s : Shared} {Q : Value → Shared → Prop}
  {name qual : Str} {params : Arguments} {body : List Stmt} {scope : Scope} {dV kV doc pm cdv ct : Value} {an : Option Addr} {fo : Obj} {f : Addr} {args : List Value} {binds : List (Str × Value)}
theorem callF' (m : Str → Option Value) (hroom : A.depth < recursionLimit) (ho : s.heap.get? f = some fo) (hd : fo.data = .func (fnX name qual params body scope [] dV kV doc pm an cdv ct)) (hlim : s.heap.NoLimit) (hcd : s.heap.CodeRec cdv qual)
    (hbind : BindsTo s (fnX name qual params body scope [] dV kV doc pm an cdv ct) ⟨args, []⟩ binds)
    (hkind : (binds.all fun y => scope.names.lookup y.1 == some .local || scope.names.lookup y.1 == some .cell) = true)
    (hco : scope.isCoroutine = false) (hgen : scope.isGenerator = false) (hk : scope.kind = .function)
    (hcl : ∀ L, cellsFrom (L + 1) scope.names [] = []) (hm : ∀ L, bindL (envOfC qual scope L f cdv).kindOf binds (fun _ => none) = m)
    (h : ∀ L h₁ tk, Fr s.heap L h₁ m → News s.heap L h₁ [] →
      wpAny (model prog w) (A.deeper (envX qual scope L f cdv [])) (execs body (envX qual scope L f cdv []))
        (fun fl s' => Q (match fl with | .ret v => v | _ => .none) s') (fun _ _ => False) { s with heap := h₁, toks := tk }) :
    wpAny (model prog w) A (call (.ref f) args) Q E s := by
  refine callC hroom ho hd hlim hcd hbind hkind ?_ hco hgen hk fun L h₁ tk cells F N Y => ?_
  · have e := cellsFrom_names scope.names 0 1 [] [] rfl
    have e0 : cellsFrom (0 + 1) scope.names [] = [] := hcl 0
    show ((cellsFrom 0 scope.names []).map (·.1)).Nodup
    rw [e, e0]; exact List.nodup_nil
  · rw [hm L] at F
    rw [hcl L] at Y
    cases Y
    have e : envOfC qual scope L f cdv = envX qual scope L f cdv [] := by
      show envX qual scope L f cdv (cellsFrom (L + 1) scope.names []) = _
      rw [hcl L]
    rw [e]
    exact h L h₁ tk F N
end
end Mine

end PartMTold

section PartMEq2
open PySem PySem.W PyProof.Rows PySem.Calls
namespace Mine
open Builtin Builtin.List

section
theorem int_declines_dict (b : Int) (u : Tok) (l : Addr) (c : Value) (es : Array DictEntry) (ep : Nat) (dd : Option Addr) (sl : Array (Option Value)) :
    Meets (Builtin.«int.__eq__» ⟨[.int b u, .ref l], []⟩) (fun _ R s => s.heap.get? l = some { cls := c, dict := dd, data := .dict es ep, slots := sl } ∧ R (.ok (.ret .notImplemented)) s) :=
  .of_wp fun prog w A R s h => by obtain ⟨hp, g, d, tk, os⟩ := s; obtain ⟨hl, h⟩ := h; wp_walk using wpAny_loadPart' hl, wpAny_load hl; exact ⟨_, rfl, h⟩
theorem str_declines_dict (b : Str) (u : Tok) (l : Addr) (c : Value) (es : Array DictEntry) (ep : Nat) (dd : Option Addr) (sl : Array (Option Value)) :
    Meets (Builtin.«str.__eq__» ⟨[.str b u, .ref l], []⟩) (fun _ R s => s.heap.get? l = some { cls := c, dict := dd, data := .dict es ep, slots := sl } ∧ R (.ok (.ret .notImplemented)) s) :=
  .of_wp fun prog w A R s h => by obtain ⟨hp, g, d, tk, os⟩ := s; obtain ⟨hl, h⟩ := h; wp_walk using wpAny_loadPart' hl, wpAny_load hl; exact ⟨_, rfl, h⟩
variable {w : World} {A : Around} {s : Shared}

theorem dict_declines {pg : Program} {w' : World} {l : Addr} {o : Obj} {v : Value} {T : String} {E Q : Value → Shared → Prop} (hl : s.heap.get? l = some o) (hc : o.cls = .type "dict") (hv : s.TypeIs v T) (hs : isSubtype (.type T) (.type "dict") = pure false) (hq : Q .notImplemented s) :
    wpAny (model pg w') A (call (.builtin "dict.__eq__") [.ref l, v]) Q E s := by
  have hT : s.TypeIs (.ref l) "dict" := ⟨o, hl, hc⟩
  refine wpAny_call_entry PySem.F.slot_dict_eq hT PySem.F.entry_dict_eq ?_ (PySem.F.args_dict_eq_2 _ _)
  show wpAny _ _ (Builtin.Dict.dictSlotArgs "__eq__" ⟨[.ref l, v], []⟩ >>= _) _ _ s
  refine wpAny_bind ?_
  unfold Builtin.Dict.dictSlotArgs
  refine wpAny_bind (wpAny_notOrdered_dict hT ?_)
  show wpAny _ _ (pure (Value.ref l, v)) _ _ s
  refine wpAny_pure ?_
  refine wpAny_bind (wpAny_isInstance hv hs ?_)
  simp only [Bool.not_false, if_true]
  exact wpAny_bind (wpAny_rule (wpAny_pure ⟨_, rfl, hq⟩))
end

section
variable {w : World} {A : Around} {s : Shared} {E Q : Value → Shared → Prop} {l : Addr} {o : Obj}
open SeqAt
theorem dict_str {pg : Program} {w' : World} (b : Str) (u : Tok) {es : Array DictEntry} {ep : Nat} (hl : s.heap.get? l = some o) (hc : o.cls = .type "dict") (hd : o.data = .dict es ep) (hu : A.units < cLine) (h : Q (.bool false) s) : wpAny (model pg w') A (richCompare .Eq (.ref l) (.str b u)) Q E s := by
  obtain ⟨cls, dd, data, sl⟩ := o
  simp only at hc hd
  subst hc hd
  exact rc_eq_decline_or (k := false) ⟨_, hl, rfl⟩ (typeIs_str s b u) (by decide) F.sub_str_dict F.slot_dict_eq F.slot_str_eq_refl
    (fun _ hq => dict_declines hl rfl (typeIs_str s b u) F.sub_str_dict hq)
    (fun _ hq => call_meets F.slot_str_eq_refl (typeIs_str s b u) F.entry_str_eq (F.args_str_eq_2 _ _) (str_declines_dict b u l (.type "dict") es ep dd sl) ⟨hl, hq⟩)
    (fun _ hq => wpAny_of_eq (rfl : isSame (.ref l) (.str b u) = pure false) hq) (.inr hu) h
theorem dict_int {pg : Program} {w' : World} (b : Int) (u : Tok) {es : Array DictEntry} {ep : Nat} (hl : s.heap.get? l = some o) (hc : o.cls = .type "dict") (hd : o.data = .dict es ep) (hu : A.units < cLine) (h : Q (.bool false) s) : wpAny (model pg w') A (richCompare .Eq (.ref l) (.int b u)) Q E s := by
  obtain ⟨cls, dd, data, sl⟩ := o
  simp only at hc hd
  subst hc hd
  exact rc_eq_decline_or (k := false) ⟨_, hl, rfl⟩ (typeIs_int s b u) (by decide) F.sub_int_dict F.slot_dict_eq F.slot_int_eq_refl
    (fun _ hq => dict_declines hl rfl (typeIs_int s b u) F.sub_int_dict hq)
    (fun _ hq => call_meets F.slot_int_eq_refl (typeIs_int s b u) F.entry_int_eq (F.args_int_eq_2 _ _) (int_declines_dict b u l (.type "dict") es ep dd sl) ⟨hl, hq⟩)
    (fun _ hq => wpAny_of_eq (rfl : isSame (.ref l) (.int b u) = pure false) hq) (.inr hu) h
theorem dict_none {pg : Program} {w' : World} {es : Array DictEntry} {ep : Nat} (hl : s.heap.get? l = some o) (hc : o.cls = .type "dict") (hd : o.data = .dict es ep) (hu : A.units < cLine) (h : Q (.bool false) s) : wpAny (model pg w') A (richCompare .Eq (.ref l) .none) Q E s := by
  obtain ⟨cls, dd, data, sl⟩ := o
  simp only at hc hd
  subst hc hd
  exact rc_eq_decline_or (k := false) ⟨_, hl, rfl⟩ rfl (by decide) F.sub_NoneType_dict F.slot_dict_eq F.slot_NoneType_eq_refl
    (fun _ hq => dict_declines hl rfl rfl F.sub_NoneType_dict hq)
    (fun _ hq => call_gives F.slot_NoneType_eq_refl rfl F.entry_NoneType_eq (F.args_NoneType_eq_2 _ _) (NoneType___eq___none_ref_0 l) hq)
    (fun _ hq => wpAny_of_eq (rfl : isSame (.ref l) .none = pure false) hq) (.inr hu) h

def eqLeaf {α : Type} : TCont α → Leaf → Bool
  | .leaf .none, .none => true
  | .leaf (.int i), .int j => i == j
  | .leaf (.str x), .str y => x == y
  | _, _ => false
theorem dict_obj {h : Heap} {a : Addr} {es : List (Str × Value)} (x : h.DictOf (strKind prog w) a es) : ∃ o ds ep, h.get? a = some o ∧ o.cls = .type "dict" ∧ o.data = .dict ds ep := by
  obtain ⟨o, ds, ep, ho, hc, hd, _⟩ := x
  exact ⟨o, ds, ep, ho, hc.1, hd⟩
/-- a told value beside a leaf -/
theorem eq_leaf {α : Type} {R : Rl α} {v u : Value} {x : TCont α} {y : Leaf} (hx : TContIs w R s.heap v x) (hy : LeafIs u y) (hu : A.units < cLine) : RcAt A s v u (eqLeaf x y) := by
  intro pg w' E Q h
  cases x with
  | leaf l =>
    obtain ⟨hx, _⟩ := hx
    cases l with
    | none =>
      cases (show v = .none from hx)
      cases y with
      | none => cases (show u = .none from hy); exact RcAt.none_none pg w' E Q h
      | int j => obtain ⟨t, rfl⟩ := hy; exact RcAt.none_int j t pg w' E Q h
      | str j => obtain ⟨t, rfl⟩ := hy; exact RcAt.none_str j t pg w' E Q h
    | int i =>
      obtain ⟨t', rfl⟩ := hx
      cases y with
      | none => cases (show u = .none from hy); exact RcAt.int_none i t' pg w' E Q h
      | int j => obtain ⟨t, rfl⟩ := hy; exact RcAt.int_int i t' j t pg w' E Q h
      | str j => obtain ⟨t, rfl⟩ := hy; exact RcAt.int_str i t' j t pg w' E Q h
    | str i =>
      obtain ⟨t', rfl⟩ := hx
      cases y with
      | none => cases (show u = .none from hy); exact RcAt.str_none i t' pg w' E Q h
      | int j => obtain ⟨t, rfl⟩ := hy; exact RcAt.str_int i t' j t pg w' E Q h
      | str j => obtain ⟨t, rfl⟩ := hy; exact RcAt.str_str i t' j t pg w' E Q h
  | list xs d =>
    obtain ⟨_, a, vs, es, rfl, hv, _⟩ := hx
    cases y with
    | none => cases (show u = .none from hy); exact RcAt.list_none hv hu pg w' E Q h
    | int j => obtain ⟨t, rfl⟩ := hy; exact RcAt.list_int j t hv hu pg w' E Q h
    | str j => obtain ⟨t, rfl⟩ := hy; exact RcAt.list_str j t hv hu pg w' E Q h
  | dict kvs =>
    obtain ⟨_, _, a, es, rfl, _, hv, _⟩ := hx
    obtain ⟨o, ds, ep, ho, hc, hd⟩ := dict_obj hv
    cases y with
    | none => cases (show u = .none from hy); exact dict_none ho hc hd hu h
    | int j => obtain ⟨t, rfl⟩ := hy; exact dict_int j t ho hc hd hu h
    | str j => obtain ⟨t, rfl⟩ := hy; exact dict_str j t ho hc hd hu h

/-- an item beside the points -/
def ItemNe {α : Type} (R : Rl α) : Prop := ∀ (A : Around) (s : Shared) (v : Value) (x : α) (t : Tok), R s.heap v x → A.units < cLine → EqAt A s v (.str dotsS t) false
theorem itemNe_step {α : Type} {R : Rl α} : ItemNe (TContIs w R) := by
  intro A s v x t hx hu pg w' E Q h
  unfold eqBool
  refine wpAny_holding ?_
  have e : eqLeaf x (.str dotsS) = false := by
    cases x with
    | leaf l =>
      cases l with
      | str y => obtain ⟨_, _, hn⟩ := hx; simpa [eqLeaf] using hn
      | _ => rfl
    | _ => rfl
  refine wpAny_ite_split (fun hab => ?_) (fun hab => ?_)
  · have hab := eq_of_beq hab
    subst hab
    exact (noDots_tcont _ _ _ hx).elim
  · have key : ∀ Q' : Value → Shared → Prop, Q' (.bool false) s → wpAny (model pg w') A (richCompare .Eq v (.str dotsS t)) Q' E s := fun Q' h' => eq_leaf (y := .str dotsS) hx (show ∃ t, _ from ⟨t, rfl⟩) hu pg w' E Q' (by rw [e]; exact h')
    cases v <;> exact wpAny_bind (key _ (wpAny_truthy_bool h))
theorem itemNe_tis (w : World) : ∀ n, ItemNe (TIs w n)
  | 0 => fun _ _ _ x => x.elim
  | _ + 1 => itemNe_step
theorem dots_eq {α : Type} {R : Rl α} (hn : ItemNe R) {l b : Addr} {vs es : List Value} {xs : List α} {d : Bool} {t : Tok} (hl : s.heap.IsList l (List.toArray ((vs ++ es).drop ((vs ++ es).length - 1)))) (hb : s.heap.IsList b #[.str dotsS t])
    (hp : Paired (R s.heap) vs xs) (hd : DotsIs es d) (hu : A.units + 1 < cLine) (h : Q (.bool d) s) : wpAny (model prog w) A (compareOp .Eq (.ref l) (.ref b)) Q E s := by
  cases d with
  | true =>
    obtain ⟨u, rfl⟩ := hd
    have e : (vs ++ [Value.str dotsS u]).drop ((vs ++ [Value.str dotsS u]).length - 1) = [Value.str dotsS u] := by simp
    rw [e] at hl
    refine eq_listAt (e := fun _ => true) hl hb rfl (by omega) (fun j h1 h2 => ?_) h
    have h1' : j < 1 := h1
    obtain rfl : j = 0 := by omega
    have e2 := EqAt.str_str (A := A.in1) (s := s) dotsS u dotsS t
    rw [beq_self_eq_true] at e2
    exact e2
  | false =>
    cases (show es = [] from hd)
    rw [List.append_nil] at hl
    rcases List.eq_nil_or_concat vs with rfl | ⟨us, v, rfl⟩
    · exact eq_list_lengthsAt hl hb rfl (by omega) h
    · have e : (us ++ [v]).drop ((us ++ [v]).length - 1) = [v] := by simp
      rw [List.concat_eq_append, e] at hl
      obtain ⟨x, _, hx⟩ := Paired.at' hp us.length v (by simp)
      refine eq_listAt (e := fun _ => false) hl hb rfl (by omega) (fun j h1 h2 => ?_) h
      have h1' : j < 1 := h1
      obtain rfl : j = 0 := by omega
      exact hn _ _ _ _ _ hx (by show A.units + 1 < cLine; omega)
end
end Mine

end PartMEq2

section PartMCalc0
open PySem PySem.W PyProof.Rows PySem.Calls
namespace Mine

/-- the walk halts here too -/
def Done (P : Prop) : Prop := P

/-! ## What is held by an old heap and some new things -/
def Via {α : Type} (R : Rl α) (h₀ : Heap) (own : List (Addr × Obj)) (v : Value) (x : α) : Prop :=
  ∀ h, (∀ b o, h₀.get? b = some o → h.get? b = some o) → (∀ p ∈ own, h.get? p.1 = some p.2) → R h v x
theorem Via.sub {α : Type} {R : Rl α} {h₀ : Heap} {own own' : List (Addr × Obj)} {v : Value} {x : α} (h : Via R h₀ own v x) (k : ∀ p ∈ own, p ∈ own') : Via R h₀ own' v x :=
  fun h' h1 h2 => h h' h1 fun p hp => h2 p (k p hp)
theorem Via.old {α : Type} {R : Rl α} (hR : Mono R) {h₀ : Heap} {v : Value} {x : α} (h : R h₀ v x) : Via R h₀ [] v x := fun h' k _ => hR _ _ _ _ k h
/-- what a call leaves behind -/
structure Left (s s' : Shared) (own : List (Addr × Obj)) : Prop where
  keeps : Keeps s s'
  new : ∀ p ∈ own, s'.heap.get? p.1 = some p.2 ∧ s.heap.get? p.1 = none

/-! ## Structures with their weights -/
def EntryIs {α : Type} (S : Rl α) (f : α → Int) (h : Heap) (ew : Int) (v : Value) (y : α) : Prop :=
  ∃ t t1 t2 c, v = .ref t ∧ h.IsTuple t #[.int ew t1, .int (f y) t2, c] ∧ S h c y
def StC (w : World) {α : Type} (S : Rl α) (f : α → Int) : Rl (Cont α) := fun h v x => match x with
  | .leaf l => ∃ t tk u, v = .ref t ∧ h.IsTuple t #[.str (Str.ofString "leaf") tk, u] ∧ LeafIs u l ∧ LeafOk l
  | .list xs => xs.length ≤ 3 ∧ ∃ t tk a vs, v = .ref t ∧ h.IsTuple t #[.str (Str.ofString "list") tk, .ref a] ∧ h.IsList a (List.toArray vs) ∧ Paired (EntryIs S f h 0) vs xs
  | .dict kvs => kvs.length ≤ 3 ∧ (∀ p ∈ kvs, p.1.cps.size ≤ 6) ∧ ∃ t tk a es, v = .ref t ∧ h.IsTuple t #[.str (Str.ofString "dict") tk, .ref a] ∧ (a == sysModules) = false ∧ h.DictOf (strKind prog w) a es ∧
      Paired (fun (e : Str × Value) (p : Str × α) => e.1 = p.1 ∧ EntryIs S f h p.1.length e.2 p.2) es kvs
def StIs (w : World) : (n : Nat) → Rl (J n)
  | 0 => fun _ _ x => x.elim
  | n + 1 => StC w (StIs w n) (wt n)
theorem isTuple_keeps {h h' : Heap} {a : Addr} {vs : Array Value} (x : h.IsTuple a vs) (k : ∀ b o, h.get? b = some o → h'.get? b = some o) : h'.IsTuple a vs := let ⟨o, ho, r⟩ := x; ⟨o, k a o ho, r⟩
theorem entry_mono {α : Type} {S : Rl α} {f : α → Int} (hS : Mono S) {h h' : Heap} {ew : Int} {v : Value} {y : α} (k : ∀ b o, h.get? b = some o → h'.get? b = some o) (x : EntryIs S f h ew v y) : EntryIs S f h' ew v y := by
  obtain ⟨t, t1, t2, c, rfl, ht, hc⟩ := x
  exact ⟨t, t1, t2, c, rfl, isTuple_keeps ht k, hS _ _ _ _ k hc⟩
theorem mono_stC {w : World} {α : Type} {S : Rl α} {f : α → Int} (hS : Mono S) : Mono (StC w S f) := by
  intro h h' v x k hx
  cases x with
  | leaf l => obtain ⟨t, tk, u, rfl, ht, r⟩ := hx; exact ⟨t, tk, u, rfl, isTuple_keeps ht k, r⟩
  | list xs =>
    obtain ⟨hl, t, tk, a, vs, rfl, ht, hv, hp⟩ := hx
    exact ⟨hl, t, tk, a, vs, rfl, isTuple_keeps ht k, isList_keeps hv k, hp.mono fun u y => entry_mono hS k⟩
  | dict kvs =>
    obtain ⟨hl, hk, t, tk, a, es, rfl, ht, hs, hv, hp⟩ := hx
    exact ⟨hl, hk, t, tk, a, es, rfl, isTuple_keeps ht k, hs, dictOf_keeps hv k, hp.mono fun e p he => ⟨he.1, entry_mono hS k he.2⟩⟩
theorem mono_stIs (w : World) : ∀ n, Mono (StIs w n)
  | 0 => fun _ _ _ x => x.elim
  | n + 1 => mono_stC (mono_stIs w n)
/-- the pair of weight and structure -/
def PairIs {α : Type} (S : Rl α) (f : α → Int) : Rl α := fun h v y => ∃ t tk c, v = .ref t ∧ h.IsTuple t #[.int (f y) tk, c] ∧ S h c y

/-! ## A loop over a list, with every way out -/
section
variable {prog : Program} {w : World} {A : Around} {s : Shared} {env : Env} {h₀ : Heap}
def TurnEnd (h₀ : Heap) (L : Addr) (wr : List Addr) (own : List (Addr × Obj)) (Jn Jb : (Str → Option Value) → List (Addr × Obj) → Prop) (s₁ : Shared) (f : Flow) (s₂ : Shared) : Prop :=
  match f with
  | .next | .cont => ∃ h' tk m₂ news₂, s₂ = { s₁ with heap := h', toks := tk } ∧ Fr h₀ L h' m₂ ∧ News h₀ L h' (own ++ news₂) ∧ (∀ p ∈ news₂, p.1 ∉ wr) ∧ Jn m₂ news₂
  | .brk => ∃ h' tk m₂ news₂, s₂ = { s₁ with heap := h', toks := tk } ∧ Fr h₀ L h' m₂ ∧ News h₀ L h' news₂ ∧ Jb m₂ news₂
  | .ret _ => False

theorem codeAny_forLoop_all {R : Result → Shared → Prop} {target : Expr} {body : List Stmt} {I : Addr} {fp wr : List Addr} {n : Nat} {P : Nat → Value → Prop} {St : Nat → Heap → Prop} {m : Str → Option Value}
    {news : List (Addr × Obj)} (W : Walks prog w A I fp wr n P St)
    (hLf : env.locals ∉ fp) (hwr : ∀ b ∈ wr, h₀.get? b = none) (hnw : ∀ p ∈ news, p.1 ∉ wr)
    (hst : St 0 s.heap) (F : Fr h₀ env.locals s.heap m) (N : News h₀ env.locals s.heap news)
    (hgo : ∀ i (s' : Shared) v (Q' : Unit → Shared → Prop), St i s'.heap → Q' () s' → wpAny (model prog w) A (letOwnedTupleGo target (.ref I) v) Q' (notedBy (model prog w) A env fun e s' => R (.error e) s') s')
    (J : Nat → (Str → Option Value) → List (Addr × Obj) → Prop) (Jb : (Str → Option Value) → List (Addr × Obj) → Prop) (h0 : J 0 m news)
    (step : ∀ i v m₁ news₁ s₁ own, i < n → P i v → J i m₁ news₁ → (∀ p ∈ news₁, p.1 ∉ wr) → (∀ p ∈ own, p.1 ∈ fp) → (∀ p ∈ own, s₁.heap.get? p.1 = some p.2) → (∀ b ∈ fp, h₀.get? b = none → ∀ o, s₁.heap.get? b = some o → (b, o) ∈ own) → St (i + 1) s₁.heap →
      Fr h₀ env.locals s₁.heap m₁ → News h₀ env.locals s₁.heap (own ++ news₁) →
      wpAny (model prog w) A (assign target env v) (fun _ s₂ => wpAny (model prog w) A (execs body env) (TurnEnd h₀ env.locals wr own (J (i + 1)) Jb s₁) (notedBy (model prog w) A env fun e s' => R (.error e) s') s₂) (notedBy (model prog w) A env fun e s' => R (.error e) s') s₁)
    (hR : ∀ h' tk m' news', Fr h₀ env.locals h' m' → News h₀ env.locals h' news' → J n m' news' ∨ Jb m' news' → R (.ok .next) { s with heap := h', toks := tk }) :
    codeAny (model prog w) A (.forLoop target (.ref I) body [] env) R s := by
  have hLw : env.locals ∉ wr := fun h => hLf (W.sub _ h)
  have old : ∀ b o, h₀.get? b = some o → b ∉ wr := fun b o e hb => by rw [hwr b hb] at e; cases e
  refine codeAny_forLoop_any
    (fun k s' => ∃ h' tk m' news' i, s' = { s with heap := h', toks := tk } ∧ St i h' ∧ Fr h₀ env.locals h' m' ∧ News h₀ env.locals h' news' ∧ (∀ p ∈ news', p.1 ∉ wr) ∧ J i m' news' ∧ i ≤ n ∧ k = n + 1 - i) ?_ (n + 1)
    ⟨s.heap, s.toks, m, news, 0, rfl, hst, F, N, hnw, h0, Nat.zero_le _, rfl⟩
  rintro k s' ⟨h', tk, m', news', i, rfl, hst', F', N', hnw', hJ, hi, rfl⟩
  have next : ∀ h₁ : Heap, (∀ b o, b ∉ wr → h'.get? b = some o → h₁.get? b = some o) → Fr h₀ env.locals h₁ m' ∧ News h₀ env.locals h₁ news' := fun h₁ hk₁ =>
    ⟨⟨F'.ns.at' fun o e => hk₁ _ o hLw e, fun b o e => hk₁ b o (old b o e) (F'.keep b o e), F'.above⟩, fun p hp => ⟨hk₁ _ _ (hnw' p hp) (N' p hp).1, (N' p hp).2⟩⟩
  by_cases hlt : i < n
  · refine W.item i _ _ _ hlt hst' fun v h₁ tk₁ hP hst₁ hk₁ => ?_
    obtain ⟨F₁, N₁⟩ := next h₁ hk₁
    have Nown : News h₀ env.locals h₁ (ownOf h₀ fp h₁) := news_ownOf hLf
    refine hgo (i + 1) _ v _ hst₁ ?_
    refine wpAny_mono (step i v m' news' { s with heap := h₁, toks := tk₁ } (ownOf h₀ fp h₁) hlt hP hJ hnw' ownOf_sub (fun p hp => (Nown p hp).1) (fun b hb hn o e => mem_ownOf hb hn e) hst₁ F₁ (Nown.append N₁))
      (fun _ s₂ h₂ => wpAny_mono h₂ (fun f s₃ h₃ => ?_) fun _ _ e => e) fun _ _ e => e
    have fin : (∃ h' tk m₂ news₂, s₃ = { s with heap := h', toks := tk } ∧ Fr h₀ env.locals h' m₂ ∧ News h₀ env.locals h' (ownOf h₀ fp h₁ ++ news₂) ∧ (∀ p ∈ news₂, p.1 ∉ wr) ∧ J (i + 1) m₂ news₂) →
        ∃ m, m < n + 1 - i ∧ ∃ h' tk m' news' i, s₃ = { s with heap := h', toks := tk } ∧ St i h' ∧ Fr h₀ env.locals h' m' ∧ News h₀ env.locals h' news' ∧ (∀ p ∈ news', p.1 ∉ wr) ∧ J i m' news' ∧ i ≤ n ∧ m = n + 1 - i := by
      rintro ⟨h₃', tk₃, m₂, news₂, rfl, F₃, N₃, ha₃, hJ₃⟩
      refine ⟨n + 1 - (i + 1), by omega, h₃', tk₃, m₂, news₂, i + 1, rfl, ?_, F₃, N₃.right, ha₃, hJ₃, hlt, rfl⟩
      refine W.frame _ _ _ hst₁ fun b hb o e => ?_
      cases hn : h₀.get? b with
      | some o₀ =>
        have : o₀ = o := by have := F₁.keep b o₀ hn; rw [e] at this; exact (Option.some.inj this).symm
        exact this ▸ F₃.keep b o₀ hn
      | none => exact (N₃ _ (List.mem_append_left _ (mem_ownOf hb hn e))).1
    cases f with
    | next => exact fin h₃
    | cont => exact fin h₃
    | brk =>
      obtain ⟨h₃', tk₃, m₂, news₂, rfl, F₃, N₃, hJ₃⟩ := h₃
      exact hR h₃' tk₃ m₂ news₂ F₃ N₃ (.inr hJ₃)
    | ret v => exact h₃.elim
  · have hin : i = n := by omega
    subst hin
    refine W.done _ _ _ hst' fun h₁ tk₁ hk₁ => wpAny_execs_nil ?_
    obtain ⟨F₁, N₁⟩ := next h₁ hk₁
    exact hR h₁ tk₁ m' news' F₁ N₁ (.inl hJ)
end

theorem ne_of_cls {h₀ h : Heap} {L : Addr} {news : List (Addr × Obj)} (N : News h₀ L h news) {a b : Addr} {o o2 : Obj} (ha : (a, o) ∈ news) (hb : (b, o2) ∈ news) (hc : o.cls ≠ o2.cls) : a ≠ b := by
  rintro rfl
  have h1 := (N _ ha).1
  rw [(N _ hb).1] at h1
  cases h1
  exact hc rfl
theorem news_left {h₀ h₄ h5 : Heap} {L : Addr} {m : Str → Option Value} {news own' : List (Addr × Obj)} (F4 : Fr h₀ L h₄ m) (N4 : News h₀ L h₄ news) (k5 : ∀ b o, h₄.get? b = some o → h5.get? b = some o)
    (hnew : ∀ p ∈ own', h5.get? p.1 = some p.2 ∧ h₄.get? p.1 = none) : News h₀ L h5 (own' ++ news) ∧ ∀ p ∈ own', ∀ q ∈ news, p.1 ≠ q.1 := by
  refine ⟨fun p hp => ?_, fun p hp q hq e => ?_⟩
  · rcases List.mem_append.mp hp with hp | hp
    · obtain ⟨h1, h2⟩ := hnew p hp
      refine ⟨h1, ?_, ?_⟩
      · intro e
        obtain ⟨oL, _, _, hoL, _⟩ := F4.ns
        rw [e, hoL] at h2; cases h2
      · cases e : h₀.get? p.1 with
        | none => rfl
        | some o => rw [F4.keep _ _ e] at h2; cases h2
    · exact ⟨k5 _ _ (N4 p hp).1, (N4 p hp).2⟩
  · have h1 := (N4 q hq).1
    rw [← e, (hnew p hp).2] at h1; cases h1
theorem Paired.append {α β : Type} {F : α → β → Prop} : ∀ {l₁ m₁ : List α} {l₂ m₂ : List β}, Paired F l₁ l₂ → Paired F m₁ m₂ → Paired F (l₁ ++ m₁) (l₂ ++ m₂)
  | _, _, _, _, .nil, h => h
  | _, _, _, _, .cons h t, k => .cons h (Paired.append t k)
theorem take_at {α : Type} {xs : List α} {i : Nat} {y : α} (h : xs[i]? = some y) : xs.take (i + 1) = xs.take i ++ [y] := by
  rw [List.take_add_one, h]; rfl
theorem turn_news {h₀ h : Heap} {L acc D : Addr} {tup lo : Obj} {own ownC own' rest : List (Addr × Obj)} (N : News h₀ L h ((D, tup) :: (acc, lo) :: rest)) (hi1 : ∀ p ∈ own', p ∈ rest) (hi2 : ∀ p ∈ own, p ∈ rest) (hi3 : ∀ p ∈ ownC, p ∈ rest) :
    News h₀ L h (own ++ (acc, lo) :: (D, tup) :: (ownC ++ own')) := by
  intro p hp
  refine N p ?_
  simp only [List.mem_append, List.mem_cons] at hp ⊢
  rcases hp with hp | hp | hp | hp | hp
  · exact .inr (.inr (hi2 p hp))
  · exact .inr (.inl hp)
  · exact .inl hp
  · exact .inr (.inr (hi3 p hp))
  · exact .inr (.inr (hi1 p hp))
end Mine

end PartMCalc0

section PartMFor
open PySem PySem.W PyProof.Rows PySem.Calls
namespace Mine
section
variable {prog : Program} {w : World} {A : Around} {E : Value → Shared → Prop} {s : Shared} {env : Env}
theorem for_list (h₀ : Heap) {target iter : Expr} {body : List Stmt} {pos : Pos} {Q : Flow → Shared → Prop} (hh : A.handled = none)
    (h : wpAny (model prog w) A (eval iter env) (fun xv s₁ => Mine.Stop (∃ a vs m news, ∃ (J : Nat → (Str → Option Value) → List (Addr × Obj) → Prop) (Jb : (Str → Option Value) → List (Addr × Obj) → Prop), xv = .ref a ∧ s₁.heap.IsList a (List.toArray vs) ∧ a ≠ env.locals ∧
      Fr h₀ env.locals s₁.heap m ∧ News h₀ env.locals s₁.heap news ∧ J 0 m news ∧
      (∀ i v m₁ news₁ s₂ own, vs[i]? = some v → J i m₁ news₁ → (∀ p ∈ news₁, p.1 ≠ s₁.heap.objs.size) → (∀ p ∈ own, p.1 = s₁.heap.objs.size ∨ p.1 = a) → Fr h₀ env.locals s₂.heap m₁ → News h₀ env.locals s₂.heap (own ++ news₁) → (∃ o, (s₁.heap.objs.size, o) ∈ own ∧ o.cls = .type "list_iterator") →
        wpAny (model prog w) A (assign target env v) (fun _ s₃ => wpAny (model prog w) A (execs body env) (TurnEnd h₀ env.locals [s₁.heap.objs.size] own (J (i + 1)) Jb s₂) (fun _ _ => False) s₃) (fun _ _ => False) s₂) ∧
      ∀ h' tk m' news', Fr h₀ env.locals h' m' → News h₀ env.locals h' news' → J vs.length m' news' ∨ Jb m' news' → Q .next { s₁ with heap := h', toks := tk })) E s)
    (hs : ∀ x, foldedSetIterable iter env x = pure x := by intro _; rfl) :
    wpAny (model prog w) A (exec (.For target iter body [] pos) env) Q E s := by
  refine wpAny_For (wpAny_mono h (fun xv s₁ h₁ => ?_) fun _ _ e => e) hs
  obtain ⟨a, vs, m, news, J, Jb, rfl, hv, haL, F, N, h0, hstep, hQ⟩ := h₁
  refine wpAny_pyIter_list hv ?_
  have hlt : a < s₁.heap.objs.size := by obtain ⟨o, ho, _⟩ := hv; exact Heap.lt_size ho
  have hL : env.locals < s₁.heap.objs.size := F.ns.lt
  have keep : ∀ (it : Obj) b o, s₁.heap.get? b = some o → (s₁.heap.push it).get? b = some o := fun it b o e => Heap.get?_push_of_some _ e
  have hnone : h₀.get? s₁.heap.objs.size = none := by
    cases e : h₀.get? s₁.heap.objs.size with
    | none => rfl
    | some o => exact absurd (Heap.lt_size (F.keep _ _ e)) (Nat.lt_irrefl _)
  refine codeAny_forLoop_all (h₀ := h₀) (m := m) (news := news) (Walks.list hh s₁.heap.objs.size a (Nat.ne_of_lt hlt) (List.toArray vs)) ?_ ?_ ?_ ⟨⟨_, Heap.get?_push_size _ rfl, rfl, rfl⟩, isList_keeps hv (keep _)⟩ (F.push _) (N.grown (keep _)) ?_ J Jb h0 ?_ ?_
  · intro hm
    rcases List.mem_cons.mp hm with e | hm
    · exact absurd e (Nat.ne_of_lt hL)
    · exact haL (List.mem_singleton.mp hm).symm
  · intro b hb
    rw [List.mem_singleton.mp hb]; exact hnone
  · intro p hp hm
    have := Heap.lt_size (N p hp).1
    rw [List.mem_singleton.mp hm] at this
    exact absurd this (Nat.lt_irrefl _)
  · intro i s' v Q' hst hq
    exact letGo_listiter hst.1 hq
  · intro i v m₁ news₁ s₂ own hi hv' hJ hnw hown hown2 hown3 hst F₂ N₂
    have hi' : vs[i]? = some v := by simpa using hv'
    refine wpAny_mono (hstep i v m₁ news₁ s₂ own hi' hJ (fun p hp e => hnw p hp (by rw [e]; exact List.mem_singleton.mpr rfl)) (fun p hp => ?_) F₂ N₂ ?_) (fun _ s₃ h₃ => wpAny_mono h₃ (fun _ _ e => e) fun _ _ e => e.elim) fun _ _ e => e.elim
    · rcases List.mem_cons.mp (hown p hp) with e | hm
      · exact .inl e
      · exact .inr (List.mem_singleton.mp hm)
    · obtain ⟨o, ho, hc, _⟩ := hst.1
      exact ⟨o, hown3 _ (.head _) hnone o ho, hc⟩
  · intro h' tk m' news' F' N' hJ
    exact hQ h' tk m' news' F' N' (by simpa using hJ)
end
end Mine

end PartMFor

section PartMCalc
open PySem PySem.W PyProof.Rows PySem.Calls
local macro_rules | `(tactic| walk_at "eval ListComp") => `(tactic| refine Mine.stop_ ?_)
local macro_rules | `(tactic| walk_at "call builtin:len") => `(tactic| ((with_reducible show wpAny _ _ (call (Value.builtin "len") [Value.str _ _]) _ _ _); refine len_str (by assumption) ?_))
local macro_rules | `(tactic| walk_at "subscriptTail") => `(tactic| ((with_reducible show wpAny _ _ (subscriptTail _ _ (Value.ref _) (Value.str _ _)) _ _ _); refine Mine.item_dict (by assumption) (by assumption) ?_ (by with_unfolding_all rfl) (by intro _; with_unfolding_all rfl)))
local macro_rules | `(tactic| walk_at "call ref") => `(tactic| refine Mine.stop_ ?_)
local macro_rules | `(tactic| walk_at "eval Name") => `(tactic| ((with_reducible show wpAny _ _ (eval (Expr.Name _ _) (compEnvC _ _ _ _)) _ _ _); first
  | (refine Mine.cname_L (by assumption) (by assumption) ?_ (by rfl) (by rfl) (by decide))
  | (refine Mine.cname_C (by rfl) (by assumption) ?_ (by rfl) (by rfl) (by decide))
  | (refine Mine.cname_K (by assumption) (by rfl) ?_ (by rfl) (by rfl) (by rfl) (by decide))
  | (refine Mine.cname_B (by assumption) (by rfl) (by boot_by_name) (by decide) ?_ (by rfl) (by rfl) (by rfl) (by rfl) (by decide))))
local macro_rules | `(tactic| walk_at "call type:str") => `(tactic| ((with_reducible show wpAny _ _ (call (Value.type "str") [Value.int _ _]) _ _ _); refine Mine.stop_ ?_))
namespace Mine
variable {w : World} {p : Program} {loose : List Str} {mean : ExcName → Option Value} {mg mb : Str → Option Value}

local macro_rules | `(tactic| walk_at "exec For Tuple Call") => `(tactic| refine Mine.stop_ ?_)
local macro_rules | `(tactic| walk_at "exec For Name Name") => `(tactic| refine Mine.stop_ ?_)

def CalcOk (w : World) (p : Program) (loose : List Str) (mean : ExcName → Option Value) (mg mb : Str → Option Value) {α : Type} (R S : Rl α) (f : α → Int) (k : Nat) : Prop :=
  ∀ (A : Around) (s : Shared) (v : Value) (x : α) (h₀ : Heap) (E : Value → Shared → Prop), Am k A → Gd w p loose mean mg mb s.heap → (∀ b o, h₀.get? b = some o → s.heap.get? b = some o) → R h₀ v x →
    wpAny (model PySem.Challenge.rw_ez0045_01.row.prog w) A (call (.ref 42) [v]) (fun r s' => Mine.Done <| ∃ own t o tk c n, Left s s' own ∧ r = .ref t ∧ (t, o) ∈ own ∧ o.cls = .type "tuple" ∧ o.data = .seq #[.int (f x) tk, c] n ∧ Via S h₀ own c x) E s

@[irreducible] def mkL (o1 o2 o3 o4 o5 : Option Value) (acc : Addr) (wv nd : Value) : Str → Option Value := fun y =>
  if y = Str.ofString "total_weight" then o1 else if y = Str.ofString "child_structure" then o2 else if y = Str.ofString "child_weight" then o3 else if y = Str.ofString "edge_weight" then o4 else if y = Str.ofString "v" then o5
  else if y = Str.ofString "children_weights" then some (.ref acc) else if y = Str.ofString "weight" then some wv else if y = Str.ofString "node" then some nd else none
theorem mkL_init {acc : Addr} {wv nd : Value} : (fun y => if y = Str.ofString "children_weights" then some (Value.ref acc) else if y = Str.ofString "weight" then some wv else if y = Str.ofString "node" then some nd else none) = mkL none none none none none acc wv nd := by
  funext y
  unfold mkL
  repeat (split <;> try (subst_vars; rfl))
theorem mkL_turn {o1 o2 o3 o4 o5 : Option Value} {a1 a2 a3 a4 a5 wv wv0 nd : Value} {acc : Addr} : (fun y => if y = Str.ofString "weight" then some wv else if y = Str.ofString "total_weight" then some a1 else if y = Str.ofString "child_structure" then some a2 else if y = Str.ofString "child_weight" then some a3 else if y = Str.ofString "edge_weight" then some a4 else if y = Str.ofString "v" then some a5 else
    if y = Str.ofString "total_weight" then o1 else if y = Str.ofString "child_structure" then o2 else if y = Str.ofString "child_weight" then o3 else if y = Str.ofString "edge_weight" then o4 else if y = Str.ofString "v" then o5
    else if y = Str.ofString "children_weights" then some (.ref acc) else if y = Str.ofString "weight" then some wv0 else if y = Str.ofString "node" then some nd else none) = mkL (some a1) (some a2) (some a3) (some a4) (some a5) acc wv nd := by
  funext y
  unfold mkL
  by_cases h0 : y = Str.ofString "weight"
  · subst h0; rfl
  by_cases h1 : y = Str.ofString "total_weight"
  · subst h1; rfl
  by_cases h2 : y = Str.ofString "child_structure"
  · subst h2; rfl
  by_cases h3 : y = Str.ofString "child_weight"
  · subst h3; rfl
  by_cases h4 : y = Str.ofString "edge_weight"
  · subst h4; rfl
  by_cases h5 : y = Str.ofString "v"
  · subst h5; rfl
  by_cases h6 : y = Str.ofString "children_weights"
  · subst h6; rfl
  by_cases h7 : y = Str.ofString "node"
  · subst h7; rfl
  simp only [h0, h1, h2, h3, h4, h5, h6, h7, if_false]
def calcL {α : Type} (S : Rl α) (f : α → Int) (h₀ : Heap) (xs : List α) (acc : Addr) (nd : Value) (i : Nat) (m : Str → Option Value) (news : List (Addr × Obj)) : Prop :=
  ∃ (cs : List Value) (ownC : List (Addr × Obj)) (o1 o2 o3 o4 o5 : Option Value) (tk : Tok) (n : Nat), m = mkL o1 o2 o3 o4 o5 acc (.int ((xs.take i).map f).sum tk) nd ∧ news = (acc, W.listOf cs.toArray n) :: ownC ∧
    (∀ p ∈ ownC, p.1 ≠ acc) ∧ Paired (fun c y => Via (fun h v y => EntryIs S f h 0 v y) h₀ ownC c y) cs (xs.take i)

set_option maxHeartbeats 1000000 in
theorem calc_leaf {α : Type} {R S : Rl α} {f : α → Int} {k : Nat} (hR : Mono R) (ih : CalcOk w p loose mean mg mb R S f k) : ∀ (A : Around) (s : Shared) (v : Value) (l : Leaf) (h₀ : Heap) (E : Value → Shared → Prop), Am (k + 5) A → Gd w p loose mean mg mb s.heap → (∀ b o, h₀.get? b = some o → s.heap.get? b = some o) → ContIs w R h₀ v (.leaf l) →
    wpAny (model PySem.Challenge.rw_ez0045_01.row.prog w) A (call (.ref 42) [v]) (fun r s' => Mine.Done <| ∃ own t o tk c n, Left s s' own ∧ r = .ref t ∧ (t, o) ∈ own ∧ o.cls = .type "tuple" ∧ o.data = .seq #[.int (wtC f (.leaf l)) tk, c] n ∧ Via (StC w S f) h₀ own c (.leaf l)) E s := by
  intro A s v l h₀ E hA G hk0 hx
  obtain ⟨X, T⟩ := G
  revert X; k_fill; intro X
  refine callF' (binds := [(Str.ofString "node", v)]) (fun y => if y = Str.ofString "node" then some v else none) hA.room (X 42 _ rfl) rfl T.nolimit (codeRec_of X (by rfl)) (BindsTo.of_eq rfl) (by rfl) rfl rfl rfl
    (fun _ => rfl) (fun _ => rfl) fun L h₁ tk F N => ?_
  w_on
  have hh : A.handled = none := hA.hd
  obtain ⟨hl, ho⟩ := hx
  cases l with
  | none =>
    have e : v = .none := hl
    subst e
    k_steps
    rename Fr _ _ _ _ => F2
    rename News _ _ _ _ => N2
    show Mine.Done _
    unfold Mine.Done
    exact ⟨_, _, _, _, _, _, ⟨⟨_, _, rfl, F2.keep⟩, fun p hp => ⟨(N2 p hp).1, (N2 p hp).2.2⟩⟩, rfl, .head _, rfl, rfl, fun h hk hp => ⟨_, _, _, rfl, ⟨_, hp _ (.tail _ (.head _)), rfl, _, rfl⟩, by first | rfl | exact ⟨_, rfl⟩, ho⟩⟩
  | int i =>
    obtain ⟨t, rfl⟩ := hl
    have hlog : i.natAbs.log2 < 1920 := smallLog ho
    have hfit : ¬ (((txt i).length : Int) ≥ 2 ^ 63) := txt_fit ho
    k_steps
    unfold Mine.Stop
    refine PySem.P.str_of_int hlog ?_
    k_steps
    rename Fr _ _ _ _ => F2
    rename News _ _ _ _ => N2
    show Mine.Done _
    unfold Mine.Done
    exact ⟨_, _, _, _, _, _, ⟨⟨_, _, rfl, F2.keep⟩, fun p hp => ⟨(N2 p hp).1, (N2 p hp).2.2⟩⟩, rfl, .head _, rfl, rfl, fun h hk hp => ⟨_, _, _, rfl, ⟨_, hp _ (.tail _ (.head _)), rfl, _, rfl⟩, by first | rfl | exact ⟨_, rfl⟩, ho⟩⟩
  | str x =>
    obtain ⟨t, rfl⟩ := hl
    have hfit : ¬ ((x.length : Int) ≥ 2 ^ 63) := by have := ho.1; have e : x.length = x.cps.size := rfl; omega
    k_steps
    rename Fr _ _ _ _ => F2
    rename News _ _ _ _ => N2
    show Mine.Done _
    unfold Mine.Done
    exact ⟨_, _, _, _, _, _, ⟨⟨_, _, rfl, F2.keep⟩, fun p hp => ⟨(N2 p hp).1, (N2 p hp).2.2⟩⟩, rfl, .head _, rfl, rfl, fun h hk hp => ⟨_, _, _, rfl, ⟨_, hp _ (.tail _ (.head _)), rfl, _, rfl⟩, by first | rfl | exact ⟨_, rfl⟩, ho⟩⟩

end Mine

end PartMCalc

section PartMItems
open PySem PySem.W PyProof.Rows PySem.Calls
namespace Mine
/-- a walk whose items are pairs made on the way -/
structure Draw (prog : Program) (w : World) (A : Around) (I : Addr) (fp wr : List Addr) (n : Nat) (Pt : Nat → Array Value → Prop) (St : Nat → Heap → Prop) (Mid : Nat → Addr → Heap → Prop) : Prop where
  sub : ∀ b ∈ wr, b ∈ fp
  frame : ∀ i h h', St i h → (∀ b ∈ fp, ∀ o, h.get? b = some o → h'.get? b = some o) → St i h'
  item : ∀ i (s : Shared) (Q : Option Value → Shared → Prop) (E : Value → Shared → Prop), i < n → St i s.heap →
    (∀ T vals h' tk, Pt i vals → s.heap.objs.size ≤ T → h'.IsTuple T vals → Mid i T h' → (∀ b o, b ∉ wr → s.heap.get? b = some o → h'.get? b = some o) → Q (some (.ref T)) { s with heap := h', toks := tk }) →
    wpAny (model prog w) A (pyNext (.ref I)) Q E s
  go : ∀ (elts : List Expr) (k : Nat) (pos : Pos) i T (s : Shared) (Q : Unit → Shared → Prop) (E : Value → Shared → Prop), Mid i T s.heap →
    (∀ h', St (i + 1) h' → (∀ b o, b ∉ wr → s.heap.get? b = some o → h'.get? b = some o) → Q () { s with heap := h' }) →
    wpAny (model prog w) A (letOwnedTupleGo (.Tuple elts k pos) (.ref I) (.ref T)) Q E s
  apart : ∀ i T h, Mid i T h → T ∉ wr
  done : ∀ (s : Shared) (Q : Option Value → Shared → Prop) (E : Value → Shared → Prop), St n s.heap →
    (∀ h' tk, (∀ b o, b ∉ wr → s.heap.get? b = some o → h'.get? b = some o) → Q none { s with heap := h', toks := tk }) → wpAny (model prog w) A (pyNext (.ref I)) Q E s

section
variable {prog : Program} {w : World} {A : Around} {s : Shared} {env : Env} {h₀ : Heap}

theorem codeAny_forLoop_tup {R : Result → Shared → Prop} {elts : List Expr} {k0 : Nat} {pos : Pos} {body : List Stmt} {I : Addr} {fp wr : List Addr} {n : Nat} {Pt : Nat → Array Value → Prop} {St : Nat → Heap → Prop} {Mid : Nat → Addr → Heap → Prop} {m : Str → Option Value}
    {news : List (Addr × Obj)} (W : Draw prog w A I fp wr n Pt St Mid)
    (hLf : env.locals ∉ fp) (hwr : ∀ b ∈ wr, h₀.get? b = none) (hnw : ∀ p ∈ news, p.1 ∉ wr)
    (hst : St 0 s.heap) (F : Fr h₀ env.locals s.heap m) (N : News h₀ env.locals s.heap news)
    (J : Nat → (Str → Option Value) → List (Addr × Obj) → Prop) (Jb : (Str → Option Value) → List (Addr × Obj) → Prop) (h0 : J 0 m news)
    (step : ∀ i T vals m₁ news₁ s₁ own, i < n → Pt i vals → J i m₁ news₁ → (∀ p ∈ news₁, p.1 ∉ wr) → (∀ p ∈ own, p.1 ∈ fp) → (∀ b ∈ fp, h₀.get? b = none → ∀ o, s₁.heap.get? b = some o → (b, o) ∈ own) → St (i + 1) s₁.heap → IsTup s₁.heap T vals →
      Fr h₀ env.locals s₁.heap m₁ → News h₀ env.locals s₁.heap (own ++ news₁) →
      wpAny (model prog w) A (assign (.Tuple elts k0 pos) env (.ref T)) (fun _ s₂ => wpAny (model prog w) A (execs body env) (TurnEnd h₀ env.locals wr own (J (i + 1)) Jb s₁) (notedBy (model prog w) A env fun e s' => R (.error e) s') s₂) (notedBy (model prog w) A env fun e s' => R (.error e) s') s₁)
    (hR : ∀ h' tk m' news', Fr h₀ env.locals h' m' → News h₀ env.locals h' news' → J n m' news' ∨ Jb m' news' → R (.ok .next) { s with heap := h', toks := tk }) :
    codeAny (model prog w) A (.forLoop (.Tuple elts k0 pos) (.ref I) body [] env) R s := by
  have hLw : env.locals ∉ wr := fun h => hLf (W.sub _ h)
  have old : ∀ b o, h₀.get? b = some o → b ∉ wr := fun b o e hb => by rw [hwr b hb] at e; cases e
  refine codeAny_forLoop_any
    (fun k s' => ∃ h' tk m' news' i, s' = { s with heap := h', toks := tk } ∧ St i h' ∧ Fr h₀ env.locals h' m' ∧ News h₀ env.locals h' news' ∧ (∀ p ∈ news', p.1 ∉ wr) ∧ J i m' news' ∧ i ≤ n ∧ k = n + 1 - i) ?_ (n + 1)
    ⟨s.heap, s.toks, m, news, 0, rfl, hst, F, N, hnw, h0, Nat.zero_le _, rfl⟩
  rintro k s' ⟨h', tk, m', news', i, rfl, hst', F', N', hnw', hJ, hi, rfl⟩
  have next : ∀ h h₁ : Heap, Fr h₀ env.locals h m' → News h₀ env.locals h news' → (∀ b o, b ∉ wr → h.get? b = some o → h₁.get? b = some o) → Fr h₀ env.locals h₁ m' ∧ News h₀ env.locals h₁ news' := fun h h₁ F' N' hk₁ =>
    ⟨⟨F'.ns.at' fun o e => hk₁ _ o hLw e, fun b o e => hk₁ b o (old b o e) (F'.keep b o e), F'.above⟩, fun p hp => ⟨hk₁ _ _ (hnw' p hp) (N' p hp).1, (N' p hp).2⟩⟩
  by_cases hlt : i < n
  · refine W.item i _ _ _ hlt hst' fun T vals h₁ tk₁ hP _ hT hMid hk₁ => ?_
    obtain ⟨F₁, N₁⟩ := next _ h₁ F' N' hk₁
    refine W.go elts k0 pos i T _ _ _ hMid fun h₂ hst₂ hk₂ => ?_
    obtain ⟨F₂, N₂⟩ := next _ h₂ F₁ N₁ hk₂
    have hT2 : IsTup h₂ T vals := by
      obtain ⟨o, ho, r⟩ := hT
      exact ⟨o, hk₂ _ _ (W.apart _ _ _ hMid) ho, r⟩
    have Nown : News h₀ env.locals h₂ (ownOf h₀ fp h₂) := news_ownOf hLf
    refine wpAny_mono (step i T vals m' news' { s with heap := h₂, toks := tk₁ } (ownOf h₀ fp h₂) hlt hP hJ hnw' ownOf_sub (fun b hb hn o e => mem_ownOf hb hn e) hst₂ hT2 F₂ (Nown.append N₂))
      (fun _ s₂ hx => wpAny_mono hx (fun f s₃ h₃ => ?_) fun _ _ e => e) fun _ _ e => e
    have fin : (∃ h' tk m₂ news₂, s₃ = { s with heap := h', toks := tk } ∧ Fr h₀ env.locals h' m₂ ∧ News h₀ env.locals h' (ownOf h₀ fp h₂ ++ news₂) ∧ (∀ p ∈ news₂, p.1 ∉ wr) ∧ J (i + 1) m₂ news₂) →
        ∃ m, m < n + 1 - i ∧ ∃ h' tk m' news' i, s₃ = { s with heap := h', toks := tk } ∧ St i h' ∧ Fr h₀ env.locals h' m' ∧ News h₀ env.locals h' news' ∧ (∀ p ∈ news', p.1 ∉ wr) ∧ J i m' news' ∧ i ≤ n ∧ m = n + 1 - i := by
      rintro ⟨h₃', tk₃, m₂, news₂, rfl, F₃, N₃, ha₃, hJ₃⟩
      refine ⟨n + 1 - (i + 1), by omega, h₃', tk₃, m₂, news₂, i + 1, rfl, ?_, F₃, N₃.right, ha₃, hJ₃, hlt, rfl⟩
      refine W.frame _ _ _ hst₂ fun b hb o e => ?_
      cases hn : h₀.get? b with
      | some o₀ =>
        have : o₀ = o := by have := F₂.keep b o₀ hn; rw [e] at this; exact (Option.some.inj this).symm
        exact this ▸ F₃.keep b o₀ hn
      | none => exact (N₃ _ (List.mem_append_left _ (mem_ownOf hb hn e))).1
    cases f with
    | next => exact fin h₃
    | cont => exact fin h₃
    | brk =>
      obtain ⟨h₃', tk₃, m₂, news₂, rfl, F₃, N₃, hJ₃⟩ := h₃
      exact hR h₃' tk₃ m₂ news₂ F₃ N₃ (.inr hJ₃)
    | ret v => exact h₃.elim
  · have hin : i = n := by omega
    subst hin
    refine W.done _ _ _ hst' fun h₁ tk₁ hk₁ => wpAny_execs_nil ?_
    obtain ⟨F₁, N₁⟩ := next _ h₁ F' N' hk₁
    exact hR h₁ tk₁ m' news' F₁ N₁ (.inl hJ)

variable {K : Type} [DecidableEq K] {knd : KeyKind prog w K}
theorem walks_items (hh : A.handled = none) (it d : Addr) (hdi : d ≠ it) (kvs : List (K × Value)) (ep : Nat) :
    Draw prog w A it [it, d] [it] kvs.length (fun i vals => ∃ k key v, kvs[i]? = some (k, v) ∧ knd.is k key = true ∧ vals = #[key, v])
      (fun i h => (∃ ok ov, IsItemIter h it d i kvs.length ep ok ov) ∧ h.DictAt knd d kvs ep) (fun i T h => (∃ key v, IsItemIterOut h it d (i + 1) kvs.length ep key v T) ∧ h.DictAt knd d kvs ep ∧ T ≠ it) where
  sub := fun b hb => by simp at hb; simp [hb]
  frame := fun i h h' st hk => ⟨let ⟨ok, ov, x⟩ := st.1; ⟨ok, ov, hk it (by simp) _ x⟩, st.2.at fun o e => hk d (by simp) o e⟩
  item := fun i s Q E hi st hQ => by
    obtain ⟨⟨ok, ov, hit⟩, hm⟩ := st
    refine wpAny_pyNext_items_item hit hm (k := kvs[i].1) (v := kvs[i].2) (by simp [hi]) fun key h' hkey hout ht hz hk => ?_
    have hlt : it < s.heap.objs.size := Heap.lt_size hit
    exact hQ _ #[key, kvs[i].2] h' s.toks ⟨_, key, _, by simp [hi], hkey, rfl⟩ (Nat.le_refl _) ⟨_, ht, rfl, _, rfl⟩ ⟨⟨_, _, hout⟩, hm.at fun o x => hk d o hdi x, Nat.ne_of_gt hlt⟩ fun b o hb e => hk b o (fun h => hb (by simp [h])) e
  go := fun elts k pos i T s Q E hM hQ => by
    obtain ⟨⟨key, v, hout⟩, hm, hne⟩ := hM
    refine wpAny_letOwnedTupleGo_items hout fun h' hit hs => ?_
    exact hQ h' ⟨⟨_, _, hit⟩, hm.at fun o x => hs.extBut d o hdi x⟩ fun b o hb e => hs.extBut b o (fun h => hb (by simp [h])) e
  apart := fun i T h hM hm => hM.2.2 (List.mem_singleton.mp hm)
  done := fun s Q E st hQ => by
    obtain ⟨⟨ok, ov, hit⟩, hm⟩ := st
    refine wpAny_pyNext_items_end hh hit hm (by simp) fun h' he => ?_
    exact hQ h' s.toks fun b o hb e => he b o (fun h => hb (by simp [h])) e

theorem for_items (h₀ : Heap) {E : Value → Shared → Prop} {elts : List Expr} {k0 : Nat} {tpos pos apos cpos : Pos} {o : Expr} {body : List Stmt} {Q : Flow → Shared → Prop} {d : Addr} {kvs : List (K × Value)} {m : Str → Option Value} {news : List (Addr × Obj)} (hh : A.handled = none)
    (J : Nat → (Str → Option Value) → List (Addr × Obj) → Prop) (Jb : (Str → Option Value) → List (Addr × Obj) → Prop)
    (hdL : d ≠ env.locals) (hdS : (d == sysModules) = false) (hm : h₀.DictOf knd d kvs) (F : Fr h₀ env.locals s.heap m) (N : News h₀ env.locals s.heap news)
    (hbase : attributeBase o "items" env (eval o env) = eval o env) (hline : (apos.endLine == cpos.line) = true)
    (ho : ∀ Q', Q' (.ref d) s → wpAny (model prog w) A (eval o env) Q' E s) (h0 : J 0 m news)
    (step : ∀ i T k key v m₁ news₁ s₂ own, kvs[i]? = some (k, v) → knd.is k key = true → J i m₁ news₁ → (∀ p ∈ news₁, p.1 ≠ s.heap.objs.size + 1) → (∀ p ∈ own, p.1 = s.heap.objs.size + 1 ∨ p.1 = d) →
      Fr h₀ env.locals s₂.heap m₁ → News h₀ env.locals s₂.heap (own ++ news₁) → (∃ o, (s.heap.objs.size + 1, o) ∈ own ∧ o.cls = .type "dict_itemiterator") → IsTup s₂.heap T #[key, v] →
        wpAny (model prog w) A (assign (.Tuple elts k0 tpos) env (.ref T)) (fun _ s₃ => wpAny (model prog w) A (execs body env) (TurnEnd h₀ env.locals [s.heap.objs.size + 1] own (J (i + 1)) Jb s₂) (fun _ _ => False) s₃) (fun _ _ => False) s₂)
    (hQ : ∀ h' tk m' news', Fr h₀ env.locals h' m' → News h₀ env.locals h' news' → J kvs.length m' news' ∨ Jb m' news' → Q .next { s with heap := h', toks := tk })
    (hs : ∀ x, foldedSetIterable (.Call (.Attribute o "items" apos) [] [] cpos) env x = pure x := by intro _; rfl) :
    wpAny (model prog w) A (exec (.For (.Tuple elts k0 tpos) (.Call (.Attribute o "items" apos) [] [] cpos) body [] pos) env) Q E s := by
  have hds : s.heap.DictOf knd d kvs := let ⟨o, es, ep, ho, r⟩ := hm; ⟨o, es, ep, F.keep _ o ho, r⟩
  obtain ⟨ep, hat⟩ := hds.dictAt
  refine wpAny_For (wpAny_Call_items hdS hds hbase hline ho ?_) hs
  have hlt : ∀ b o, s.heap.get? b = some o → b < s.heap.objs.size := fun b o e => Heap.lt_size e
  have hL : env.locals < s.heap.objs.size := F.ns.lt
  refine wpAny_pyIter_items (knd := knd) (d := d) (kvs := kvs) (ep := ep) ⟨_, Heap.get?_push_size _ rfl, rfl, rfl⟩ (hat.push _) ?_
  have hsz : (s.heap.push { cls := .type "dict_items", data := .fields #[.ref d] }).objs.size = s.heap.objs.size + 1 := Heap.size_push ..
  have hnone : h₀.get? (s.heap.objs.size + 1) = none := by
    cases e : h₀.get? (s.heap.objs.size + 1) with
    | none => rfl
    | some o => exact absurd (Heap.lt_size (F.keep _ _ e)) (Nat.not_lt.mpr (Nat.le_succ _))
  have hde : d ≠ s.heap.objs.size + 1 := Nat.ne_of_lt (Nat.lt_succ_of_lt hat.lt_size)
  rw [hsz]
  refine codeAny_forLoop_tup (h₀ := h₀) (m := m) (news := news) (walks_items hh (s.heap.objs.size + 1) d hde kvs ep) ?_ ?_ ?_ ⟨⟨.none, .none, ?_⟩, (hat.push _).push _⟩ ((F.push _).push _) ((N.grown fun _ _ e => Heap.get?_push_of_some _ e).grown fun _ _ e => Heap.get?_push_of_some _ e) J Jb h0 ?_ ?_
  · intro hm
    rcases List.mem_cons.mp hm with e | hm
    · exact absurd e (Nat.ne_of_lt (Nat.lt_succ_of_lt hL))
    · exact hdL (List.mem_singleton.mp hm).symm
  · intro b hb
    rw [List.mem_singleton.mp hb]; exact hnone
  · intro p hp hm
    have := Heap.lt_size (N p hp).1
    rw [List.mem_singleton.mp hm] at this
    exact absurd this (Nat.not_lt.mpr (Nat.le_succ _))
  · have e := Heap.get?_push_size (s.heap.push { cls := .type "dict_items", data := .fields #[.ref d] }) (o := { cls := .type "dict_itemiterator", data := .fields #[.none, .bool false, .ref d, .int 0 0, .int kvs.length 0, .int ep 0, .none, .none] }) rfl
    rw [hsz] at e
    exact e
  · intro i T vals m₁ news₁ s₂ own hi hP hJ hnw hown hown3 hst hT F₂ N₂
    obtain ⟨k, key, v, hk, hkey, rfl⟩ := hP
    refine wpAny_mono (step i T k key v m₁ news₁ s₂ own hk hkey hJ (fun p hp e => hnw p hp (by rw [e]; exact List.mem_singleton.mpr rfl)) (fun p hp => ?_) F₂ N₂ ?_ hT) (fun _ s₃ h₃ => wpAny_mono h₃ (fun _ _ e => e) fun _ _ e => e.elim) fun _ _ e => e.elim
    · rcases List.mem_cons.mp (hown p hp) with e | hm
      · exact .inl e
      · exact .inr (List.mem_singleton.mp hm)
    · obtain ⟨⟨ok, ov, hit⟩, _⟩ := hst
      exact ⟨_, hown3 _ (.head _) hnone _ hit, rfl⟩
  · intro h' tk m' news' F' N' hJ
    exact hQ h' tk m' news' F' N' hJ
end
end Mine

end PartMItems

section PartMCalc2
open PySem PySem.W PyProof.Rows PySem.Calls
local macro_rules | `(tactic| walk_at "no such step 0") => `(tactic| fail)
local macro_rules | `(tactic| walk_at "eval ListComp") => `(tactic| refine Mine.stop_ ?_)
local macro_rules | `(tactic| walk_at "call builtin:len") => `(tactic| ((with_reducible show wpAny _ _ (call (Value.builtin "len") [Value.str _ _]) _ _ _); refine len_str (by assumption) ?_))
local macro_rules | `(tactic| walk_at "subscriptTail") => `(tactic| ((with_reducible show wpAny _ _ (subscriptTail _ _ (Value.ref _) (Value.str _ _)) _ _ _); refine Mine.item_dict (by assumption) (by assumption) ?_ (by with_unfolding_all rfl) (by intro _; with_unfolding_all rfl)))
local macro_rules | `(tactic| walk_at "call ref") => `(tactic| refine Mine.stop_ ?_)
local macro_rules | `(tactic| walk_at "eval Name") => `(tactic| ((with_reducible show wpAny _ _ (eval (Expr.Name _ _) (compEnvC _ _ _ _)) _ _ _); first
  | (refine Mine.cname_L (by assumption) (by assumption) ?_ (by rfl) (by rfl) (by decide))
  | (refine Mine.cname_C (by rfl) (by assumption) ?_ (by rfl) (by rfl) (by decide))
  | (refine Mine.cname_K (by assumption) (by rfl) ?_ (by rfl) (by rfl) (by rfl) (by decide))
  | (refine Mine.cname_B (by assumption) (by rfl) (by boot_by_name) (by decide) ?_ (by rfl) (by rfl) (by rfl) (by rfl) (by decide))))
namespace Mine
variable {w : World} {p : Program} {loose : List Str} {mean : ExcName → Option Value} {mg mb : Str → Option Value}

local macro_rules | `(tactic| walk_at "assign Tuple") => `(tactic| ((with_reducible show wpAny _ _ (assign (Expr.Tuple _ _ _) _ (Value.ref _)) _ _ _); refine unpackN_ (by assumption) (by assumption) (by assumption) (by assumption) (by rfl) (by rfl) ?_; intro h' F' N'))
local macro_rules | `(tactic| walk_at "exec For Tuple Call") => `(tactic| refine Mine.stop_ ?_)
local macro_rules | `(tactic| walk_at "exec For Name Name") => `(tactic| refine Mine.stop_ ?_)
set_option maxHeartbeats 1000000 in
theorem calc_list {α : Type} {R S : Rl α} {f : α → Int} {k : Nat} (hR : Mono R) (ih : CalcOk w p loose mean mg mb R S f k) : ∀ (A : Around) (s : Shared) (v : Value) (xs : List α) (h₀ : Heap) (E : Value → Shared → Prop), Am (k + 5) A → Gd w p loose mean mg mb s.heap → (∀ b o, h₀.get? b = some o → s.heap.get? b = some o) → ContIs w R h₀ v (.list xs) →
    wpAny (model PySem.Challenge.rw_ez0045_01.row.prog w) A (call (.ref 42) [v]) (fun r s' => Mine.Done <| ∃ own t o tk c n, Left s s' own ∧ r = .ref t ∧ (t, o) ∈ own ∧ o.cls = .type "tuple" ∧ o.data = .seq #[.int (wtC f (.list xs)) tk, c] n ∧ Via (StC w S f) h₀ own c (.list xs)) E s := by
  intro A s v xs h₀ E hA G hk0 hx
  obtain ⟨X, T⟩ := G
  revert X; k_fill; intro X
  refine callF' (binds := [(Str.ofString "node", v)]) (fun y => if y = Str.ofString "node" then some v else none) hA.room (X 42 _ rfl) rfl T.nolimit (codeRec_of X (by rfl)) (BindsTo.of_eq rfl) (by rfl) rfl rfl rfl
    (fun _ => rfl) (fun _ => rfl) fun L h₁ tk F N => ?_
  w_on
  have hh : A.handled = none := hA.hd
  obtain ⟨hl, a, vs, rfl, hv0, hp⟩ := hx
  have hv := isList_keeps hv0 hk0
  have hlen := hp.length
  k_steps
  unfold Mine.Stop
  rename Fr _ _ _ _ => F2
  rename News _ _ _ _ => N2
  rename Addr => acc
  clear hv
  refine for_list s.heap hh ?_
  k_steps
  unfold Mine.Stop
  refine ⟨a, vs, _, _, calcL S f h₀ xs acc (.ref a), fun _ _ => False, rfl, isList_keeps hv0 fun b o e => F2.keep _ _ (hk0 _ _ e), ?_, F2, N2, ?_, ?_, ?_⟩
  · obtain ⟨o, ho, _⟩ := hv0
    have h1 := Heap.lt_size (hk0 _ _ ho)
    have h2 := F2.above
    rintro rfl
    exact absurd h1 (Nat.not_lt.mpr h2)
  · refine ⟨[], [], none, none, none, none, none, ?tk, 0, ?e, rfl, fun _ h => (List.not_mem_nil h).elim, .nil⟩
    case e => rw [List.take_zero, List.map_nil, List.sum_nil]; exact mkL_init
  · rintro i v m₁ news₁ s₂ own hi ⟨cs, ownC, o1, o2, o3, o4, o5, tk0, n0, rfl, rfl, hca, hpc⟩ hnit hown F3 N3 hit
    obtain ⟨y, hy, hRy⟩ := Paired.at' hp i v hi
    unfold Mine.mkL at F3
    replace F3 : Fr s.heap L _ _ := F3
    replace N3 : News s.heap L _ _ := N3
    k_steps
    unfold Mine.Stop
    rename Fr _ _ _ _ => F4
    rename News _ _ _ _ => N4
    refine wpAny_mono (ih _ _ _ y h₀ _ ((hA.deeper _).less (by omega)) ((Gd.mk X T).keeps F4.keep) (fun b o e => F4.keep _ _ (hk0 _ _ e)) hRy) (fun r s₅ h₅ => ?_) fun _ _ e => e
    unfold Mine.Done at h₅
    obtain ⟨own', t5, ob5, tk5, c5, n5, ⟨⟨h5, tkk, rfl, k5⟩, hnew⟩, rfl, hmem, hcls, hdat, hvia⟩ := h₅
    have F5 := F4.keeps k5
    obtain ⟨N5', hap⟩ := news_left F4 N4 k5 hnew
    have N5 : News s.heap L h5 ((acc, W.listOf cs.toArray n0) :: (own' ++ own ++ ownC)) := by
      intro p hp
      refine N5' p ?_
      simp only [List.mem_cons, List.mem_append] at hp ⊢
      rcases hp with hp | (hp | hp) | hp
      · exact .inr (.inr (.inl hp))
      · exact .inl hp
      · exact .inr (.inl hp)
      · exact .inr (.inr (.inr hp))
    have hacc : s.heap.get? acc = none := (N5 _ (.head _)).2.2
    have hrest : ∀ p ∈ own' ++ own ++ ownC, p.1 ≠ acc := by
      intro p hp
      simp only [List.mem_append] at hp
      rcases hp with (hp | hp) | hp
      · exact hap p hp (acc, _) (List.mem_append_right _ (.head _))
      · rcases hown p hp with e | e
        · rw [e]; exact (hnit _ (.head _)).symm
        · rw [e]; rintro rfl
          obtain ⟨o, ho, _⟩ := hv0
          rw [hk0 _ _ ho] at hacc; cases hacc
      · exact hca p hp
    have hi1 : ∀ p ∈ own', p ∈ own' ++ own ++ ownC := by intro p hp; simp [hp]
    have hi2 : ∀ p ∈ own, p ∈ own' ++ own ++ ownC := by intro p hp; simp [hp]
    have hi3 : ∀ p ∈ ownC, p ∈ own' ++ own ++ ownC := by intro p hp; simp [hp]
    have htup : IsTup h5 t5 #[.int (f y) tk5, c5] := ⟨ob5, (hnew _ hmem).1, hcls, _, hdat⟩
    clear F4 N4
    revert hrest hi1 hi2 hi3 N5
    generalize own' ++ own ++ ownC = rest
    intro N5 hrest hi1 hi2 hi3
    k_steps
    rename Fr _ _ _ _ => F7
    rename News _ _ _ _ => N7
    refine append_second F7 N7 (ne_of_cls N7 (.head _) (.tail _ (.head _)) (show Value.type "tuple" ≠ Value.type "list" by decide)) hrest ?_ (hsz := by rw [List.size_toArray, hpc.length, List.length_take, sizeLine_eq]; omega)
    intro h8 F8 N8
    clear F7 N7
    k_steps
    obtain ⟨io, hio, hioc⟩ := hit
    have hsum : ((xs.take (i + 1)).map f).sum = ((xs.take i).map f).sum + (0 + f y) := by rw [take_at hy]; simp
    have hne := ne_of_cls N8 (.head _) (.tail _ (.tail _ (hi2 _ hio))) (by rw [hioc]; exact (show Value.type "tuple" ≠ Value.type "list_iterator" by decide))
    have hne2 := ne_of_cls N8 (.head _) (.tail _ (.head _)) (show Value.type "tuple" ≠ Value.type "list" by decide)
    have hni' : ∀ p ∈ own', p.1 ≠ _ := fun p hp => hap p hp _ (List.mem_append_left _ hio)
    have N9 := turn_news N8 hi1 hi2 hi3
    rw [List.push_toArray] at N9
    refine ⟨_, _, _, _, rfl, mkL_turn ▸ F8, N9, ?_, ⟨cs ++ [_], _, _, _, _, _, _, _, _, congrArg (fun z => mkL _ _ _ _ _ acc (.int z _) _) hsum.symm, rfl, ?_, ?_⟩⟩
    · intro p hp hm
      have hm := List.mem_singleton.mp hm
      simp only [List.mem_append, List.mem_cons] at hp
      rcases hp with hp | hp | hp | hp
      · rw [hp] at hm; exact hnit _ (.head _) hm
      · rw [hp] at hm; exact hne hm
      · exact hnit _ (.tail _ hp) hm
      · exact hni' p hp hm
    · intro p hp
      simp only [List.mem_append, List.mem_cons] at hp
      rcases hp with hp | hp | hp
      · rw [hp]; exact hne2
      · exact hca p hp
      · exact hrest p (hi1 p hp)
    · rw [take_at hy]
      refine Paired.append (hpc.mono fun c z hz => hz.sub fun p hp => .tail _ (List.mem_append_left _ hp)) (.cons (fun h hk hp => ⟨_, _, _, _, rfl, ⟨_, hp _ (.head _), rfl, _, rfl⟩, hvia h hk fun p hp' => hp p (.tail _ (List.mem_append_right _ hp'))⟩) .nil)
  · intro h' tk' m' news' F3 N3 hJ
    rcases hJ with ⟨cs, ownC, o1, o2, o3, o4, o5, tk0, n0, rfl, rfl, hca, hpc⟩ | hJ
    · rw [hlen, List.take_length] at hpc
      rw [hlen, List.take_length] at F3
      unfold Mine.mkL at F3
      replace F3 : Fr s.heap L _ _ := F3
      replace N3 : News s.heap L _ _ := N3
      k_steps
      rename Fr _ _ _ _ => F4
      rename News _ _ _ _ => N4
      show Mine.Done _
      unfold Mine.Done
      refine ⟨_, _, _, _, _, _, ⟨⟨_, _, rfl, F4.keep⟩, fun p hp => ⟨(N4 p hp).1, (N4 p hp).2.2⟩⟩, rfl, .head _, rfl, rfl, fun h hk hp' => ⟨hl, _, _, _, _, rfl, ⟨_, hp' _ (.tail _ (.head _)), rfl, _, rfl⟩, ⟨_, hp' _ (.tail _ (.tail _ (.head _))), rfl, _, rfl⟩, ?_⟩⟩
      exact hpc.mono fun c y hv => hv h hk fun p hp => hp' p (.tail _ (.tail _ (.tail _ hp)))
    · exact hJ.elim

end Mine

end PartMCalc2

section PartMCalc3
open PySem PySem.W PyProof.Rows PySem.Calls
local macro_rules | `(tactic| walk_at "eval ListComp") => `(tactic| refine Mine.stop_ ?_)
local macro_rules | `(tactic| walk_at "call builtin:len") => `(tactic| ((with_reducible show wpAny _ _ (call (Value.builtin "len") [Value.str _ _]) _ _ _); refine len_str (by assumption) ?_))
local macro_rules | `(tactic| walk_at "subscriptTail") => `(tactic| ((with_reducible show wpAny _ _ (subscriptTail _ _ (Value.ref _) (Value.str _ _)) _ _ _); refine Mine.item_dict (by assumption) (by assumption) ?_ (by with_unfolding_all rfl) (by intro _; with_unfolding_all rfl)))
local macro_rules | `(tactic| walk_at "call ref") => `(tactic| refine Mine.stop_ ?_)
local macro_rules | `(tactic| walk_at "eval Name") => `(tactic| ((with_reducible show wpAny _ _ (eval (Expr.Name _ _) (compEnvC _ _ _ _)) _ _ _); first
  | (refine Mine.cname_L (by assumption) (by assumption) ?_ (by rfl) (by rfl) (by decide))
  | (refine Mine.cname_C (by rfl) (by assumption) ?_ (by rfl) (by rfl) (by decide))
  | (refine Mine.cname_K (by assumption) (by rfl) ?_ (by rfl) (by rfl) (by rfl) (by decide))
  | (refine Mine.cname_B (by assumption) (by rfl) (by boot_by_name) (by decide) ?_ (by rfl) (by rfl) (by rfl) (by rfl) (by decide))))
namespace Mine
variable {w : World} {p : Program} {loose : List Str} {mean : ExcName → Option Value} {mg mb : Str → Option Value}

local macro_rules | `(tactic| walk_at "assign Tuple") => `(tactic| ((with_reducible show wpAny _ _ (assign (Expr.Tuple _ _ _) _ (Value.ref _)) _ _ _); refine unpackN_ (by assumption) (by assumption) (by assumption) (by assumption) (by rfl) (by rfl) ?_; intro h' F' N'))
local macro_rules | `(tactic| walk_at "exec For Tuple Call") => `(tactic| refine Mine.stop_ ?_)
local macro_rules | `(tactic| walk_at "exec For Name Name") => `(tactic| refine Mine.stop_ ?_)
@[irreducible] def mkD (o1 o2 o3 o4 o5 o6 : Option Value) (acc : Addr) (wv nd : Value) : Str → Option Value := fun y =>
  if y = Str.ofString "total_weight" then o1 else if y = Str.ofString "child_structure" then o2 else if y = Str.ofString "child_weight" then o3 else if y = Str.ofString "edge_weight" then o4 else if y = Str.ofString "v" then o5 else if y = Str.ofString "k" then o6 else 
  if y = Str.ofString "children_weights" then some (.ref acc) else if y = Str.ofString "weight" then some wv else if y = Str.ofString "node" then some nd else none
theorem mkD_init {acc : Addr} {wv nd : Value} : (fun y => if y = Str.ofString "children_weights" then some (Value.ref acc) else if y = Str.ofString "weight" then some wv else if y = Str.ofString "node" then some nd else none) = mkD none none none none none none acc wv nd := by
  funext y
  unfold mkD
  by_cases h0 : y = Str.ofString "weight"
  · subst h0; rfl
  by_cases h1 : y = Str.ofString "total_weight"
  · subst h1; rfl
  by_cases h2 : y = Str.ofString "child_structure"
  · subst h2; rfl
  by_cases h3 : y = Str.ofString "child_weight"
  · subst h3; rfl
  by_cases h4 : y = Str.ofString "edge_weight"
  · subst h4; rfl
  by_cases h5 : y = Str.ofString "v"
  · subst h5; rfl
  by_cases h6 : y = Str.ofString "k"
  · subst h6; rfl
  by_cases h7 : y = Str.ofString "children_weights"
  · subst h7; rfl
  by_cases h8 : y = Str.ofString "node"
  · subst h8; rfl
  simp only [h0, h1, h2, h3, h4, h5, h6, h7, h8, if_false]
theorem mkD_turn {o1 o2 o3 o4 o5 o6 : Option Value} {a1 a2 a3 a4 a5 a6 wv wv0 nd : Value} {acc : Addr} : (fun y => if y = Str.ofString "weight" then some wv else if y = Str.ofString "total_weight" then some a1 else if y = Str.ofString "child_structure" then some a2 else if y = Str.ofString "child_weight" then some a3 else if y = Str.ofString "edge_weight" then some a4 else if y = Str.ofString "v" then some a5 else if y = Str.ofString "k" then some a6 else 
    if y = Str.ofString "total_weight" then o1 else if y = Str.ofString "child_structure" then o2 else if y = Str.ofString "child_weight" then o3 else if y = Str.ofString "edge_weight" then o4 else if y = Str.ofString "v" then o5 else if y = Str.ofString "k" then o6 else 
    if y = Str.ofString "children_weights" then some (.ref acc) else if y = Str.ofString "weight" then some wv0 else if y = Str.ofString "node" then some nd else none) = mkD (some a1) (some a2) (some a3) (some a4) (some a5) (some a6) acc wv nd := by
  funext y
  unfold mkD
  by_cases h0 : y = Str.ofString "weight"
  · subst h0; rfl
  by_cases h1 : y = Str.ofString "total_weight"
  · subst h1; rfl
  by_cases h2 : y = Str.ofString "child_structure"
  · subst h2; rfl
  by_cases h3 : y = Str.ofString "child_weight"
  · subst h3; rfl
  by_cases h4 : y = Str.ofString "edge_weight"
  · subst h4; rfl
  by_cases h5 : y = Str.ofString "v"
  · subst h5; rfl
  by_cases h6 : y = Str.ofString "k"
  · subst h6; rfl
  by_cases h7 : y = Str.ofString "children_weights"
  · subst h7; rfl
  by_cases h8 : y = Str.ofString "node"
  · subst h8; rfl
  simp only [h0, h1, h2, h3, h4, h5, h6, h7, h8, if_false]
def calcD (w : World) {α : Type} (S : Rl α) (f : α → Int) (h₀ : Heap) (kvs : List (Str × α)) (acc : Addr) (nd : Value) (i : Nat) (m : Str → Option Value) (news : List (Addr × Obj)) : Prop :=
  ∃ (es : List (Str × Value)) (oD : Obj) (ownC : List (Addr × Obj)) (o1 o2 o3 o4 o5 o6 : Option Value) (tk : Tok), m = mkD o1 o2 o3 o4 o5 o6 acc (.int ((kvs.take i).map fun p => (p.1.length : Int) + f p.2).sum tk) nd ∧ news = (acc, oD) :: ownC ∧
    oD.IsDictOf (strKind prog w) es ∧ (∀ p ∈ ownC, p.1 ≠ acc) ∧ Paired (fun (e : Str × Value) (q : Str × α) => e.1 = q.1 ∧ Via (fun h v y => EntryIs S f h q.1.length v y) h₀ ownC e.2 q.2) es (kvs.take i)

theorem stored_new {α : Type} {kvs : List (Str × α)} {es' : List (Str × Value)} {G : Str × Value → Str × α → Prop} {i : Nat} {k : Str} {v : Value} {q : Str × α} (hnd : (kvs.map (·.1)).Nodup) (hq : kvs[i]? = some q) (hqk : k = q.1) (hpc : Paired (fun e q => e.1 = q.1 ∧ G e q) es' (kvs.take i)) : stored es' k v = es' ++ [(k, v)] := by
  unfold stored
  rw [if_neg]
  intro hany
  obtain ⟨e, he, hk⟩ := List.any_eq_true.mp hany
  have hk : e.1 = k := by simpa using hk
  obtain ⟨j, hj⟩ := List.getElem?_of_mem he
  obtain ⟨q', hq', hk', _⟩ := Paired.at' hpc j e hj
  have hji : j < i := by
    have := (List.getElem?_eq_some_iff.mp hq').1
    rw [List.length_take] at this; omega
  rw [List.getElem?_take_of_lt hji] at hq'
  have h1 := (List.getElem?_eq_some_iff.mp hq).1
  have h2 := (List.getElem?_eq_some_iff.mp hq').1
  have e1 : (kvs.map (·.1))[i]? = some q.1 := by rw [List.getElem?_map, hq]; rfl
  have e2 : (kvs.map (·.1))[j]? = some q.1 := by rw [List.getElem?_map, hq', ← hqk, ← hk, hk']; rfl
  have := (List.getElem?_inj (by simpa using h2) hnd).mp (e2.trans e1.symm)
  omega

set_option maxHeartbeats 1000000 in
theorem calc_dict {α : Type} {R S : Rl α} {f : α → Int} {k : Nat} (hR : Mono R) (ih : CalcOk w p loose mean mg mb R S f k) : ∀ (A : Around) (s : Shared) (v : Value) (kvs : List (Str × α)) (h₀ : Heap) (E : Value → Shared → Prop), Am (k + 5) A → Gd w p loose mean mg mb s.heap → (∀ b o, h₀.get? b = some o → s.heap.get? b = some o) → ContIs w R h₀ v (.dict kvs) →
    wpAny (model PySem.Challenge.rw_ez0045_01.row.prog w) A (call (.ref 42) [v]) (fun r s' => Mine.Done <| ∃ own t o tk c n, Left s s' own ∧ r = .ref t ∧ (t, o) ∈ own ∧ o.cls = .type "tuple" ∧ o.data = .seq #[.int (wtC f (.dict kvs)) tk, c] n ∧ Via (StC w S f) h₀ own c (.dict kvs)) E s := by
  intro A s v kvs h₀ E hA G hk0 hx
  obtain ⟨X, T⟩ := G
  revert X; k_fill; intro X
  refine callF' (binds := [(Str.ofString "node", v)]) (fun y => if y = Str.ofString "node" then some v else none) hA.room (X 42 _ rfl) rfl T.nolimit (codeRec_of X (by rfl)) (BindsTo.of_eq rfl) (by rfl) rfl rfl rfl
    (fun _ => rfl) (fun _ => rfl) fun L h₁ tk F N => ?_
  w_on
  have hh : A.handled = none := hA.hd
  obtain ⟨hl, hks, a, es, rfl, hsm, hd, hp⟩ := hx
  have hds := dictOf_keeps hd hk0
  have ha : ∃ o, s.heap.get? a = some o ∧ o.cls = .type "dict" := let ⟨o, _, _, ho, hc, _⟩ := hds; ⟨o, ho, hc.1⟩
  obtain ⟨od, hod, hcd⟩ := ha
  have hod1 := F.keep _ _ hod
  have hlen := hp.length
  have hnd : (kvs.map (·.1)).Nodup := by
    obtain ⟨_, hat⟩ := hd.dictAt
    rw [← paired_keys hp]
    exact hat.nodup
  k_steps
  unfold Mine.Stop
  rename Fr _ _ _ _ => F2
  rename News _ _ _ _ => N2
  rename Addr => acc
  rename Obj.IsDictOf (PySem.strKind _ _) _ _ => hs0
  rename (acc == sysModules) = false => lo0
  have hnone : ∀ b, (h₀.get? b).isSome → b ≠ acc := by
    rintro b hb rfl
    cases e : h₀.get? b with
    | none => rw [e] at hb; cases hb
    | some o =>
      have := (N2 _ (.head _)).2.2
      rw [hk0 _ _ e] at this; cases this
  refine for_items (knd := strKind prog w) (d := a) (kvs := es) s.heap hh (calcD w S f h₀ kvs acc (.ref a)) (fun _ _ => False) ?_ hsm hds F2 N2 rfl rfl ?_ ?_ ?_ ?_
  · have h1 := Heap.lt_size hod
    have h2 := F2.above
    rintro rfl
    exact absurd h1 (Nat.not_lt.mpr h2)
  · intro Q' hq
    k_steps
    exact hq
  · refine ⟨[], _, [], none, none, none, none, none, none, ?tk, ?e, rfl, hs0, fun _ h => (List.not_mem_nil h).elim, .nil⟩
    case e => rw [List.take_zero, List.map_nil, List.sum_nil]; exact mkD_init
  · rintro i t0 k key v m₁ news₁ s₂ own hi hkey ⟨es', oD, ownC, o1, o2, o3, o4, o5, o6, tk0, rfl, rfl, hD, hca, hpc⟩ hnit hown F3 N3 hit htup0
    obtain ⟨q, hq, hqk, hRy⟩ := Paired.at' hp i (k, v) hi
    dsimp only at hqk hRy
    obtain ⟨tkk, rfl⟩ : ∃ t, key = .str k t := Value.isStrOf_shape hkey
    have hfit : ¬ ((k.length : Int) ≥ 2 ^ 63) := by have := hks q (List.mem_of_getElem? hq); rw [hqk]; have e : q.1.length = q.1.cps.size := rfl; omega
    unfold Mine.mkD at F3
    replace F3 : Fr s.heap L _ _ := F3
    replace N3 : News s.heap L _ _ := N3
    k_steps
    unfold Mine.Stop
    rename Fr _ _ _ _ => F4
    rename News _ _ _ _ => N4
    refine wpAny_mono (ih _ _ _ q.2 h₀ _ ((hA.deeper _).less (by omega)) ((Gd.mk X T).keeps F4.keep) (fun b o e => F4.keep _ _ (hk0 _ _ e)) hRy) (fun r s₅ h₅ => ?_) fun _ _ e => e
    unfold Mine.Done at h₅
    obtain ⟨own', t5, ob5, tk5, c5, n5, ⟨⟨h5, tkk, rfl, k5⟩, hnew⟩, rfl, hmem, hcls, hdat, hvia⟩ := h₅
    have F5 := F4.keeps k5
    obtain ⟨N5', hap⟩ := news_left F4 N4 k5 hnew
    have N5 : News s.heap L h5 ((acc, oD) :: (own' ++ own ++ ownC)) := by
      intro p hp
      refine N5' p ?_
      simp only [List.mem_cons, List.mem_append] at hp ⊢
      rcases hp with hp | (hp | hp) | hp
      · exact .inr (.inr (.inl hp))
      · exact .inl hp
      · exact .inr (.inl hp)
      · exact .inr (.inr (.inr hp))
    have hacc : s.heap.get? acc = none := (N5 _ (.head _)).2.2
    have hrest : ∀ p ∈ own' ++ own ++ ownC, p.1 ≠ acc := by
      intro p hp
      simp only [List.mem_append] at hp
      rcases hp with (hp | hp) | hp
      · exact hap p hp (acc, _) (List.mem_append_right _ (.head _))
      · rcases hown p hp with e | e
        · rw [e]; exact (hnit _ (.head _)).symm
        · rw [e]; rintro rfl
          rw [hod] at hacc; cases hacc
      · exact hca p hp
    have hi1 : ∀ p ∈ own', p ∈ own' ++ own ++ ownC := by intro p hp; simp [hp]
    have hi2 : ∀ p ∈ own, p ∈ own' ++ own ++ ownC := by intro p hp; simp [hp]
    have hi3 : ∀ p ∈ ownC, p ∈ own' ++ own ++ ownC := by intro p hp; simp [hp]
    have htup : IsTup h5 t5 #[.int (f q.2) tk5, c5] := ⟨ob5, (hnew _ hmem).1, hcls, _, hdat⟩
    clear F4 N4 htup0
    revert hrest hi1 hi2 hi3 N5
    generalize own' ++ own ++ ownC = rest
    intro N5 hrest hi1 hi2 hi3
    k_steps
    rename Fr _ _ _ _ => F7
    rename News _ _ _ _ => N7
    have hcl : oD.cls = .type "dict" := by obtain ⟨_, _, hx, _⟩ := hD; exact hx.1
    have hne0 := ne_of_cls N7 (.head _) (.tail _ (.head _)) (by rw [hcl]; exact (show Value.type "tuple" ≠ Value.type "dict" by decide))
    refine kda_set F7 N7 (.tail hne0 (.head hrest)) hD (strKind_is prog w k _) (by rw [hpc.length, List.length_take, sizeLine_eq]; omega) ?_
    intro h8 oD8 F8 N8 hD8
    rw [stored_new hnd hq hqk hpc] at hD8
    clear F7 N7
    k_steps
    obtain ⟨io, hio, hioc⟩ := hit
    have hcl8 : oD8.cls = .type "dict" := by obtain ⟨_, _, hx, _⟩ := hD8; exact hx.1
    have hsum : ((kvs.take (i + 1)).map fun p => (p.1.length : Int) + f p.2).sum = ((kvs.take i).map fun p => (p.1.length : Int) + f p.2).sum + (k.length + f q.2) := by rw [take_at hq, hqk]; simp
    have hne := ne_of_cls N8 (.head _) (.tail _ (.tail _ (hi2 _ hio))) (by rw [hioc]; exact (show Value.type "tuple" ≠ Value.type "dict_itemiterator" by decide))
    have hne2 := ne_of_cls N8 (.head _) (.tail _ (.head _)) (by rw [hcl8]; exact (show Value.type "tuple" ≠ Value.type "dict" by decide))
    have hni' : ∀ p ∈ own', p.1 ≠ _ := fun p hp => hap p hp _ (List.mem_append_left _ hio)
    have N9 := turn_news N8 hi1 hi2 hi3
    refine ⟨_, _, _, _, rfl, mkD_turn ▸ F8, N9, ?_, ⟨_, _, _, _, _, _, _, _, _, _, congrArg (fun z => mkD _ _ _ _ _ _ acc (.int z _) _) hsum.symm, rfl, hD8, ?_, ?_⟩⟩
    · intro p hp hm
      have hm := List.mem_singleton.mp hm
      simp only [List.mem_append, List.mem_cons] at hp
      rcases hp with hp | hp | hp | hp
      · rw [hp] at hm; exact hnit _ (.head _) hm
      · rw [hp] at hm; exact hne hm
      · exact hnit _ (.tail _ hp) hm
      · exact hni' p hp hm
    · intro p hp
      simp only [List.mem_append, List.mem_cons] at hp
      rcases hp with hp | hp | hp
      · rw [hp]; exact hne2
      · exact hca p hp
      · exact hrest p (hi1 p hp)
    · rw [take_at hq]
      refine Paired.append (hpc.mono fun c z hz => ⟨hz.1, hz.2.sub fun p hp => .tail _ (List.mem_append_left _ hp)⟩) (.cons ⟨hqk, fun h hk hp => ⟨_, _, _, _, rfl, ⟨_, hp _ (.head _), by rw [hqk], _, by rw [← hqk]⟩, hvia h hk fun p hp' => hp p (.tail _ (List.mem_append_right _ hp'))⟩⟩ .nil)
  · intro h' tk' m' news' F3 N3 hJ
    rcases hJ with ⟨es', oD, ownC, o1, o2, o3, o4, o5, o6, tk0, rfl, rfl, hD, hca, hpc⟩ | hJ
    · rw [hlen, List.take_length] at hpc
      rw [hlen, List.take_length] at F3
      unfold Mine.mkD at F3
      replace F3 : Fr s.heap L _ _ := F3
      replace N3 : News s.heap L _ _ := N3
      k_steps
      rename Fr _ _ _ _ => F4
      rename News _ _ _ _ => N4
      show Mine.Done _
      unfold Mine.Done
      refine ⟨_, _, _, _, _, _, ⟨⟨_, _, rfl, F4.keep⟩, fun p hp => ⟨(N4 p hp).1, (N4 p hp).2.2⟩⟩, rfl, .head _, rfl, rfl, fun h hk hp' => ⟨hl, hks, _, _, _, es', rfl, ⟨_, hp' _ (.tail _ (.head _)), rfl, _, rfl⟩, lo0, Heap.dictOf_iff.mpr ⟨oD, hp' _ (.tail _ (.tail _ (.head _))), hD⟩, ?_⟩⟩
      exact hpc.mono fun c y hv => ⟨hv.1, hv.2 h hk fun p hp => hp' p (.tail _ (.tail _ (.tail _ hp)))⟩
    · exact hJ.elim

theorem calc_step {α : Type} {R S : Rl α} {f : α → Int} {k : Nat} (hR : Mono R) (ih : CalcOk w p loose mean mg mb R S f k) : CalcOk w p loose mean mg mb (ContIs w R) (StC w S f) (wtC f) (k + 5)
  | A, s, v, .leaf l, h₀, E, hA, G, hk, hx => calc_leaf hR ih A s v l h₀ E hA G hk hx
  | A, s, v, .list xs, h₀, E, hA, G, hk, hx => calc_list hR ih A s v xs h₀ E hA G hk hx
  | A, s, v, .dict kvs, h₀, E, hA, G, hk, hx => calc_dict hR ih A s v kvs h₀ E hA G hk hx
end Mine

end PartMCalc3

section PartMSort
open PySem PySem.W PyProof.Rows PySem.Calls
namespace Mine

/-! ## The order that a sort brings about -/
def run {α : Type} (c : Nat → Nat → Bool) : KasT α → α
  | .ret a => a
  | .ask i j k => run c (k (c i j))
def okB {α : Type} (n : Nat) (f : α → Bool) : KasT α → Bool
  | .ret a => f a
  | .ask i j k => decide (i < n) && decide (j < n) && okB n f (k true) && okB n f (k false)
theorem okB_run {α : Type} {n : Nat} {f : α → Bool} (c : Nat → Nat → Bool) : ∀ t : KasT α, okB n f t = true → f (run c t) = true
  | .ret a, h => h
  | .ask i j k, h => by
    simp only [okB, Bool.and_eq_true] at h
    unfold run
    cases c i j with
    | true => exact okB_run c _ h.1.2
    | false => exact okB_run c _ h.2
theorem run_wp {α : Type} {n : Nat} {f : α → Bool} {cmp : Nat → Nat → (Bool → Shared → Prop) → Shared → Prop} {c : Nat → Nat → Bool} (hc : ∀ i j C s, i < n → j < n → C (c i j) s → cmp i j C s) {Q : α → Shared → Prop} {s : Shared} : ∀ t : KasT α, okB n f t = true → Q (run c t) s → t.kasWp cmp Q s
  | .ret a, _, h => h
  | .ask i j k, ht, h => by
    simp only [okB, Bool.and_eq_true, decide_eq_true_eq] at ht
    refine hc i j _ s ht.1.1.1 ht.1.1.2 ?_
    unfold run at h
    cases e : c i j with
    | true => rw [e] at h; exact run_wp hc _ ht.1.2 h
    | false => rw [e] at h; exact run_wp hc _ ht.2 h
def less (kz : List Int) (i j : Nat) : Bool := decide (kz.reverse.getD i 0 < kz.reverse.getD j 0)
/-- the places in the order of a sort with reverse=True -/
def ord (kz : List Int) : List Nat :=
  if kz.length < 2 then List.range kz.length else ((run (less kz) (kas_sort kz.length)).toList.map fun i => kz.length - 1 - i).reverse
def permB (n : Nat) (p : Array Nat) : Bool := decide (p.toList.Perm (List.range n))
theorem ok2 : okB 2 (permB 2) (kas_sort 2) = true := by decide
theorem ok3 : okB 3 (permB 3) (kas_sort 3) = true := by decide
theorem ok_any {n : Nat} (h2 : ¬ n < 2) (h3 : n ≤ 3) : okB n (permB n) (kas_sort n) = true := by
  obtain rfl | rfl : n = 2 ∨ n = 3 := by omega
  · exact ok2
  · exact ok3
theorem run_perm {kz : List Int} (h2 : ¬ kz.length < 2) (h3 : kz.length ≤ 3) : (run (less kz) (kas_sort kz.length)).toList.Perm (List.range kz.length) :=
  of_decide_eq_true (okB_run (f := permB kz.length) (less kz) _ (ok_any h2 h3))
theorem ord_perm {kz : List Int} (h3 : kz.length ≤ 3) : (ord kz).Perm (List.range kz.length) := by
  unfold ord
  split
  · exact .refl _
  · rename_i h2
    refine (List.reverse_perm _).trans (((run_perm h2 h3).map _).trans ?_)
    generalize kz.length = n at h2 h3
    obtain rfl | rfl : n = 2 ∨ n = 3 := by omega
    · decide
    · decide
theorem ord_map {α : Type} {kz : List Int} {vs : List α} {d : α} (hlen : kz.length = vs.length) (h2 : ¬ kz.length < 2) (h3 : kz.length ≤ 3) :
    (((run (less kz) (kas_sort kz.length)).toList.map fun i => vs.reverse.getD i d)).reverse = (ord kz).map fun i => vs.getD i d := by
  unfold ord
  rw [if_neg h2, List.map_reverse, List.map_map]
  congr 1
  refine List.map_congr_left fun i hi => ?_
  have hi : i < kz.length := by simpa using (run_perm h2 h3).mem_iff.mp hi
  simp only [Function.comp, List.getD_eq_getElem?_getD]
  rw [List.getElem?_reverse (by omega), hlen]

section
variable {w : World} {A : Around} {E : Value → Shared → Prop} {s : Shared} {h₀ : Heap} {L : Addr} {m : Str → Option Value} {news : List (Addr × Obj)}
theorem ints_at {vs : List Value} {ns : List Int} (h : IntsAre vs ns) {i : Nat} (hi : i < ns.length) : ∃ t, vs.getD i Value.none = .int (ns.getD i 0) t := by
  induction h generalizing i with
  | nil => cases hi
  | cons n t r ih =>
    cases i with
    | zero => exact ⟨t, rfl⟩
    | succ i => simpa using ih (by simpa using hi)
theorem ints_snoc {n : Int} {t : Tok} {vs : List Value} {ns : List Int} (h : IntsAre vs ns) : IntsAre (vs ++ [.int n t]) (ns ++ [n]) := ksk_snoc h
theorem ints_rev {vs : List Value} {ns : List Int} (h : IntsAre vs ns) : IntsAre vs.reverse ns.reverse := by
  induction h with
  | nil => exact .nil
  | cons n t r ih => rw [List.reverse_cons, List.reverse_cons]; exact ksk_snoc ih
theorem kat_run_keys {f : Value} {kS D : Addr} {e1 : Nat} {Fin : List Value → Nat → Shared → Prop} (hkD : D < kS) (hnD : ∀ q ∈ news, q.1 < D) :
    ∀ {vs : List Value} {kz : List Int} {ks : List Value} {kd : List Int} {e : Nat} {s : Shared}, kz.length = vs.length →
    (∀ (i : Nat) (v : Value) (k : Int) (s' : Shared), vs[i]? = some v → kz[i]? = some k → Fr h₀ L s'.heap m → News h₀ L s'.heap news → wpAny (model prog w) A (call f [v]) (fun r s'' => Keeps s' s'' ∧ ∃ t, r = .int k t) (fun _ _ => False) s') →
    IntsAre ks kd → Fr h₀ L s.heap m → News h₀ L s.heap ((kS, seqObj "list" (List.toArray ks) e) :: (D, seqObj "list" #[] e1) :: news) →
    (∀ ks' e' h' tk, IntsAre ks' (kd ++ kz) → Fr h₀ L h' m → News h₀ L h' ((kS, seqObj "list" (List.toArray ks') e') :: (D, seqObj "list" #[] e1) :: news) → Fin ks' e' { s with heap := h', toks := tk }) →
    KatKeys prog w A h₀ L m kS f Fin vs ks e s
  | [], [], ks, kd, e, s, _, _, hk, F, N, h => KatKeys.nil (h ks e s.heap s.toks (by simpa using hk) F N)
  | v :: vs, k :: kz, ks, kd, e, s, hl, turn, hk, F, N, h => by
    refine KatKeys.cons (wpAny_mono (turn 0 v k s rfl rfl F fun p hp => N p (.tail _ (.tail _ hp))) (fun r s' hr => ?_) fun _ _ x => x)
    obtain ⟨⟨h', tk, rfl, hkeep⟩, t, rfl⟩ := hr
    refine KatBack.intro (F.keeps hkeep) (N.grown hkeep) (.head fun p hp => ?_) fun h'' c F' N' => ?_
    · rcases List.mem_cons.mp hp with rfl | hp
      · exact Nat.ne_of_lt hkD
      · exact Nat.ne_of_lt (Nat.lt_trans (hnD p hp) hkD)
    · refine kat_run_keys hkD hnD (vs := vs) (kz := kz) (kd := kd ++ [k]) (by simpa using hl) (fun i v' k' s' h1 h2 => turn (i + 1) v' k' s' (by simpa using h1) (by simpa using h2)) (ksk_snoc hk) F' N' fun ks' e' h3 tk3 hk' F3 N3 => ?_
      exact h ks' e' h3 tk3 (by simpa using hk') F3 N3
  | [], _ :: _, _, _, _, _, hl, _, _, _, _, _ => by simp at hl
  | _ :: _, [], _, _, _, _, hl, _, _, _, _, _ => by simp at hl

theorem sorted_rev {l : Addr} {vs : List Value} {kz : List Int} {f : Value} {kw : List (Str × Value)} {Q : Value → Shared → Prop} (F : Fr h₀ L s.heap m) (N : News h₀ L s.heap news) (hl : s.heap.IsList l vs.toArray) (hlen : kz.length = vs.length) (h3 : vs.length ≤ 3)
    (ha1 : argsOk "sorted" ⟨[.ref l], kw⟩) (ha2 : ∀ x, argsOk "list.sort" ⟨[.ref x], kw⟩) (ht : ∀ x, Builtin.«list.sort» ⟨[.ref x], kw⟩ = ksk_tree x f true)
    (turn : ∀ (i : Nat) (v : Value) (k : Int) (s' : Shared), vs[i]? = some v → kz[i]? = some k → Fr h₀ L s'.heap m → News h₀ L s'.heap news → wpAny (model prog w) A.in1.in1 (call f [v]) (fun r s'' => Keeps s' s'' ∧ ∃ t, r = .int k t) (fun _ _ => False) s')
    (h : ∀ D c h' tk, Fr h₀ L h' m → News h₀ L h' ((D, listOf ((ord kz).map fun i => vs.getD i .none).toArray c) :: news) → (∀ q ∈ news, q.1 < D) → Q (.ref D) { s with heap := h', toks := tk }) :
    wpAny (model prog w) A (call (.builtin "sorted") [.ref l] kw) Q E s := by
  by_cases h2 : vs.length < 2
  · refine ksk_sorted F N hl hlen (by omega) ha1 ha2 ht (fun i v k hv hk h' tk own F' N' => ?_) fun D h' tk out c F' N' hD hout => ?_
    · refine wpAny_mono (turn i v k _ hv hk F' fun p hp => N' p (List.mem_append_left _ hp)) (fun r s' hr => ?_) fun _ _ x => x
      obtain ⟨⟨h'', tk', rfl, hkeep⟩, t, rfl⟩ := hr
      exact KskEnd.intro (F'.keeps hkeep) (N'.grown hkeep) fun p hp => hp
    · have e : out.toList = (ord kz).map fun i => vs.getD i .none := by
        obtain ⟨ps, hp, ho, _⟩ := hout
        rw [ho]
        unfold ord
        rw [if_pos (by omega)]
        match vs, kz, hlen, h2, hp with
        | [], [], _, _, hp => have e0 : ps = [] := List.Perm.eq_nil (by simpa using hp); rw [e0]; rfl
        | [v], [k], _, _, hp => have e0 : ps = [(k, v)] := List.perm_singleton.mp (by simpa using hp); rw [e0]; rfl
        | _ :: _ :: _, _, _, h2, _ => simp at h2; omega
      have e2 : out = ((ord kz).map fun i => vs.getD i .none).toArray := by rw [← e]
      subst e2
      exact h D c h' tk F' N' hD
  · refine kat_sortedK F N hl (by omega) (by omega) ha1 ha2 ht fun D kS e1 h' F' N' hDk hnD => ?_
    refine kat_run_keys hDk hnD hlen turn .nil F' N' fun ks e h'' tk hks F'' N'' => ?_
    have hks : IntsAre ks kz := by simpa using hks
    have hkl := hks.length
    rw [ksk_kind (kz := kz) (by simpa using hks) (by simp [hkl]; omega)]
    refine wpAny_pure ?_
    have hn : vs.length = kz.length := hlen.symm
    rw [hn]
    refine run_wp (n := kz.length) (f := permB kz.length) (c := less kz) (fun i j C s' hi hj hC => ?_) _ (ok_any (by omega) (by omega)) ?_
    · have hr := ints_rev hks
      obtain ⟨t1, e1⟩ := ints_at hr (i := i) (by simpa using hi)
      obtain ⟨t2, e2⟩ := ints_at hr (i := j) (by simpa using hj)
      unfold kas_ask katRev
      rw [if_pos rfl, e1, e2]
      exact kat_lt_int hC
    · refine KatFin.intro F'' N'' (.head fun p hp => ?_) fun h4 c4 F4 N4 => KasFin.intro F4 N4 (.tail (Nat.ne_of_gt hDk) (.head fun p hp => Nat.ne_of_lt (hnD p hp))) fun h5 c5 F5 N5 => ?_
      · rcases List.mem_cons.mp hp with rfl | hp
        · exact Nat.ne_of_lt hDk
        · exact Nat.ne_of_lt (Nat.lt_trans (hnD p hp) hDk)
      · have e : katRev true ((run (less kz) (kas_sort kz.length)).toList.map fun i => (katRev true vs).getD i Value.none) = (ord kz).map fun i => vs.getD i .none := by
          unfold katRev
          rw [if_pos rfl, if_pos rfl]
          exact ord_map hlen (by omega) (by omega)
        rw [e] at N5
        exact h D c5 h5 tk F5 (fun p hp => N5 p (.tail _ hp)) hnD
end
end Mine

end PartMSort

section PartMSort2
open PySem PySem.W PyProof.Rows PySem.Calls Builtin
namespace Mine
theorem paired_perm {α β : Type} {F : α → β → Prop} {l l' : List α} (hp : l.Perm l') : ∀ {r : List β}, Paired F l r → ∃ r', r'.Perm r ∧ Paired F l' r' := by
  induction hp with
  | nil => intro r h; exact ⟨r, .refl _, h⟩
  | cons x hp ih => intro r h; cases h with | cons a t => obtain ⟨r', h1, h2⟩ := ih t; exact ⟨_ :: r', h1.cons _, .cons a h2⟩
  | swap x y l => intro r h; cases h with | cons a t => cases t with | cons b t => exact ⟨_ :: _ :: _, .swap _ _ _, .cons b (.cons a t)⟩
  | trans _ _ ih1 ih2 => intro r h; obtain ⟨r', h1, h2⟩ := ih1 h; obtain ⟨r2, h3, h4⟩ := ih2 h2; exact ⟨r2, h3.trans h1, h4⟩
theorem zip_snd {α β : Type} : ∀ {l : List α} {r : List β}, l.length = r.length → (l.zip r).map Prod.snd = r
  | [], [], _ => rfl
  | [], _ :: _, h => by simp at h
  | _ :: _, [], h => by simp at h
  | _ :: l, _ :: r, h => by simp [zip_snd (l := l) (r := r) (by simpa using h)]
abbrev tupO (key x : Value) : Obj := { cls := .type "tuple", data := .seq #[key, x] }
section
variable {prog : Program} {w : World} {K : Type} [DecidableEq K] {knd : KeyKind prog w K} {A : Around} {E : Value → Shared → Prop} {s : Shared} {h₀ : Heap} {L : Addr} {m : Str → Option Value} {news : List (Addr × Obj)}
theorem tups_of {h : Heap} : ∀ {as : List Addr} {kvs : List (K × Value)}, as.length = kvs.length →
    (∀ (j : Nat) (a : Addr), as[j]? = some a → ∃ key k x, kvs[j]? = some (k, x) ∧ knd.is k key = true ∧ h.get? a = some (tupO key x)) →
    ∃ tups : List (Addr × Obj), (∀ p ∈ tups, h.get? p.1 = some p.2 ∧ p.1 ∈ as) ∧ (∀ p ∈ tups, ∃ key x, p.2 = tupO key x) ∧ Paired (fun (v : Value) (kv : K × Value) => ∃ T key, v = .ref T ∧ knd.is kv.1 key = true ∧ (T, tupO key kv.2) ∈ tups) (as.map Value.ref) kvs
  | [], [], _, _ => ⟨[], fun _ h => (List.not_mem_nil h).elim, fun _ h => (List.not_mem_nil h).elim, .nil⟩
  | [], _ :: _, h, _ => by simp at h
  | _ :: _, [], h, _ => by simp at h
  | a :: as, kv :: kvs, hl, h => by
    obtain ⟨tups, h1, h1', h2⟩ := tups_of (as := as) (kvs := kvs) (by simpa using hl) fun j b hb => h (j + 1) b (by simpa using hb)
    obtain ⟨key, k, x, e, hk, ho⟩ := h 0 a rfl
    cases e
    refine ⟨(a, tupO key x) :: tups, fun p hp => ?_, fun p hp => ?_, .cons ⟨a, key, rfl, hk, .head _⟩ (h2.mono fun v kv ⟨T, key', e1, e2, e3⟩ => ⟨T, key', e1, e2, .tail _ e3⟩)⟩
    rcases List.mem_cons.mp hp with rfl | hp
    · exact ⟨ho, .head _⟩
    · exact ⟨(h1 p hp).1, .tail _ (h1 p hp).2⟩
    rcases List.mem_cons.mp hp with rfl | hp
    · exact ⟨key, x, rfl⟩
    · exact h1' p hp

theorem sorted_items {v d : Addr} {kvs : List (K × Value)} {ep : Nat} {kz : List Int} {f : Value} {kw : List (Str × Value)} {Q : Value → Shared → Prop} (hh : A.handled = none) (F : Fr h₀ L s.heap m) (N : News h₀ L s.heap news)
    (hv : s.heap.IsItemsView v d) (hm : s.heap.DictAt knd d kvs ep) (hlen : kz.length = kvs.length) (h3 : kvs.length ≤ 3)
    (ha1 : argsOk "sorted" ⟨[.ref v], kw⟩) (ha2 : ∀ x, argsOk "list.sort" ⟨[.ref x], kw⟩) (ht : ∀ x, Builtin.«list.sort» ⟨[.ref x], kw⟩ = ksk_tree x f true)
    (turn : ∀ (i : Nat) (T : Addr) (k : K) (key x : Value) (n : Int) (s' : Shared), kvs[i]? = some (k, x) → kz[i]? = some n → knd.is k key = true → Fr h₀ L s'.heap m → News h₀ L s'.heap news → IsTup s'.heap T #[key, x] →
      wpAny (model prog w) A.in1.in1 (call f [.ref T]) (fun r s'' => Keeps s' s'' ∧ ∃ t, r = .int n t) (fun _ _ => False) s')
    (h : ∀ D c h' tk tups out kvs', Fr h₀ L h' m → News h₀ L h' ((D, listOf (List.toArray out) c) :: (tups ++ news)) → (∀ p ∈ tups, ∃ key x, p.2 = tupO key x) → List.Perm kvs' kvs →
      Paired (fun (v : Value) (kv : K × Value) => ∃ T key, v = .ref T ∧ knd.is kv.1 key = true ∧ (T, tupO key kv.2) ∈ tups) out kvs' → Q (.ref D) { s with heap := h', toks := tk }) :
    wpAny (model prog w) A (call (.builtin "sorted") [.ref v] kw) Q E s := by
  refine call_function_entry_kw kind_sorted plain_sorted entry_sorted ha1 ?_
  unfold Builtin.«sorted»
  refine wpAny_bind (m := checkCount "sorted" 1 1 _) (wpAny_pure ?_)
  refine wpAny_bind (kdx_collect (A := A.in1) (knd := knd) (kvs := kvs) (ep := ep) hh hv hm (by rw [sizeLine_eq]; omega) fun h1 tk1 as hk hl hG => ?_)
  obtain ⟨tups, hT1, hT3, hT2⟩ := tups_of (knd := knd) hl hG.pairs
  refine wpAny_bind (wpAny_newList ?_ (by rw [List.length_map, hl, sizeLine_eq]; omega))
  have F1 := F.keeps hk
  have N1 : News h₀ L h1 (tups ++ news) := fun q hq => by
    rcases List.mem_append.mp hq with hq | hq
    · obtain ⟨e1, e2⟩ := hT1 q hq
      exact ⟨e1, kdx_fresh F (Nat.le_of_lt (hG.above _ e2))⟩
    · exact ⟨hk _ _ (N q hq).1, (N q hq).2⟩
  have hoL : (h1.push (seqObj "list" (List.toArray (as.map Value.ref)) 0)).get? h1.objs.size = some (seqObj "list" (List.toArray (as.map Value.ref)) 0) := Heap.get?_push_size _ rfl
  refine wpAny_bind (wpAny_holding (wpAny_call_entry_kw slot_list_sort ⟨_, hoL, rfl⟩ entry_list_sort ?body (ha2 _)))
  case body =>
    have ht' := ht h1.objs.size
    show wpAny (model prog w) A.in1.in1 (Builtin.«list.sort» ⟨[.ref h1.objs.size], kw⟩) _ _ _
    rw [ht']
    have keep : ∀ b o, h1.get? b = some o → (h1.push (seqObj "list" (List.toArray (as.map Value.ref)) 0)).get? b = some o := fun b o e => Heap.get?_push_of_some _ e
    have hL := F1.ns.lt
    refine ksk_sort (kz := kz) (news := tups ++ news) (s := { s with heap := h1.push (seqObj "list" (List.toArray (as.map Value.ref)) 0), toks := tk1 })
      (F1.kept keep) (N1.grown keep) hoL (Nat.ne_of_gt hL) (Heap.get?_none_of_le (Nat.le_trans F1.above (Nat.le_of_lt hL)))
      (fun p hp => Nat.ne_of_lt (Heap.lt_size (N1 p hp).1)) (by rw [List.length_map]; omega) (by rw [List.length_map]; omega) (fun i u n hu hn h2 tk2 own F2 N2 => ?_) fun h' tk out c F' N' k' => ⟨_, rfl, ?_⟩
    · obtain ⟨kv, hkv, T, key, rfl, hkey, hmem⟩ := Paired.at' hT2 i u hu
      refine wpAny_mono (turn i T kv.1 key kv.2 n _ hkv hn hkey F2 (fun p hp => N2 p (List.mem_append_left _ (List.mem_append_right _ hp))) ⟨_, (N2 _ (List.mem_append_left _ (List.mem_append_left _ hmem))).1, rfl, _, rfl⟩) (fun r s' hr => ?_) fun _ _ x => x
      obtain ⟨⟨h'', tk', rfl, hkeep⟩, t, rfl⟩ := hr
      exact KskEnd.intro (F2.keeps hkeep) (N2.grown hkeep) fun p hp => hp
    · refine wpAny_pure ⟨_, rfl, ?_⟩
      obtain ⟨ps, hp, ho, _⟩ := k'
      have hperm : (as.map Value.ref).Perm out.toList := by
        rw [ho]
        have := (hp.map Prod.snd).symm
        rwa [zip_snd (by rw [List.length_map]; omega)] at this
      obtain ⟨kvs', h1', h2'⟩ := paired_perm hperm hT2
      exact h _ c h' tk tups out.toList kvs' F' (by simpa using N') hT3 h1' h2'
end
end Mine

end PartMSort2

section PartMLam
open PySem PySem.W PyProof.Rows PySem.Calls
namespace Mine
abbrev lamQ : Str := Str.ofString "shrink_tree_balanced.<locals>.<lambda>"
/-- the table of code objects of the lambdas -/
def TabOk (h : Heap) (ps : Array Value) : Prop := TriplesOk ps.toList ∧ ∀ pos cv, codeAmong pos ps.toList = some cv → h.CodeRec cv lamQ
theorem TabOk.keeps {h h' : Heap} {ps : Array Value} (x : TabOk h ps) (k : ∀ b o, h.get? b = some o → b ≠ 44 → h'.get? b = some o) (h44 : ∃ its, h.get? 44 = some (tabObj its) ∧ TriplesOk its.toList) : TabOk h' ps := by
  refine ⟨x.1, fun pos cv e => ?_⟩
  obtain ⟨c, oc, vs, t, e1, e2, e3, e4⟩ := x.2 pos cv e
  refine ⟨c, oc, vs, t, e1, k _ _ e2 ?_, e3, e4⟩
  rintro rfl
  obtain ⟨its, h4, ht⟩ := h44
  rw [e2] at h4; cases h4; cases e3
  rw [← Array.getElem?_toList] at e4
  match vs.toList, ht, e4 with
  | [], _, e4 => cases e4
  | [_], _, e4 => cases e4
  | .int _ _ :: .int _ _ :: _ :: _, _, e4 => cases e4
section
variable {prog : Program} {w : World} {A : Around} {E : Value → Shared → Prop} {s : Shared} {Q : Value → Shared → Prop}
theorem callLam {name qual : Str} {params : Arguments} {body : Expr} {scope : Scope} {pm ctv : Value} {c' f : Addr} {args : List Value} {binds : List (Str × Value)} {o : Obj} (m : Str → Option Value) (hroom : A.depth < recursionLimit)
    (ho : s.heap.get? f = some o) (hod : o.data = .func (kla_fn name qual params body scope [] pm (.ref c') ctv)) (hlim : s.heap.NoLimit) (hcd : s.heap.CodeRec (.ref c') qual)
    (hbind : bindArgs (kla_fn name qual params body scope [] pm (.ref c') ctv) ⟨args, []⟩ = pure binds) (hloc : ∀ y ∈ binds, scope.names.lookup y.1 = some .local)
    (hcell : ∀ x ∈ scope.names, x.2 ≠ .cell) (hco : scope.isCoroutine = false) (hgen : scope.isGenerator = false) (hk : scope.kind = .function) (hm : (fun y => binds.reverse.lookup y) = m)
    (h : ∀ L h₁, Fr s.heap L h₁ m → News s.heap L h₁ [] →
      wpAny (model prog w) (A.deeper (envX qual scope L f (.ref c') [])) (eval body (envX qual scope L f (.ref c') [])) Q (fun _ _ => False) { s with heap := h₁, toks := s.toks + binds.length }) :
    wpAny (model prog w) A (call (.ref f) args) Q E s := by
  refine wpAny_call (kla_callFunE hroom ho hod hco hgen rfl hcd ?_)
  rw [hbind]
  refine wpAny_pure (wpAny_newFunctionEnv hcell hloc (fun h₁ hns hsb => ⟨hlim.fresh _ hsb, ?_⟩) hk)
  show codeAny _ _ (.expr body (envX qual scope s.heap.objs.size f (.ref c') [])) _ _
  have hk₁ : ∀ b o, s.heap.get? b = some o → h₁.get? b = some o := fun b o e => hsb.extBut b o (Nat.ne_of_lt (Heap.lt_size e)) (Heap.get?_push_of_some _ e)
  subst hm
  exact kla_codeExpr (wpAny_mono (h s.heap.objs.size h₁ ⟨hns, hk₁, Nat.le_refl _⟩ News.nil) (fun v s' x => x) fun _ _ x => x.elim)
end

def CodeIn (own : List (Addr × Obj)) (cv : Value) : Prop := ∃ c oc vs t, cv = .ref c ∧ (c, oc) ∈ own ∧ oc.data = .fields vs ∧ vs[1]? = some (.str lamQ t)
/-- the table has grown by code objects among own -/
def TabStep (ps ps' : Array Value) (own : List (Addr × Obj)) : Prop := TriplesOk ps'.toList ∧ ∀ pos cv, codeAmong pos ps'.toList = some cv → codeAmong pos ps.toList = some cv ∨ CodeIn own cv
theorem CodeIn.sub {own own' : List (Addr × Obj)} {cv : Value} (h : CodeIn own cv) (k : ∀ p ∈ own, p ∈ own') : CodeIn own' cv := let ⟨c, oc, vs, t, e, hm, r⟩ := h; ⟨c, oc, vs, t, e, k _ hm, r⟩
theorem TabStep.sub {ps ps' : Array Value} {own own' : List (Addr × Obj)} (h : TabStep ps ps' own) (k : ∀ p ∈ own, p ∈ own') : TabStep ps ps' own' := ⟨h.1, fun pos cv e => (h.2 pos cv e).imp id fun x => x.sub k⟩
theorem TabStep.trans {ps ps' ps2 : Array Value} {own : List (Addr × Obj)} (h : TabStep ps ps' own) (h' : TabStep ps' ps2 own) : TabStep ps ps2 own :=
  ⟨h'.1, fun pos cv e => (h'.2 pos cv e).elim (h.2 pos cv) .inr⟩
theorem TabStep.refl {ps : Array Value} (h : TriplesOk ps.toList) (own : List (Addr × Obj)) : TabStep ps ps own := ⟨h, fun _ _ e => .inl e⟩
theorem TabStep.ok {ps ps' : Array Value} {own : List (Addr × Obj)} {h : Heap} (x : TabOk h ps) (y : TabStep ps ps' own) (hown : ∀ p ∈ own, h.get? p.1 = some p.2) : TabOk h ps' :=
  ⟨y.1, fun pos cv e => (y.2 pos cv e).elim (x.2 pos cv) fun ⟨c, oc, vs, t, e1, e2, r⟩ => ⟨c, oc, vs, t, e1, hown _ e2, r⟩⟩
theorem among_snoc {pos' : Pos} {a b : Int} {c cv : Value} (l : List Value) (h : TriplesOk l) (hx : codeAmong pos' (l ++ [rawInt a, rawInt b, c]) = some cv) : codeAmong pos' l = some cv ∨ cv = c := by
  fun_induction TriplesOk l with
  | case1 =>
    simp only [List.nil_append, codeAmong, rawInt] at hx
    split at hx
    · right; cases hx; rfl
    · cases hx
  | case2 a t b u x rest ih =>
    simp only [List.cons_append, codeAmong] at hx ⊢
    split at hx
    · rename_i hc; rw [if_pos hc]; exact .inl hx
    · rename_i hc; rw [if_neg hc]; exact ih h hx
  | case3 l h1 h2 => exact h.elim
section
variable {M : Model} {A : Around} {E : Value → Shared → Prop} {s : Shared} {h₀ : Heap} {L a c P : Addr} {m mg mb : Str → Option Value} {cn : Str} {cs : Scope} {ccd : Value} {cl : List (Str × Addr)} {news : List (Addr × Obj)} {g : Obj → List (Addr × Obj)}
  {p : Program} {loose : List Str} {mean : ExcName → Option Value} {name : Str} {params : Arguments} {body : Expr} {scope : Scope} {ps : Array Value} {pos : Pos} {firstLine : Nat}
/-- a lambda is made: its code object known or new -/
theorem lam_make {Q : Value → Shared → Prop} (F : Fr h₀ L s.heap m) (N : News h₀ L s.heap ((44, tabObj ps) :: news)) (T : Top p loose mean mg mb h₀) (C : CodeHd h₀ c 44) (hap : ∀ q ∈ news, q.1 ≠ 44) (hcd : ccd = .ref c) (ht : TabOk h₀ ps)
    (hcl : closureFor scope (envX cn cs L a ccd cl) = pure [])
    (h : ∀ f c' ctv ps' own h' tk pm, Fr h₀ L h' m → News h₀ L h' ((f, kla_obj name lamQ params body scope [] pm c' ctv) :: (44, tabObj ps') :: (own ++ news)) → TabStep ps ps' own → (∀ q ∈ own, q.1 ≠ 44 ∧ ∃ vs, q.2.data = .fields vs) → (∀ hx : Heap, (∀ b o, h₀.get? b = some o → hx.get? b = some o) → (∀ p ∈ own, hx.get? p.1 = some p.2) → hx.CodeRec (.ref c') lamQ) → f ≠ 44 → (∀ q ∈ own ++ news, q.1 ≠ f) → Q (.ref f) { s with heap := h', toks := tk }) :
    wpAny M A (makeFunction name lamQ params (.expr body) scope (envX cn cs L a ccd cl) [] [] [] pos firstLine) Q E s := by
  cases hf : codeAmong pos ps.toList with
  | some cv =>
    obtain ⟨c', oc, vs, t, rfl, hoc, hod, hov⟩ := ht.2 pos cv hf
    refine kla_hit F N T C hcd (.head _) ht.1 hf hcl fun f ctv h' tk F' N' hlt => ?_
    exact h f c' ctv ps [] h' tk _ F' N' (.refl ht.1 _) (fun q hq => (List.not_mem_nil hq).elim) (fun hx k _ => ⟨c', oc, vs, t, rfl, k _ _ hoc, hod, hov⟩) (Nat.ne_of_gt (hlt _ (.head _))) fun q hq => Nat.ne_of_lt (hlt q (.tail _ hq))
  | none =>
    refine kla_nest F N T C hcd (.head hap) ht.1 hf hcl fun f c' oc vs t ctv h' tk F' N' hod hov hlt hcf => ?_
    have h44 : 44 < c' := hlt (44, tabObj ps) (.head _)
    refine h f c' ctv (ps ++ #[rawInt pos.line, rawInt pos.col, .ref c']) [(c', oc)] h' tk ((mg (Str.ofString "__name__")).getD Value.none) F' (fun q hq => N' q ?_) ⟨?_, fun pos' cv e => ?_⟩ (fun q hq => ?_) (fun hx _ k => ⟨c', oc, vs, t, rfl, k _ (.head _), hod, hov⟩) (Nat.ne_of_gt (Nat.lt_trans h44 hcf)) fun q hq => ?_
    · simp only [List.mem_cons, List.mem_append, List.not_mem_nil, or_false] at hq ⊢
      rcases hq with hq | hq | hq | hq
      · exact .inl hq
      · exact .inr (.inr (.inl hq))
      · exact .inr (.inl hq)
      · exact .inr (.inr (.inr hq))
    · simpa using TriplesOk_snoc pos.line pos.col (.ref c') ps.toList ht.1
    · rcases among_snoc ps.toList ht.1 (by simpa using e) with e | e
      · exact .inl e
      · exact .inr ⟨c', oc, vs, t, e, .head _, hod, hov⟩
    · rw [List.mem_singleton.mp hq]; exact ⟨Nat.ne_of_gt h44, vs, hod⟩
    · rcases List.mem_append.mp hq with hq | hq
      · rw [List.mem_singleton.mp hq]; exact Nat.ne_of_lt hcf
      · exact Nat.ne_of_lt (Nat.lt_trans (hlt q (.tail _ hq)) hcf)
end

theorem callLam1 {prog : Program} {w : World} {A : Around} {E : Value → Shared → Prop} {s : Shared} {Q : Value → Shared → Prop} {name qual : Str} {params : Arguments} {body : Expr} {scope : Scope} {pm ctv v : Value} {c' f : Addr} {args : List Value} {o : Obj} (x : Str) (hroom : A.depth < recursionLimit)
    (ho : s.heap.get? f = some o) (hod : o.data = .func (kla_fn name qual params body scope [] pm (.ref c') ctv)) (hlim : s.heap.NoLimit) (hcd : s.heap.CodeRec (.ref c') qual)
    (hbind : bindArgs (kla_fn name qual params body scope [] pm (.ref c') ctv) ⟨args, []⟩ = pure [(x, v)]) (hloc : scope.names.lookup x = some .local)
    (hcell : ∀ x ∈ scope.names, x.2 ≠ .cell) (hco : scope.isCoroutine = false) (hgen : scope.isGenerator = false) (hk : scope.kind = .function)
    (h : ∀ L h₁ tk, Fr s.heap L h₁ (fun y => if y = x then some v else none) → News s.heap L h₁ [] →
      wpAny (model prog w) (A.deeper (envX qual scope L f (.ref c') [])) (eval body (envX qual scope L f (.ref c') [])) Q (fun _ _ => False) { s with heap := h₁, toks := tk }) :
    wpAny (model prog w) A (call (.ref f) args) Q E s := by
  refine callLam (fun y => if y = x then some v else none) hroom ho hod hlim hcd hbind (fun y hy => by rw [List.mem_singleton.mp hy]; exact hloc) hcell hco hgen hk ?_ fun L h₁ F N => h L h₁ _ F N
  funext y
  show List.lookup y [(x, v)] = _
  by_cases e : y = x
  · subst e; simp [List.lookup]
  · have : (y == x) = false := by simpa using e
    simp [List.lookup, this, e]
end Mine

end PartMLam

section PartMTrunc
open PySem PySem.W PyProof.Rows PySem.Calls
local macro_rules | `(tactic| walk_at "eval ListComp") => `(tactic| refine Mine.stop_ ?_)
local macro_rules | `(tactic| walk_at "call builtin:len") => `(tactic| ((with_reducible show wpAny _ _ (call (Value.builtin "len") [Value.str _ _]) _ _ _); refine len_str (by assumption) ?_))
local macro_rules | `(tactic| walk_at "subscriptTail") => `(tactic| ((with_reducible show wpAny _ _ (subscriptTail _ _ (Value.ref _) (Value.str _ _)) _ _ _); refine Mine.item_dict (by assumption) (by assumption) ?_ (by with_unfolding_all rfl) (by intro _; with_unfolding_all rfl)))
local macro_rules | `(tactic| walk_at "call ref") => `(tactic| refine Mine.stop_ ?_)
local macro_rules | `(tactic| walk_at "eval Name") => `(tactic| ((with_reducible show wpAny _ _ (eval (Expr.Name _ _) (compEnvC _ _ _ _)) _ _ _); first
  | (refine Mine.cname_L (by assumption) (by assumption) ?_ (by rfl) (by rfl) (by decide))
  | (refine Mine.cname_C (by rfl) (by assumption) ?_ (by rfl) (by rfl) (by decide))
  | (refine Mine.cname_K (by assumption) (by rfl) ?_ (by rfl) (by rfl) (by rfl) (by decide))
  | (refine Mine.cname_B (by assumption) (by rfl) (by boot_by_name) (by decide) ?_ (by rfl) (by rfl) (by rfl) (by rfl) (by decide))))
local macro_rules | `(tactic| walk_at "binaryOp Add str str") => `(tactic| refine Mine.stop_ ?_)
namespace Mine
variable {w : World} {p : Program} {loose : List Str} {mean : ExcName → Option Value} {mg mb : Str → Option Value}


def truncS (x : Str) (m : Int) : Str :=
  if m ≤ 5 then Txt.slice x none (some m) else Txt.slice x none (some (m - 5)) ++ Str.ofString "..." ++ Txt.slice x (some (-2)) none
theorem slen (x : Str) {m : Int} (h0 : 0 ≤ m) (h1 : m ≤ x.length) : ((Txt.slice x none (some m)).length : Int) = m := (fact_slice_ns x m).1 h0 h1
theorem slen2 (x : Str) (h1 : 2 ≤ x.length) : (Txt.slice x (some (-2)) none).length = 2 := by
  have := slice_sn_cases' x (-2)
  omega
theorem add_str2 {prog : Program} {A : Around} {s : Shared} {E Q : Value → Shared → Prop} {x y : Str} {t u : Tok} (hx : x.length ≠ 0) (hy : y.length ≠ 0) (hs : x.length + y.length ≤ sizeLine) (h : ∀ t k, Q (.str (x ++ y) t) { s with toks := k }) : wpAny (model prog w) A (binaryOp .Add (.str x t) (.str y u)) Q E s := by
  exact add_str h hs

set_option maxHeartbeats 1000000 in
theorem trunc_call {A : Around} {s : Shared} {x : Str} {t tm : Tok} {m : Int} {E : Value → Shared → Prop} (hA : Am 3 A) (G : Gd w p loose mean mg mb s.heap) (hx : x.cps.size ≤ 13) (hm : 0 ≤ m) (hlt : m < x.length) :
    wpAny (model PySem.Challenge.rw_ez0045_01.row.prog w) A (call (.ref 35) [.str x t, .int m tm]) (fun r s' => Keeps s s' ∧ ∃ u, r = .str (truncS x m) u) E s := by
  obtain ⟨X, T⟩ := G
  revert X; k_fill; intro X
  refine callF' (binds := [(Str.ofString "s", .str x t), (Str.ofString "max_len", .int m tm)]) (fun y => if y = Str.ofString "max_len" then some (.int m tm) else if y = Str.ofString "s" then some (.str x t) else none) hA.room (X 35 _ rfl) rfl T.nolimit (codeRec_of X (by rfl)) (BindsTo.of_eq rfl) (by rfl) rfl rfl rfl
    (fun _ => rfl) (fun _ => rfl) fun L h₁ tk F N => ?_
  w_on
  have hh : A.handled = none := hA.hd
  have hfit : ¬ ((x.length : Int) ≥ 2 ^ 63) := by have e : x.length = x.cps.size := rfl; omega
  k_steps
  · rename Fr _ _ _ _ => F2
    exact ⟨_, _, rfl, F2.keep⟩
  · rename m ≤ 5 => h5
    show Value.str _ _ = _
    rw [truncS, if_pos h5]
  · rename ¬ m ≤ 5 => h5
    have l1 := slen x (m := m - 5) (by omega) (by omega)
    have l2 := slen2 x (by omega)
    have l3 : (Str.ofString "...").length = 3 := rfl
    unfold Mine.Stop
    refine add_str2 (by omega) (by omega) ?_ fun t3 k3 => ?_
    · rw [sizeLine_eq]; have e : x.length = x.cps.size := rfl; omega
    k_steps
    have l4 : (Txt.slice x none (some (m - 5)) ++ Str.ofString "...").length = (Txt.slice x none (some (m - 5))).length + 3 := Str.length_append _ _
    unfold Mine.Stop
    refine add_str2 (by omega) (by omega) ?_ fun t4 k4 => ?_
    · rw [sizeLine_eq]; have e : x.length = x.cps.size := rfl; omega
    k_steps
    · rename Fr _ _ _ _ => F2
      exact ⟨_, _, rfl, F2.keep⟩
    · show Value.str _ _ = _
      rw [truncS, if_neg h5]
end Mine

end PartMTrunc

section PartMBare
open PySem PySem.W PyProof.Rows PySem.Calls
local macro_rules | `(tactic| walk_at "eval ListComp") => `(tactic| refine Mine.stop_ ?_)
local macro_rules | `(tactic| walk_at "call builtin:len") => `(tactic| ((with_reducible show wpAny _ _ (call (Value.builtin "len") [Value.str _ _]) _ _ _); refine len_str (by assumption) ?_))
local macro_rules | `(tactic| walk_at "subscriptTail") => `(tactic| ((with_reducible show wpAny _ _ (subscriptTail _ _ (Value.ref _) (Value.str _ _)) _ _ _); refine Mine.item_dict (by assumption) (by assumption) ?_ (by with_unfolding_all rfl) (by intro _; with_unfolding_all rfl)))
local macro_rules | `(tactic| walk_at "call ref") => `(tactic| refine Mine.stop_ ?_)
local macro_rules | `(tactic| walk_at "eval Name") => `(tactic| ((with_reducible show wpAny _ _ (eval (Expr.Name _ _) (compEnvC _ _ _ _)) _ _ _); first
  | (refine Mine.cname_L (by assumption) (by assumption) ?_ (by rfl) (by rfl) (by decide))
  | (refine Mine.cname_C (by rfl) (by assumption) ?_ (by rfl) (by rfl) (by decide))
  | (refine Mine.cname_K (by assumption) (by rfl) ?_ (by rfl) (by rfl) (by rfl) (by decide))
  | (refine Mine.cname_B (by assumption) (by rfl) (by boot_by_name) (by decide) ?_ (by rfl) (by rfl) (by rfl) (by rfl) (by decide))))
local macro_rules | `(tactic| walk_at "call type:str") => `(tactic| ((with_reducible show wpAny _ _ (call (Value.type "str") [Value.int _ _]) _ _ _); refine Mine.stop_ ?_))
local macro_rules | `(tactic| walk_at "compareOp Eq ref ref") => `(tactic| refine Mine.stop_ ?_)
namespace Mine
variable {w : World} {p : Program} {loose : List Str} {mean : ExcName → Option Value} {mg mb : Str → Option Value}

def BareOk (w : World) (p : Program) (loose : List Str) (mean : ExcName → Option Value) (mg mb : Str → Option Value) {α : Type} (R : Rl α) (f : α → Int) (k : Nat) : Prop :=
  ∀ (A : Around) (s : Shared) (v : Value) (x : α) (E : Value → Shared → Prop), Am k A → Gd w p loose mean mg mb s.heap → R s.heap v x →
    wpAny (model PySem.Challenge.rw_ez0045_01.row.prog w) A (call (.ref 79) [v]) (fun r s' => Keeps s s' ∧ ∃ t, r = .int (f x) t) E s

set_option maxHeartbeats 1000000 in
theorem bare_step {α : Type} {R : Rl α} {f : α → Int} {k : Nat} (hR : Mono R) (hf : Fun R) (hne : ItemNe R) (ih : BareOk w p loose mean mg mb R f k) : BareOk w p loose mean mg mb (TContIs w R) (bareC f) (k + 5) := by
  intro A s v x E hA G hx
  obtain ⟨X, T⟩ := G
  revert X; k_fill; intro X
  refine callC' (binds := [(Str.ofString "told", v)]) (fun L => [(Str.ofString "told", L + 1)]) (fun _ => none) (fun y => if y = Str.ofString "told" then some v else none) hA.room (X 79 _ rfl) rfl T.nolimit (codeRec_of X (by rfl)) (BindsTo.of_eq rfl) (by rfl) (by decide) rfl rfl rfl
    (fun _ => rfl) (fun _ => rfl) (fun _ => rfl) fun L h₁ tk cells F N Y => ?_
  obtain ⟨oc, rfl, hoc⟩ := Y.one
  replace hoc : oc.data = .cell (some v) := hoc
  w_on
  have hh : A.handled = none := hA.hd
  cases x with
  | leaf l =>
    obtain ⟨hl, ho⟩ := hx
    cases l with
    | none =>
      have e : v = .none := hl
      subst e
      k_steps
      exact ⟨_, _, rfl, F.keep⟩
    | int i =>
      obtain ⟨t, rfl⟩ := hl
      have hlog : i.natAbs.log2 < 1920 := smallLog ho
      have hfit : ¬ (((txt i).length : Int) ≥ 2 ^ 63) := txt_fit ho
      k_steps
      unfold Mine.Stop
      refine PySem.P.str_of_int hlog ?_
      k_steps
      exact ⟨_, _, rfl, F.keep⟩
    | str x =>
      obtain ⟨t, rfl⟩ := hl
      have hfit : ¬ ((x.length : Int) ≥ 2 ^ 63) := by have := ho.1; have e : x.length = x.cps.size := rfl; omega
      k_steps
      exact ⟨_, _, rfl, F.keep⟩
  | list xs dots =>
    obtain ⟨hl, a, vs, es, rfl, hv, hp, hdots⟩ := hx
    have hpl := hp.length
    have hel : es.length ≤ 1 := by
      cases dots with
      | false => cases (show es = [] from hdots); exact Nat.zero_le _
      | true => obtain ⟨t, rfl⟩ := hdots; exact Nat.le_refl _
    have hlen : (List.toArray (vs ++ es)).size ≤ sizeLine := by
      rw [List.size_toArray, List.length_append, sizeLine_eq]; omega
    k_steps
    unfold Mine.Stop
    refine comp_listG (h₀ := s.heap) (R := R) (fun y r => ∃ t, r = .int (f y) t) hR hf hh (by rfl) (by decide) rfl (by decide) rfl ?_
    k_steps
    have hv0 := hv
    rename Fr _ _ _ _ => F3
    rename News _ _ _ _ => N3
    have hv := isList_keeps hv0 F3.keep
    have hp3 : Paired (R _) vs xs := hp.mono fun u y => hR _ _ u y F3.keep
    refine Mine.go_ ?_
    refine dots_eq (d := dots) (es := es) hne ⟨_, (N3 _ (.tail _ (.head _))).1, rfl, 0, ?_⟩ ⟨_, (N3 _ (.head _)).1, rfl, _, rfl⟩ hp3 hdots ?_ ?_
    · rw [show slicePick (vs ++ es).toArray (some (-1)) none none = _ from slicePick_last _ 1 (by omega)]
      rfl
    · have := hA.un; show A.units + 3 + 1 < cLine; omega
    cases dots
    · cases (show es = [] from hdots)
      rw [List.append_nil] at hv
      k_steps
      unfold Mine.Stop
      refine ⟨a, vs, xs, rfl, hv, hp, by omega, F3.keep, ?_, ?_⟩
      · intro C s₃ m₃ u y E' hC hn hm hRy hy hk₃
        have G₃ : Gd w p loose mean mg mb s₃.heap := (Gd.mk X T).keeps fun b o e => hk₃ b o (F3.keep b o e)
        k_steps
        unfold Mine.Stop
        refine wpAny_mono (ih _ _ _ y _ ((hA.deeper _).less (by omega)) G₃ hRy) (fun r s₄ h₄ => ⟨h₄.2, h₄.1⟩) fun _ _ e => e
      · intro D h' tk' rs hDn hD hG hk'
        have hI : IntsAre rs (xs.map f) := intsAre_of hG
        have F5 := F3.keeps hk'
        have N5 := N3.grown hk'
        clear F3 N3
        k_steps
        refine sumK hh F5 N5 hD hI fun h3 tk3 t3 F6 N6 => ?_
        clear F5 N5
        k_steps
        exact ⟨_, _, rfl, F6.keep⟩
    · obtain ⟨td, rfl⟩ := hdots
      k_steps
      rename Fr _ _ _ _ => F4
      rename News _ _ _ _ => N4
      unfold Mine.Stop
      refine ⟨_, vs, xs, rfl, ⟨_, (N4 _ (.head _)).1, rfl, 0, ?_⟩, hp, by omega, F4.keep, ?_, ?_⟩
      · rw [show slicePick (vs ++ [Value.str dotsS td]).toArray none (some (-1)) none = _ from slicePick_butLast _ 1 (by omega)]
        simp
      · intro C s₃ m₃ u y E' hC hn hm hRy hy hk₃
        have G₃ : Gd w p loose mean mg mb s₃.heap := (Gd.mk X T).keeps fun b o e => hk₃ b o (F4.keep b o e)
        k_steps
        unfold Mine.Stop
        refine wpAny_mono (ih _ _ _ y _ ((hA.deeper _).less (by omega)) G₃ hRy) (fun r s₄ h₄ => ⟨h₄.2, h₄.1⟩) fun _ _ e => e
      · intro D h' tk' rs hDn hD hG hk'
        have hI : IntsAre rs (xs.map f) := intsAre_of hG
        have F5 := F4.keeps hk'
        have N5 := N4.grown hk'
        clear F4 N4
        k_steps
        refine sumK hh F5 N5 hD hI fun h3 tk3 t3 F6 N6 => ?_
        clear F5 N5
        k_steps
        exact ⟨_, _, rfl, F6.keep⟩
  | dict kvs =>
    obtain ⟨hl, hks, a, es, rfl, hsm, hd, hp⟩ := hx
    have ha : ∃ o, s.heap.get? a = some o ∧ o.cls = .type "dict" := let ⟨o, _, _, ho, hc, _⟩ := hd; ⟨o, ho, hc.1⟩
    obtain ⟨od, hod, hcd⟩ := ha
    have hod1 := F.keep _ _ hod
    k_steps
    unfold Mine.Stop
    refine comp_keys (R := R) (fun (q : Str × α) r => ∃ t, r = .int ((q.1.length : Int) + f q.2) t) (es := es) (kvs := kvs) hR hh (dictOf_keeps hd F.keep) (hp.mono fun e q he => ⟨he.1, hR _ _ _ _ F.keep he.2⟩) hsm (by omega) (by rfl) (by decide) rfl (by decide) rfl ?_
    refine nameX_C N rfl (.head _) hoc ?_
    refine ⟨rfl, fun _ _ e => e, ?_, ?_⟩
    · intro C s₃ m₃ t u q E' hC hn hm hmem hRy hq hk₃
      have kk : ∀ b o, s.heap.get? b = some o → s₃.heap.get? b = some o := fun b o e => hk₃ b o (F.keep b o e)
      have G₃ : Gd w p loose mean mg mb s₃.heap := (Gd.mk X T).keeps kk
      have hcell : s₃.heap.IsCell (L + 1) (some (.ref a)) := ⟨oc, hk₃ _ _ (N _ (.head _)).1, hoc⟩
      have hd3 := dictOf_keeps hd kk
      have hfit : ¬ ((q.1.length : Int) ≥ 2 ^ 63) := by have := hks q hq; have e : q.1.length = q.1.cps.size := rfl; omega
      k_steps
      unfold Mine.Stop
      refine wpAny_mono (ih _ _ _ q.2 _ ((hA.deeper _).less (by omega)) G₃ hRy) (fun r s₄ h₄ => ?_) fun _ _ e => e
      obtain ⟨⟨h4, tk4, rfl, k4⟩, t4, rfl⟩ := h₄
      k_steps
      exact ⟨_, _, rfl, k4⟩
    · intro D h' tk' rs hDn hD hG hk'
      have hI : IntsAre rs (kvs.map fun q => (q.1.length : Int) + f q.2) := intsAre_of hG
      have F2 := F.keeps hk'
      have N2 := N.grown hk'
      clear F N
      k_steps
      refine sumK hh F2 N2 hD hI fun h3 tk3 t3 F3 N3 => ?_
      clear F2 N2
      k_steps
      exact ⟨_, _, rfl, F3.keep⟩
end Mine

end PartMBare

section PartMSpec
open PySem PySem.W PyProof.Rows PySem.Calls
namespace Mine

/-! ## What a shrunk tree is -/
def isN {α : Type} : TCont α → Bool
  | .leaf .none => true
  | _ => false
def txtL : Leaf → Str
  | .none => Str.ofString "None"
  | .int i => txt i
  | .str x => x
def strPart (t s : Str) : Bool := t == s || (Txt.slice s none (some t.length) == t || t == Txt.slice s none (some (t.length - 5)) ++ Str.ofString "..." ++ Txt.slice s (some (-2)) none)
def leafPart {β : Type} (y : TCont β) (l : Leaf) : Bool := match l with
  | .str s => match y with
    | .leaf (.str t) => strPart t s
    | _ => false
  | l => eqLeaf y l || match y with
    | .leaf l' => Txt.slice (txtL l) none (some (txtL l').length) == txtL l'
    | _ => false
def gr {α β : Type} (part : β → α → Bool) : List β → List α → Bool
  | [], _ => true
  | _ :: _, [] => false
  | y :: ys, x :: xs => if part y x then gr part ys xs else gr part (y :: ys) xs
def ordX {α : Type} (wt : α → Int) (xs : List α) : List α := (ord (xs.map wt)).filterMap fun i => xs[i]?
def at? {α : Type} (kvs : List (Str × α)) (k : Str) : Option α := (kvs.find? fun q => q.1 == k).map (·.2)
def partC {α β : Type} (part : β → α → Bool) (wt : α → Int) (y : TCont β) (x : Cont α) : Bool := match x with
  | .leaf l => leafPart y l
  | .list xs => match y with
    | .list ys _ => gr part ys (ordX wt xs)
    | _ => false
  | .dict kvs => match y with
    | .dict tks => tks.all fun p => match at? kvs p.1 with
      | some x => part p.2 x
      | none => false
    | _ => false
def PJ {α β : Type} (nb : β → Bool) (any : α → Int → Bool) (part : β → α → Bool) (bare : β → Int) (x : α) (m : Int) (y : β) (n : Int) : Prop :=
  (nb y = true → any x m = false) ∧ (nb y = false → any x m = true ∧ part y x = true ∧ bare y = n ∧ n ≤ m ∧ 0 ≤ n)

inductive Sub {α β : Type} (part : β → α → Bool) : List β → List α → Prop
  | nil (xs) : Sub part [] xs
  | skip {ys x xs} : Sub part ys xs → Sub part ys (x :: xs)
  | take {y ys x xs} : part y x = true → Sub part ys xs → Sub part (y :: ys) (x :: xs)
section
variable {α β : Type} {part : β → α → Bool}
theorem Sub.tail {y : β} : ∀ {ys : List β} {xs : List α}, Sub part (y :: ys) xs → Sub part ys xs
  | _, _, .skip h => .skip h.tail
  | _, _, .take _ h => .skip h
theorem sub_gr : ∀ {ys : List β} {xs : List α}, Sub part ys xs → gr part ys xs = true
  | [], _, _ => by cases ‹List α› <;> rfl
  | y :: ys, [], h => nomatch h
  | y :: ys, x :: xs, h => by
    unfold gr
    by_cases e : part y x = true
    · rw [if_pos e]
      refine sub_gr ?_
      cases h with
      | skip h => exact h.tail
      | take _ h => exact h
    · rw [if_neg e]
      refine sub_gr ?_
      cases h with
      | skip h => exact h
      | take h' _ => exact absurd h' e
theorem Sub.more {ys : List β} {xs zs : List α} (h : Sub part ys xs) : Sub part ys (xs ++ zs) := by
  induction h with
  | nil xs => exact .nil _
  | skip _ ih => exact .skip ih
  | take h _ ih => exact .take h ih
theorem Sub.one {y : β} {x : α} (h : part y x = true) : ∀ xs : List α, Sub part [y] (xs ++ [x])
  | [] => .take h (.nil _)
  | z :: xs => .skip (Sub.one h xs)
theorem Sub.snoc {ys : List β} {xs : List α} {y : β} {x : α} (h : Sub part ys xs) (e : part y x = true) : Sub part (ys ++ [y]) (xs ++ [x]) := by
  induction h with
  | nil xs => exact Sub.one e xs
  | skip _ ih => exact .skip ih
  | take h _ ih => exact .take h ih

variable {nb : β → Bool} {any : α → Int → Bool} {bare : β → Int}
/-- the loop over the items of a row -/
structure LInv (nb : β → Bool) (any : α → Int → Bool) (part : β → α → Bool) (bare : β → Int) (os : List α) (m : Int) (i : Nat) (ys : List β) (tot : Int) : Prop where
  lo : 0 ≤ tot
  hi : tot ≤ m
  sum : (ys.map bare).sum = tot
  sub : Sub part ys (os.take i)
  none : ys = [] → tot = 0 ∧ ∀ x ∈ os.take i, any x m = false
  some : ys ≠ [] → ∃ x ∈ os, any x m = true
  go : 0 < i → tot < m - 1
  len : ys.length ≤ i
structure LBrk (any : α → Int → Bool) (part : β → α → Bool) (bare : β → Int) (os : List α) (m : Int) (ys : List β) (tot : Int) : Prop where
  lo : 0 ≤ tot
  hi : tot ≤ m
  sum : (ys.map bare).sum = tot
  sub : Sub part ys os
  none : ys = [] → m < 2
  some : ys ≠ [] → ∃ x ∈ os, any x m = true
  ne : os ≠ []
  len : ys.length ≤ 3
theorem take_succ' {os : List α} {i : Nat} {x : α} (h : os[i]? = Option.some x) : os.take (i + 1) = os.take i ++ [x] := take_at h
theorem LInv.zero {os : List α} {m : Int} (hm : 0 ≤ m) : LInv nb any part bare os m 0 [] 0 :=
  ⟨Int.le_refl _, hm, rfl, .nil _, fun _ => ⟨rfl, fun x hx => by simp at hx⟩, fun h => (h rfl).elim, fun h => by omega, Nat.le_refl _⟩
/-- a turn: the child left out or kept; then on or broken off -/
theorem LInv.skip {os : List α} {m : Int} {i : Nat} {ys : List β} {tot : Int} {x : α} {y : β} {n : Int} (h : LInv nb any part bare os m i ys tot) (hx : os[i]? = Option.some x) (hP : PJ nb any part bare x (m - tot) y n) (hn : nb y = true) (hgo : ¬ tot ≥ m - 1) :
    LInv nb any part bare os m (i + 1) ys tot :=
  ⟨h.lo, h.hi, h.sum, by rw [take_succ' hx]; exact h.sub.more, fun e => ⟨(h.none e).1, fun z hz => by
    rw [take_succ' hx] at hz
    rcases List.mem_append.mp hz with hz | hz
    · exact (h.none e).2 z hz
    · rw [List.mem_singleton.mp hz]
      have := hP.1 hn
      rw [(h.none e).1] at this
      simpa using this⟩, h.some, fun _ => by omega, Nat.le_succ_of_le h.len⟩
theorem LInv.keep {os : List α} {m : Int} {i : Nat} {ys : List β} {tot : Int} {x : α} {y : β} {n : Int} (h : LInv nb any part bare os m i ys tot) (hx : os[i]? = Option.some x) (hP : PJ nb any part bare x (m - tot) y n) (hn : nb y = false) :
    (0 ≤ tot + n ∧ tot + n ≤ m ∧ ((ys ++ [y]).map bare).sum = tot + n) ∧ Sub part (ys ++ [y]) (os.take (i + 1)) ∧ (∃ x ∈ os, any x m = true) := by
  obtain ⟨h1, h2, h3, h4, h5⟩ := hP.2 hn
  have hlo := h.lo
  refine ⟨⟨by omega, by omega, by simp [h.sum, h3]⟩, by rw [take_succ' hx]; exact h.sub.snoc h2, ?_⟩
  by_cases e : ys = []
  · rw [(h.none e).1] at h1
    exact ⟨x, List.mem_of_getElem? hx, by simpa using h1⟩
  · exact h.some e
theorem LInv.keep_go {os : List α} {m : Int} {i : Nat} {ys : List β} {tot : Int} {x : α} {y : β} {n : Int} (h : LInv nb any part bare os m i ys tot) (hx : os[i]? = Option.some x) (hP : PJ nb any part bare x (m - tot) y n) (hn : nb y = false) (hgo : ¬ tot + n ≥ m - 1) :
    LInv nb any part bare os m (i + 1) (ys ++ [y]) (tot + n) := by
  obtain ⟨⟨a, b, c⟩, d, e⟩ := h.keep hx hP hn
  exact ⟨a, b, c, d, fun e => by simp at e, fun _ => e, fun _ => by omega, by simpa using h.len⟩
theorem LInv.keep_brk {os : List α} {m : Int} {i : Nat} {ys : List β} {tot : Int} {x : α} {y : β} {n : Int} (h : LInv nb any part bare os m i ys tot) (hos : os.length ≤ 3) (hx : os[i]? = Option.some x) (hP : PJ nb any part bare x (m - tot) y n) (hn : nb y = false) :
    LBrk any part bare os m (ys ++ [y]) (tot + n) := by
  obtain ⟨⟨a, b, c⟩, d, e⟩ := h.keep hx hP hn
  have hi := (List.getElem?_eq_some_iff.mp hx).1
  refine ⟨a, b, c, ?_, fun e => by simp at e, fun _ => e, fun e => (by rw [e] at hi; cases hi), by have := h.len; simp; omega⟩
  have := d.more (zs := os.drop (i + 1))
  rwa [List.take_append_drop] at this
theorem LInv.skip_brk {os : List α} {m : Int} {i : Nat} {ys : List β} {tot : Int} {x : α} (h : LInv nb any part bare os m i ys tot) (hos : os.length ≤ 3) (hx : os[i]? = Option.some x) (hgo : tot ≥ m - 1) :
    LBrk any part bare os m ys tot := by
  have hi := (List.getElem?_eq_some_iff.mp hx).1
  refine ⟨h.lo, h.hi, h.sum, ?_, fun e => by have := (h.none e).1; omega, h.some, fun e => (by rw [e] at hi; cases hi), by have := h.len; omega⟩
  have := h.sub.more (zs := os.drop i)
  rwa [List.take_append_drop] at this
theorem ord_mem {wt : α → Int} {xs : List α} (h3 : xs.length ≤ 3) {x : α} : x ∈ ordX wt xs ↔ x ∈ xs := by
  unfold ordX
  have hp := ord_perm (kz := xs.map wt) (by simpa using h3)
  rw [List.mem_filterMap]
  constructor
  · rintro ⟨i, _, h⟩; exact List.mem_of_getElem? h
  · intro h
    obtain ⟨i, hi⟩ := List.getElem?_of_mem h
    refine ⟨i, hp.mem_iff.mpr ?_, hi⟩
    have := (List.getElem?_eq_some_iff.mp hi).1
    simpa using this
theorem ord_len {wt : α → Int} {xs : List α} (h3 : xs.length ≤ 3) : (ordX wt xs).length = xs.length := by
  have hp := ord_perm (kz := xs.map wt) (by simpa using h3)
  unfold ordX
  have hl : (ord (xs.map wt)).length = xs.length := by simpa using hp.length_eq
  have hall : ∀ i ∈ ord (xs.map wt), (xs[i]?).isSome := fun i hi => by
    have := hp.mem_iff.mp hi
    simp at this
    simp [this]
  rw [← hl]
  generalize ord (xs.map wt) = l at hall
  clear hl hp
  induction l with
  | nil => rfl
  | cons a l ih =>
    obtain ⟨z, hz⟩ := Option.isSome_iff_exists.mp (hall a (.head _))
    rw [List.filterMap_cons, hz]
    simp [ih fun i hi => hall i (.tail _ hi)]
theorem list_end {wt : α → Int} {xs : List α} {m : Int} {ys : List β} {tot : Int} (h3 : xs.length ≤ 3) (h : LInv nb any part bare (ordX wt xs) m (ordX wt xs).length ys tot) (hne : ys ≠ []) :
    PJ isN (anyC any) (partC part wt) (bareC bare) (.list xs) m (.list ys false) tot := by
  refine ⟨fun e => (nomatch e), fun _ => ⟨?_, ?_, h.sum, h.hi, h.lo⟩⟩
  · obtain ⟨x, hx, ha⟩ := h.some hne
    have hx := (ord_mem h3).mp hx
    have hl : 0 < xs.length := List.length_pos_of_mem hx
    show (decide _ && (decide _ || xs.any fun y => any y m)) = true
    have : (xs.any fun y => any y m) = true := List.any_eq_true.mpr ⟨x, hx, ha⟩
    simp [hl, this]
  · have := h.sub
    rw [List.take_length] at this
    exact sub_gr this
theorem list_none {wt : α → Int} {xs : List α} {m : Int} {tot : Int} {n : Int} (h3 : xs.length ≤ 3) (h : LInv nb any part bare (ordX wt xs) m (ordX wt xs).length ([] : List β) tot) :
    PJ isN (anyC any) (partC part wt) (bareC bare) (.list xs) m (.leaf .none : TCont β) n := by
  refine ⟨fun _ => ?_, fun e => (nomatch e)⟩
  show (decide (0 < (xs.length : Int)) && (decide (m < 2) || xs.any fun y => any y m)) = false
  by_cases hl : xs = []
  · subst hl; rfl
  · have hpos : 0 < xs.length := List.length_pos_iff.mpr hl
    have h0 := (h.none rfl).1
    have hgo := h.go (by rw [ord_len h3]; exact hpos)
    have h2 : ¬ m < 2 := by omega
    have : (xs.any fun y => any y m) = false := by
      rw [List.any_eq_false]
      intro x hx
      have := (h.none rfl).2 x (by rw [List.take_length]; exact (ord_mem h3).mpr hx)
      simp [this]
    simp [h2, this]
theorem list_brk {wt : α → Int} {xs : List α} {m : Int} {ys : List β} {tot : Int} (h3 : xs.length ≤ 3) (h : LBrk any part bare (ordX wt xs) m ys tot) :
    PJ isN (anyC any) (partC part wt) (bareC bare) (.list xs) m (.list ys true) tot := by
  refine ⟨fun e => (nomatch e), fun _ => ⟨?_, sub_gr h.sub, h.sum, h.hi, h.lo⟩⟩
  have hl : xs ≠ [] := fun e => h.ne (by subst e; rfl)
  have hpos : 0 < xs.length := List.length_pos_iff.mpr hl
  show (decide (0 < (xs.length : Int)) && (decide (m < 2) || xs.any fun y => any y m)) = true
  by_cases e : ys = []
  · have := h.none e
    simp [hpos, this]
  · obtain ⟨x, hx, ha⟩ := h.some e
    have : (xs.any fun y => any y m) = true := List.any_eq_true.mpr ⟨x, (ord_mem h3).mp hx, ha⟩
    simp [hpos, this]
end
end Mine

end PartMSpec

section PartMSpec2
open PySem PySem.W PyProof.Rows PySem.Calls
namespace Mine
section
variable {α β : Type} {part : β → α → Bool} {nb : β → Bool} {any : α → Int → Bool} {bare : β → Int}
abbrev okKey (any : α → Int → Bool) (m : Int) (q : Str × α) : Bool := decide ((q.1.length : Int) < m) && any q.2 (m - q.1.length)
structure DInv (any : α → Int → Bool) (part : β → α → Bool) (bare : β → Int) (os : List (Str × α)) (m : Int) (i : Nat) (tk : List (Str × β)) (tot : Int) : Prop where
  lo : 0 ≤ tot
  hi : tot ≤ m
  sum : (tk.map fun p => (p.1.length : Int) + bare p.2).sum = tot
  part : ∀ p ∈ tk, ∃ q ∈ os.take i, q.1 = p.1 ∧ part p.2 q.2 = true
  none : tk = [] → tot = 0 ∧ ∀ q ∈ os.take i, okKey any m q = false
  some : tk ≠ [] → ∃ q ∈ os, okKey any m q = true
  len : tk.length ≤ i
structure DEnd (any : α → Int → Bool) (part : β → α → Bool) (bare : β → Int) (os : List (Str × α)) (m : Int) (tk : List (Str × β)) (tot : Int) : Prop where
  lo : 0 ≤ tot
  hi : tot ≤ m
  sum : (tk.map fun p => (p.1.length : Int) + bare p.2).sum = tot
  part : ∀ p ∈ tk, ∃ q ∈ os, q.1 = p.1 ∧ part p.2 q.2 = true
  none : tk = [] → ∀ q ∈ os, okKey any m q = false
  some : tk ≠ [] → ∃ q ∈ os, okKey any m q = true
  len : tk.length ≤ os.length
theorem DInv.zero {os : List (Str × α)} {m : Int} (hm : 0 ≤ m) : DInv any part bare os m 0 [] 0 :=
  ⟨Int.le_refl _, hm, rfl, fun p hp => (List.not_mem_nil hp).elim, fun _ => ⟨rfl, fun x hx => by simp at hx⟩, fun h => (h rfl).elim, Nat.le_refl _⟩
theorem DInv.skip {os : List (Str × α)} {m : Int} {i : Nat} {tk : List (Str × β)} {tot : Int} {q : Str × α} (h : DInv any part bare os m i tk tot) (hq : os[i]? = Option.some q) (hs : tot = 0 → okKey any m q = false) :
    DInv any part bare os m (i + 1) tk tot :=
  ⟨h.lo, h.hi, h.sum, fun p hp => by
    obtain ⟨z, hz, e⟩ := h.part p hp
    exact ⟨z, by rw [take_succ' hq]; exact List.mem_append_left _ hz, e⟩, fun e => ⟨(h.none e).1, fun z hz => by
    rw [take_succ' hq] at hz
    rcases List.mem_append.mp hz with hz | hz
    · exact (h.none e).2 z hz
    · rw [List.mem_singleton.mp hz]; exact hs (h.none e).1⟩, h.some, Nat.le_succ_of_le h.len⟩
theorem skip_key {m tot : Int} {q : Str × α} (h : m - tot ≤ q.1.length) : tot = 0 → okKey any m q = false := by
  intro e
  have : ¬ (q.1.length : Int) < m := by omega
  simp [okKey, this]
theorem skip_child {m tot : Int} {q : Str × α} {y : β} {n : Int} (hP : PJ nb any part bare q.2 (m - tot - q.1.length) y n) (hn : nb y = true) : tot = 0 → okKey any m q = false := by
  intro e
  have h := hP.1 hn
  rw [e, Int.sub_zero] at h
  simp [okKey, h]
theorem DInv.keep {os : List (Str × α)} {m : Int} {i : Nat} {tk : List (Str × β)} {tot : Int} {q : Str × α} {y : β} {n : Int} (h : DInv any part bare os m i tk tot) (hq : os[i]? = Option.some q) (hlt : ¬ m - tot ≤ q.1.length) (hP : PJ nb any part bare q.2 (m - tot - q.1.length) y n) (hn : nb y = false) :
    DInv any part bare os m (i + 1) (tk ++ [(q.1, y)]) (tot + (q.1.length + n)) := by
  obtain ⟨h1, h2, h3, h4, h5⟩ := hP.2 hn
  have hlo := h.lo
  refine ⟨by omega, by omega, by simp [h.sum, h3], fun p hp => ?_, fun e => by simp at e, fun _ => ?_, by simpa using h.len⟩
  · rcases List.mem_append.mp hp with hp | hp
    · obtain ⟨z, hz, e⟩ := h.part p hp
      exact ⟨z, by rw [take_succ' hq]; exact List.mem_append_left _ hz, e⟩
    · rw [List.mem_singleton.mp hp]
      exact ⟨q, by rw [take_succ' hq]; exact List.mem_append_right _ (.head _), rfl, h2⟩
  · by_cases e : tk = []
    · rw [(h.none e).1, Int.sub_zero] at h1 hlt
      have : (q.1.length : Int) < m := by omega
      exact ⟨q, List.mem_of_getElem? hq, by simp [okKey, this, h1]⟩
    · exact h.some e
theorem DInv.stop {os : List (Str × α)} {m : Int} {i : Nat} {tk : List (Str × β)} {tot : Int} (h : DInv any part bare os m i tk tot) (hi : i ≤ os.length) (hs : tot ≥ m) (hm : 0 < m ∨ tk ≠ []) : DEnd any part bare os m tk tot :=
  ⟨h.lo, h.hi, h.sum, fun p hp => by obtain ⟨z, hz, e⟩ := h.part p hp; exact ⟨z, List.mem_of_mem_take hz, e⟩, fun e => by
    have := (h.none e).1
    rcases hm with hm | hm
    · omega
    · exact absurd e hm, h.some, Nat.le_trans h.len hi⟩
theorem DInv.done {os : List (Str × α)} {m : Int} {tk : List (Str × β)} {tot : Int} (h : DInv any part bare os m os.length tk tot) : DEnd any part bare os m tk tot :=
  ⟨h.lo, h.hi, h.sum, fun p hp => by obtain ⟨z, hz, e⟩ := h.part p hp; exact ⟨z, List.mem_of_mem_take hz, e⟩, fun e => by have := (h.none e).2; rwa [List.take_length] at this, h.some, h.len⟩
theorem at_mem {kvs : List (Str × α)} (hn : (kvs.map (·.1)).Nodup) {q : Str × α} (hq : q ∈ kvs) : at? kvs q.1 = Option.some q.2 := by
  unfold at?
  induction kvs with
  | nil => cases hq
  | cons a l ih =>
    rw [List.find?_cons]
    rcases List.mem_cons.mp hq with rfl | hq
    · simp
    · have hne : a.1 ≠ q.1 := by
        intro e
        rw [List.map_cons, List.nodup_cons] at hn
        exact hn.1 (e ▸ List.mem_map_of_mem (f := (·.1)) hq)
      have : (a.1 == q.1) = false := by simpa using hne
      rw [this]
      exact ih (by rw [List.map_cons, List.nodup_cons] at hn; exact hn.2) hq
theorem dict_end {wt : α → Int} {kvs os : List (Str × α)} {m : Int} {tk : List (Str × β)} {tot : Int} (hn : (kvs.map (·.1)).Nodup) (hp : os.Perm kvs) (h : DEnd any part bare os m tk tot) (hne : tk ≠ []) :
    PJ isN (anyC any) (partC part wt) (bareC bare) (.dict kvs) m (.dict tk) tot := by
  refine ⟨fun e => (nomatch e), fun _ => ⟨?_, ?_, h.sum, h.hi, h.lo⟩⟩
  · obtain ⟨q, hq, ha⟩ := h.some hne
    exact List.any_eq_true.mpr ⟨q, hp.mem_iff.mp hq, ha⟩
  · refine List.all_eq_true.mpr fun p hp' => ?_
    obtain ⟨q, hq, e, hpt⟩ := h.part p hp'
    rw [← e, at_mem hn (hp.mem_iff.mp hq)]
    exact hpt
theorem dict_nil {wt : α → Int} {kvs os : List (Str × α)} {m : Int} {tot n : Int} (hp : os.Perm kvs) (h : DEnd any part bare os m ([] : List (Str × β)) tot) :
    PJ isN (anyC any) (partC part wt) (bareC bare) (.dict kvs) m (.leaf .none : TCont β) n := by
  refine ⟨fun _ => ?_, fun e => (nomatch e)⟩
  show (kvs.any fun q => okKey any m q) = false
  rw [List.any_eq_false]
  intro q hq
  have := h.none rfl q (hp.mem_iff.mpr hq)
  rw [this]; simp
end
end Mine

end PartMSpec2

section PartMCut
open PySem PySem.W PyProof.Rows PySem.Calls
namespace Mine
def cutOk (i : Int) (m : Nat) : Bool :=
  let y := Txt.slice (txt i) none (some (m : Int))
  (y == Str.ofString "" && decide (m = 0)) || (y == Str.ofString "-" && decide (m = 1)) || (match PySem.intText? y with | some j => decide (-100 ≤ j ∧ j < 2900) && txt j == y | none => false)
theorem cut_neg : ((List.range 100).all fun n => (List.range (txt ((n : Int) - 100)).length).all fun m => cutOk ((n : Int) - 100) m) = true := by decide +kernel
theorem digits_take : ∀ (m k : Nat), 1 ≤ k → k ≤ (Nat.toDigits 10 m).length → ∃ j, j ≤ m ∧ (Nat.toDigits 10 m).take k = Nat.toDigits 10 j := by
  intro m
  induction m using Nat.strongRecOn with
  | ind m ih =>
    intro k h1 h2
    by_cases hk : k = (Nat.toDigits 10 m).length
    · exact ⟨m, Nat.le_refl _, by rw [hk]; exact List.take_length⟩
    · by_cases hm : m < 10
      · rw [Nat.toDigits_of_lt_base hm] at h2 hk
        simp at h2 hk
        omega
      · have e := Nat.toDigits_of_base_le (b := 10) (n := m) (by decide) (by omega)
        rw [e, List.length_append, List.length_singleton] at h2 hk
        obtain ⟨j, hj, ht⟩ := ih (m / 10) (Nat.div_lt_self (by omega) (by decide)) k h1 (by omega)
        exact ⟨j, Nat.le_trans hj (Nat.div_le_self _ _), by rw [e, List.take_append_of_le_length (by omega)]; exact ht⟩
theorem slice_take (x : Str) {m : Int} (h0 : 0 ≤ m) (h1 : m ≤ x.length) : Txt.slice x none (some m) = ⟨(x.cps.toList.take m.toNat).toArray⟩ := by
  have h := eq_of_beq (slice_closes_toL (x := x) (j := m) h0 h1)
  rw [h]; simp
/-- the beginning of a number's digits -/
theorem cut_int {i m : Int} (hi : LeafOk (.int i)) (h0 : 0 ≤ m) (h1 : m < (txt i).length) :
    (Txt.slice (txt i) none (some m) = Str.ofString "" ∧ m = 0) ∨ (Txt.slice (txt i) none (some m) = Str.ofString "-" ∧ m = 1) ∨ ∃ j, -100 ≤ j ∧ j < 2900 ∧ txt j = Txt.slice (txt i) none (some m) ∧ PySem.intText? (Txt.slice (txt i) none (some m)) = some j := by
  obtain ⟨hlo, hhi⟩ : -100 ≤ i ∧ i < 2900 := hi
  by_cases hn : i < 0
  · have h := List.all_eq_true.mp (List.all_eq_true.mp cut_neg (i + 100).toNat (by rw [List.mem_range]; omega)) m.toNat (by
      rw [List.mem_range]
      have e : (((i + 100).toNat : Nat) : Int) - 100 = i := by omega
      rw [e]; omega)
    have e : (((i + 100).toNat : Nat) : Int) - 100 = i := by omega
    have e2 : ((m.toNat : Nat) : Int) = m := by omega
    rw [e] at h
    unfold cutOk at h
    rw [e2] at h
    simp only [Bool.or_eq_true, Bool.and_eq_true, decide_eq_true_eq] at h
    rcases h with (⟨h, hm⟩ | ⟨h, hm⟩) | h
    · exact .inl ⟨eq_of_beq h, by omega⟩
    · exact .inr (.inl ⟨eq_of_beq h, by omega⟩)
    · cases hj : PySem.intText? (Txt.slice (txt i) none (some m)) with
      | none => rw [hj] at h; cases h
      | some j =>
        rw [hj] at h
        simp only [Bool.and_eq_true, decide_eq_true_eq] at h
        exact .inr (.inr ⟨j, h.1.1, h.1.2, eq_of_beq h.2, rfl⟩)
  · obtain ⟨n, rfl⟩ : ∃ n : Nat, i = n := ⟨i.toNat, by omega⟩
    by_cases hm : m = 0
    · subst hm
      refine .inl ⟨?_, rfl⟩
      rw [slice_take _ (by omega) (by omega)]; rfl
    · have hs := PySem.W.KIN.signs_num n
      have hlen : (txt n).length = (Nat.toDigits 10 n).length := by
        show (txt n).cps.size = _
        rw [← Array.length_toList]
        show (Str.ofString (toString ((n : Nat) : Int))).cps.toList.length = _
        rw [hs, List.length_map]
      obtain ⟨j, hj, ht⟩ := digits_take n m.toNat (by omega) (by omega)
      have e : txt j = Txt.slice (txt n) none (some m) := by
        rw [slice_take _ h0 (by omega)]
        have e1 : (txt n).cps.toList = _ := hs
        rw [e1, ← List.map_take, ht, ← PySem.W.KIN.signs_num j]
        show txt j = ⟨(txt j).cps.toList.toArray⟩
        simp
      refine .inr (.inr ⟨j, by omega, by omega, e, ?_⟩)
      rw [← e]
      exact PySem.W.KIN.num_reads (by omega) (by omega)
end Mine

end PartMCut

section PartMTruncP
open PySem PySem.W PyProof.Rows PySem.Calls
namespace Mine
theorem trunc_len {x : Str} {m : Int} (h0 : 0 ≤ m) (h1 : m < x.length) : ((truncS x m).length : Int) = m := by
  unfold truncS
  split
  · exact slen x h0 (by omega)
  · have l1 := slen x (m := m - 5) (by omega) (by omega)
    have l2 := slen2 x (by omega)
    have l3 : (Str.ofString "...").length = 3 := rfl
    rw [Str.length_append, Str.length_append]
    omega
theorem trunc_ok {x : Str} {m : Int} (hx : LeafOk (.str x)) (h0 : 0 ≤ m) (h1 : m < x.length) : TLeafOk (.str (truncS x m)) := by
  have hl := trunc_len h0 h1
  have e1 : x.length = x.cps.size := rfl
  have e2 : (truncS x m).length = (truncS x m).cps.size := rfl
  refine ⟨by have := hx.1; omega, fun e => ?_⟩
  have h3 : m = 3 := by rw [e] at hl; exact hl.symm
  subst h3
  unfold truncS at e
  rw [if_pos (by decide), slice_take x h0 (by omega)] at e
  have h46 : (46 : Nat) ∈ (dotsS).cps.toList := by decide
  rw [← e] at h46
  exact hx.2 46 (List.mem_of_mem_take (by simpa using h46)) rfl
theorem trunc_part {x : Str} {m : Int} (h0 : 0 ≤ m) (h1 : m < x.length) : strPart (truncS x m) x = true := by
  have hl := trunc_len h0 h1
  unfold strPart
  rw [hl]
  unfold truncS
  split <;> simp
end Mine

end PartMTruncP

section PartMShow
open PySem PySem.W PyProof.Rows PySem.Calls
namespace Mine
/-! ## Signs of the told: they can be shown -/
def lowS (x : Str) : Prop := ∀ c ∈ x.cps.toList, c < 16 ^ 8
def lowL : Leaf → Prop
  | .str x => lowS x
  | _ => True
def lowC {α : Type} (low : α → Prop) : Cont α → Prop
  | .leaf l => lowL l ∧ LeafOk l
  | .list xs => ∀ x ∈ xs, low x
  | .dict kvs => ∀ q ∈ kvs, lowS q.1 ∧ low q.2
def lowT {β : Type} (low : β → Prop) : TCont β → Prop
  | .leaf l => lowL l
  | .list ys _ => ∀ y ∈ ys, low y
  | .dict kvs => ∀ q ∈ kvs, lowS q.1 ∧ low q.2
def lowJ : (n : Nat) → J n → Prop
  | 0 => fun x => x.elim
  | n + 1 => lowC (lowJ n)
def lowTJ : (n : Nat) → T n → Prop
  | 0 => fun x => x.elim
  | n + 1 => lowT (lowTJ n)

theorem cps_append (x y : Str) : (x ++ y).cps.toList = x.cps.toList ++ y.cps.toList := by
  show (x.cps ++ y.cps).toList = _
  exact Array.toList_append
theorem slice_mem {x : Str} {l u : Option Int} {c : Nat} (h : c ∈ (Txt.slice x l u).cps.toList) : c ∈ x.cps.toList := by
  unfold Txt.slice at h
  split at h
  · exact h
  · obtain ⟨i, _, hi⟩ := List.mem_filterMap.mp (by simpa using h)
    obtain ⟨hlt, e⟩ := Array.getElem?_eq_some_iff.mp hi
    rw [← e]
    simp
theorem slice_low {x : Str} {l u : Option Int} (h : lowS x) : lowS (Txt.slice x l u) := fun c hc => h c (slice_mem hc)
theorem append_low {x y : Str} (h : lowS x) (k : lowS y) : lowS (x ++ y) := fun c hc => by
  rw [cps_append] at hc
  rcases List.mem_append.mp hc with hc | hc
  · exact h c hc
  · exact k c hc
theorem digit_low {c : Char} {b n : Nat} (hb : b = 10) (h : c ∈ Nat.toDigits b n) : c.isDigit = true := by
  subst hb
  exact Nat.isDigit_of_mem_toDigits (by decide) (by decide) h
theorem digitC {c : Char} (h : c.isDigit = true) : c.toNat < 91 := by
  have h : (decide (c.val ≥ '0'.val) && decide (c.val ≤ '9'.val)) = true := h
  rw [Bool.and_eq_true, decide_eq_true_eq, decide_eq_true_eq] at h
  have h2 : c.val.toNat ≤ ('9' : Char).val.toNat := h.2
  have e : ('9' : Char).val.toNat = 57 := rfl
  rw [e] at h2
  show c.val.toNat < 91
  omega
theorem txt_chars {i : Int} {c : Nat} (hi : LeafOk (.int i)) (h : c ∈ (txt i).cps.toList) : c < 91 := by
  obtain ⟨hlo, hhi⟩ : -100 ≤ i ∧ i < 2900 := hi
  by_cases hn : i < 0
  · have key : ((List.range 100).all fun n => (txt ((n : Int) - 100)).cps.toList.all fun c => decide (c < 91)) = true := by decide +kernel
    have h1 := List.all_eq_true.mp key (i + 100).toNat (by rw [List.mem_range]; omega)
    have e : (((i + 100).toNat : Nat) : Int) - 100 = i := by omega
    rw [e] at h1
    exact of_decide_eq_true (List.all_eq_true.mp h1 c h)
  · obtain ⟨n, rfl⟩ : ∃ n : Nat, i = n := ⟨i.toNat, by omega⟩
    have hs := PySem.W.KIN.signs_num n
    have h' : c ∈ (Str.ofString (toString ((n : Nat) : Int))).cps.toList := h
    rw [hs] at h'
    obtain ⟨d, hd, e⟩ := List.mem_map.mp h'
    have := digitC (digit_low rfl hd)
    rw [← e]; exact this
theorem txtL_low {l : Leaf} (hl : LeafOk l) (h : lowL l) : lowS (txtL l) := by
  cases l with
  | none => intro c hc; have : ∀ c ∈ (Str.ofString "None").cps.toList, c < 16 ^ 8 := by decide
            exact this c hc
  | int i => intro c hc; exact Nat.lt_trans (txt_chars hl hc) (by decide)
  | str x => exact h
theorem strPart_low {t s : Str} (hs : lowS s) (h : strPart t s = true) : lowS t := by
  unfold strPart at h
  simp only [Bool.or_eq_true] at h
  rcases h with h | h | h
  · rw [eq_of_beq h]; exact hs
  · rw [← eq_of_beq h]; exact slice_low hs
  · rw [eq_of_beq h]
    refine append_low (append_low (slice_low hs) ?_) (slice_low hs)
    have : ∀ c ∈ (Str.ofString "...").cps.toList, c < 16 ^ 8 := by decide
    exact this
theorem leafPart_low {β : Type} {low : β → Prop} {y : TCont β} {l : Leaf} (hl : LeafOk l) (hs : lowL l) (h : leafPart y l = true) : lowT low y := by
  cases y with
  | list ys d => cases l <;> (unfold leafPart eqLeaf at h; simp at h)
  | dict ys => cases l <;> (unfold leafPart eqLeaf at h; simp at h)
  | leaf l' =>
    cases l' with
    | none => trivial
    | int i => trivial
    | str t =>
      show lowS t
      cases l with
      | str s => exact strPart_low hs h
      | none =>
        have h : (false || Txt.slice (txtL .none) none (some (t.length)) == t) = true := h
        rw [Bool.false_or] at h
        rw [← eq_of_beq h]; exact slice_low (txtL_low hl hs)
      | int i =>
        have h : (false || Txt.slice (txtL (.int i)) none (some (t.length)) == t) = true := h
        rw [Bool.false_or] at h
        rw [← eq_of_beq h]; exact slice_low (txtL_low hl hs)

section
variable {α β : Type} {part : β → α → Bool} {wt : α → Int} {low : α → Prop} {low' : β → Prop}
theorem gr_low (hp : ∀ y x, part y x = true → low x → low' y) : ∀ (ys : List β) (xs : List α), gr part ys xs = true → (∀ x ∈ xs, low x) → ∀ y ∈ ys, low' y
  | [], _, _, _, y, hy => (List.not_mem_nil hy).elim
  | _ :: _, [], h, _, _, _ => nomatch h
  | y :: ys, x :: xs, h, hx, z, hz => by
    unfold gr at h
    by_cases e : part y x = true
    · rw [if_pos e] at h
      rcases List.mem_cons.mp hz with rfl | hz
      · exact hp _ _ e (hx x (.head _))
      · exact gr_low hp ys xs h (fun x hm => hx x (.tail _ hm)) z hz
    · rw [if_neg e] at h
      exact gr_low hp (y :: ys) xs h (fun x hm => hx x (.tail _ hm)) z hz
theorem at_low {kvs : List (Str × α)} {k : Str} {x : α} (h : at? kvs k = some x) : (k, x) ∈ kvs := by
  unfold at? at h
  cases e : kvs.find? fun q => q.1 == k with
  | none => rw [e] at h; cases h
  | some q =>
    rw [e] at h
    cases h
    have h1 := List.find?_some e
    have h2 := List.mem_of_find?_eq_some e
    have : q.1 = k := by simpa using h1
    rw [← this]; exact h2
/-- a part of a tree that can be shown can be shown -/
theorem partC_low (hp : ∀ y x, part y x = true → low x → low' y) {y : TCont β} {x : Cont α} (h : partC part wt y x = true) (hx : lowC low x) : lowT low' y := by
  cases x with
  | leaf l => exact leafPart_low hx.2 hx.1 h
  | list xs =>
    cases y with
    | leaf l => cases h
    | dict kvs => cases h
    | list ys d =>
      refine gr_low hp ys (ordX wt xs) h fun x hm => ?_
      obtain ⟨i, _, hi⟩ := List.mem_filterMap.mp hm
      exact hx x (List.mem_of_getElem? hi)
  | dict kvs =>
    cases y with
    | leaf l => cases h
    | list ys d => cases h
    | dict tks =>
      intro q hq
      have h1 := List.all_eq_true.mp h q hq
      cases e : at? kvs q.1 with
      | none => rw [e] at h1; cases h1
      | some x =>
        rw [e] at h1
        have hm := at_low e
        obtain ⟨g1, g2⟩ := hx _ hm
        exact ⟨g1, hp _ _ h1 g2⟩
end

/-! ## The told as data -/
def Rd {β : Type} (R : Rl β) (low : β → Prop) (n B : Nat) : Prop := ∀ h v y, (∃ m, h.Ns sysModules m) → R h v y → low y →
  ∃ d as, Reads h v d as ∧ d.showable = true ∧ sysModules ∉ as ∧ d.depth ≤ n ∧ d.shown.length ≤ B
theorem text_mem : ∀ (ts : List Str) (k : Nat) (acc : Str) (c : Nat), c ∈ acc.cps.toList → c ∈ (textFrom k acc ts).cps.toList
  | [], _, _, _, h => h
  | t :: ts, k, acc, c, h => text_mem ts (k + 1) _ c (by rw [cps_append, cps_append]; exact List.mem_append_left _ (List.mem_append_left _ h))
theorem listText_91 (ts : List Str) : 91 ∈ (listText ts).cps.toList := by
  unfold listText
  rw [cps_append]
  exact List.mem_append_left _ (text_mem ts 0 _ 91 (by decide))
theorem dictText_123 (ts : List Str) : 123 ∈ (dictText ts).cps.toList := by
  unfold dictText
  rw [cps_append, cps_append]
  exact List.mem_append_left _ (List.mem_append_left _ (by decide))
theorem piled_le {B : Nat} : ∀ {ts : List Str}, (∀ t ∈ ts, t.length ≤ B) → piled ts ≤ ts.length * (B + 2)
  | [], _ => by rw [piled_nil]; exact Nat.zero_le _
  | t :: ts, h => by
    rw [piled_cons, List.length_cons, Nat.succ_mul]
    have h1 := piled_le (ts := ts) fun u hu => h u (.tail _ hu)
    have h2 := h t (.head _)
    omega
theorem listText_le {B : Nat} {ts : List Str} (h4 : ts.length ≤ 4) (h : ∀ t ∈ ts, t.length ≤ B) : (listText ts).length ≤ 4 * (B + 2) + 2 := by
  have hp := piled_le h
  have h5 : ts.length * (B + 2) ≤ 4 * (B + 2) := Nat.mul_le_mul_right _ h4
  have e : (listText ts).length = (textFrom 0 "[" ts).length + 1 := by unfold listText; rw [strLen_append]; rfl
  rw [e]
  cases ts with
  | nil => show 1 + 1 ≤ _; omega
  | cons t r =>
    have e2 : (textFrom 0 "[" (t :: r)).length = ((("[" : Str) ++ (if 0 > 0 then ", " else "" : String) ++ t)).length + piled r := textFrom_length_pos r 1 _ (by decide)
    rw [e2, strLen_append, strLen_append]
    rw [piled_cons] at hp
    have e3 : ("[" : Str).length = 1 := rfl
    have e4 : (Str.ofString (if 0 > 0 then ", " else "" : String)).length = 0 := rfl
    omega
theorem dictText_le {B : Nat} {ts : List Str} (h4 : ts.length ≤ 3) (h : ∀ t ∈ ts, t.length ≤ B) : (dictText ts).length ≤ 3 * (B + 2) + 2 := by
  have hp := piled_le h
  have h5 : ts.length * (B + 2) ≤ 3 * (B + 2) := Nat.mul_le_mul_right _ h4
  have e : (dictText ts).length = 1 + (Str.join ", " ts).length + 1 := by
    unfold dictText
    rw [strLen_append, strLen_append]; rfl
  rw [e]
  cases ts with
  | nil => show 1 + 0 + 1 ≤ _; omega
  | cons t r => have := join_length_add (t :: r) (by simp); omega
theorem reads_all {B n : Nat} {h : Heap} : ∀ {vs : List Value}, (∀ v ∈ vs, ∃ d as, Reads h v d as ∧ d.showable = true ∧ sysModules ∉ as ∧ d.depth ≤ n ∧ d.shown.length ≤ B) →
    ∃ ds as, ReadsAll h vs ds as ∧ PyData.showableAll ds = true ∧ sysModules ∉ as ∧ PyData.depthAll ds ≤ n ∧ (PyData.shownAll ds).length = vs.length ∧ (∀ t ∈ PyData.shownAll ds, t.length ≤ B) ∧ ds.length = vs.length
  | [], _ => ⟨[], [], .nil, by simp only [PyData.showableAll], List.not_mem_nil, by simp only [PyData.depthAll]; exact Nat.zero_le _, by simp only [PyData.shownAll]; rfl, fun t ht => by simp only [PyData.shownAll] at ht; exact (List.not_mem_nil ht).elim, rfl⟩
  | v :: vs, H => by
    obtain ⟨d, as, r1, r2, r3, r4, r5⟩ := H v (.head _)
    obtain ⟨ds, bs, q1, q2, q3, q4, q5, q6, q7⟩ := reads_all (vs := vs) fun u hu => H u (.tail _ hu)
    refine ⟨d :: ds, as ++ bs, .cons r1 q1, by simp only [PyData.showableAll, r2, q2, Bool.and_self], fun hm => ?_, ?_, ?_, ?_, by simp [q7]⟩
    · rcases List.mem_append.mp hm with hm | hm
      · exact r3 hm
      · exact q3 hm
    · simp only [PyData.depthAll]; exact Nat.max_le.mpr ⟨r4, q4⟩
    · simp only [PyData.shownAll, List.length_cons, q5]
    · intro t ht
      simp only [PyData.shownAll, List.mem_cons] at ht
      rcases ht with rfl | ht
      · exact r5
      · exact q6 t ht
theorem paired_mem {α β : Type} {F : α → β → Prop} {l : List α} {r : List β} (h : Paired F l r) {a : α} (ha : a ∈ l) : ∃ b, b ∈ r ∧ F a b := by
  obtain ⟨i, hi⟩ := List.getElem?_of_mem ha
  obtain ⟨b, hb, hF⟩ := Paired.at' h i a hi
  exact ⟨b, List.mem_of_getElem? hb, hF⟩
theorem leaf_rd {h : Heap} {v : Value} {l : Leaf} (hl : LeafIs v l) (ho : TLeafOk l) (hs : lowL l) : ∃ d as, Reads h v d as ∧ d.showable = true ∧ sysModules ∉ as ∧ d.depth ≤ 0 ∧ d.shown.length ≤ 3000 := by
  cases l with
  | none => cases (show v = .none from hl); exact ⟨_, _, .none, by simp only [PyData.showable], List.not_mem_nil, by simp only [PyData.depth]; exact Nat.le_refl _, by simp only [PyData.shown]; decide⟩
  | int i =>
    obtain ⟨t, rfl⟩ := hl
    refine ⟨_, _, .int i t, ?_, List.not_mem_nil, by simp only [PyData.depth]; exact Nat.le_refl _, ?_⟩
    · simp only [PyData.showable]; exact decide_eq_true (smallLog ho)
    · simp only [PyData.shown]
      have := len_str_of_int i
      obtain ⟨h1, h2⟩ : -100 ≤ i ∧ i < 2900 := ho
      have e : (Str.ofString (toString i)).length = (toString i : Str).length := rfl
      omega
  | str x =>
    obtain ⟨t, rfl⟩ := hl
    refine ⟨_, _, .str x t, by simp only [PyData.showable], List.not_mem_nil, by simp only [PyData.depth]; exact Nat.le_refl _, ?_⟩
    simp only [PyData.shown]
    have := StrLaws.reprText_len x hs
    have e : x.length = x.cps.size := rfl
    have := ho.1
    omega
theorem not_sys {h : Heap} {a : Addr} {vs : Array Value} (hs : ∃ m, h.Ns sysModules m) (x : h.IsList a vs) : a ≠ sysModules := by
  rintro rfl
  obtain ⟨_, o, es, ep, e1, e2, _⟩ := hs
  obtain ⟨o', e3, _, n, e4⟩ := x
  rw [e1] at e3; cases e3
  rw [e2] at e4; cases e4
theorem pairs_reads {w : World} {es : List DictEntry} {kvs : List (Str × Value)} (h : Pairs (strKind prog w) es kvs) : ∀ v ∈ es.map (·.key), ∃ k t, v = .str k t ∧ k ∈ kvs.map (·.1) := by
  induction h with
  | nil => intro v hv; exact (List.not_mem_nil hv).elim
  | cons h1 h2 h3 ih =>
    intro v hv
    rcases List.mem_cons.mp hv with rfl | hv
    · obtain ⟨t, e⟩ := Value.isStrOf_shape h1
      exact ⟨_, t, e, .head _⟩
    · obtain ⟨k, t, e, hk⟩ := ih v hv
      exact ⟨k, t, e, .tail _ hk⟩
theorem pairs_vals {w : World} {es : List DictEntry} {kvs : List (Str × Value)} (h : Pairs (strKind prog w) es kvs) : es.map (·.val) = kvs.map (·.2) := by
  induction h with
  | nil => rfl
  | cons h1 h2 h3 ih => rw [List.map_cons, List.map_cons, ih, h2]
theorem kv_show : ∀ (ks vs : List PyData), ks.length = vs.length → ((ks.zip vs).map (·.1) = ks ∧ (ks.zip vs).map (·.2) = vs)
  | [], [], _ => ⟨rfl, rfl⟩
  | [], _ :: _, h => by simp at h
  | _ :: _, [], h => by simp at h
  | k :: ks, v :: vs, h => by
    obtain ⟨h1, h2⟩ := kv_show ks vs (by simpa using h)
    exact ⟨by simp [h1], by simp [h2]⟩
theorem kv_le {B : Nat} : ∀ (kvs : List (PyData × PyData)), (∀ t ∈ PyData.shownAll (kvs.map (·.1)), t.length ≤ B) → (∀ t ∈ PyData.shownAll (kvs.map (·.2)), t.length ≤ B) → (PyData.shownKv kvs).length = kvs.length ∧ ∀ t ∈ PyData.shownKv kvs, t.length ≤ B + 2 + B
  | [], _, _ => ⟨by simp only [PyData.shownKv]; rfl, fun t ht => by simp only [PyData.shownKv] at ht; exact (List.not_mem_nil ht).elim⟩
  | (k, v) :: r, h1, h2 => by
    simp only [List.map_cons, PyData.shownAll, List.mem_cons] at h1 h2
    obtain ⟨e, ih⟩ := kv_le r (fun t ht => h1 t (.inr ht)) fun t ht => h2 t (.inr ht)
    refine ⟨by simp only [PyData.shownKv, List.length_cons, e], fun t ht => ?_⟩
    simp only [PyData.shownKv, List.mem_cons] at ht
    rcases ht with rfl | ht
    · rw [strLen_append, strLen_append]
      have a1 := h1 _ (.inl rfl)
      have a2 := h2 _ (.inl rfl)
      have a3 : (": " : Str).length = 2 := rfl
      omega
    · exact ih t ht
theorem kv_showable : ∀ (kvs : List (PyData × PyData)), PyData.showableAll (kvs.map (·.1)) = true → PyData.showableAll (kvs.map (·.2)) = true → PyData.showableKv kvs = true
  | [], _, _ => by simp only [PyData.showableKv]
  | (k, v) :: r, h1, h2 => by
    simp only [List.map_cons, PyData.showableAll, Bool.and_eq_true] at h1 h2
    simp only [PyData.showableKv, h1.1, h2.1, kv_showable r h1.2 h2.2, Bool.and_self]
theorem kv_depth {n : Nat} : ∀ (kvs : List (PyData × PyData)), PyData.depthAll (kvs.map (·.1)) ≤ n → PyData.depthAll (kvs.map (·.2)) ≤ n → PyData.depthKv kvs ≤ n
  | [], _, _ => by simp only [PyData.depthKv]; exact Nat.zero_le _
  | (k, v) :: r, h1, h2 => by
    simp only [List.map_cons, PyData.depthAll, Nat.max_le] at h1 h2
    simp only [PyData.depthKv, Nat.max_le]
    exact ⟨⟨h1.1, h2.1⟩, kv_depth r h1.2 h2.2⟩

section
variable {w : World} {β : Type} {R : Rl β} {low : β → Prop} {n B : Nat}
/-- what a told row or table shows -/
theorem cont_rd (hR : Rd R low n B) (hB : 3000 ≤ B) {h : Heap} {v : Value} {y : TCont β} (hs : ∃ m, h.Ns sysModules m) (hy : TContIs w R h v y) (hl : lowT low y) (hc : ∀ l, y ≠ .leaf l) :
    ∃ a d as, v = .ref a ∧ Reads h v d as ∧ d.showable = true ∧ sysModules ∉ as ∧ d.depth ≤ n + 1 ∧ d.shown.length ≤ 6 * B + 100 ∧ ∃ c, (c = 91 ∨ c = 123) ∧ c ∈ d.shown.cps.toList := by
  cases y with
  | leaf l => exact absurd rfl (hc l)
  | list ys dots =>
    obtain ⟨h3, a, vs, es, rfl, hv, hp, hd⟩ := hy
    obtain ⟨ds, as, q1, q2, q3, q4, q5, q6, q7⟩ := reads_all (B := B) (n := n) (h := h) (vs := vs ++ es) fun v hm => by
      rcases List.mem_append.mp hm with hm | hm
      · obtain ⟨y, hy, hR'⟩ := paired_mem hp hm
        exact hR h v y hs hR' (hl y hy)
      · cases dots with
        | false => cases (show es = [] from hd); exact (List.not_mem_nil hm).elim
        | true =>
          obtain ⟨t, rfl⟩ := hd
          rw [List.mem_singleton.mp hm]
          exact ⟨_, _, .str dotsS t, by simp only [PyData.showable], List.not_mem_nil, by simp only [PyData.depth]; exact Nat.zero_le _, by
            simp only [PyData.shown]
            have := StrLaws.reprText_len dotsS (by decide)
            have e : (dotsS).length = 3 := rfl
            omega⟩
    have hne := not_sys hs hv
    obtain ⟨o, e1, e2, k, e3⟩ := hv
    have hlen : es.length ≤ 1 := by
      cases dots with
      | false => cases (show es = [] from hd); exact Nat.zero_le _
      | true => obtain ⟨t, rfl⟩ := hd; exact Nat.le_refl _
    refine ⟨a, .list ds, a :: as, rfl, .list e1 e2 e3 (by simpa using q1), by simp only [PyData.showable, q2], fun hm => ?_, by simp only [PyData.depth]; omega, ?_, 91, .inl rfl, by simp only [PyData.shown]; exact listText_91 _⟩
    · rcases List.mem_cons.mp hm with e | hm
      · exact hne e.symm
      · exact q3 hm
    · simp only [PyData.shown]
      have := listText_le (B := B) (ts := PyData.shownAll ds) (by rw [q5, List.length_append, hp.length]; omega) q6
      omega
  | dict kvs =>
    obtain ⟨h3, hk, a, es, rfl, hsm, hd, hp⟩ := hy
    obtain ⟨o, ds, ep, e1, e2, e3, _, hpr, _⟩ := hd
    have hlen : ds.toList.length = kvs.length := hpr.length.trans hp.length
    obtain ⟨d1, a1, p1, p2, p3, p4, p5, p6, p7⟩ := reads_all (B := B) (n := n) (h := h) (vs := ds.toList.map (·.key)) fun v hm => by
      obtain ⟨k, t, rfl, hk'⟩ := pairs_reads hpr v hm
      obtain ⟨e, he, rfl⟩ := List.mem_map.mp hk'
      obtain ⟨q, hq, hqe, _⟩ := paired_mem hp he
      refine ⟨_, _, .str e.1 t, by simp only [PyData.showable], List.not_mem_nil, by simp only [PyData.depth]; exact Nat.zero_le _, ?_⟩
      simp only [PyData.shown]
      have hks := hk q hq
      have := StrLaws.reprText_len e.1 (by rw [hqe]; exact (hl q hq).1)
      have e : e.1.length = q.1.cps.size := by rw [hqe]; rfl
      omega
    obtain ⟨d2, a2, r1, r2, r3, r4, r5, r6, r7⟩ := reads_all (B := B) (n := n) (h := h) (vs := ds.toList.map (·.val)) fun v hm => by
      rw [pairs_vals hpr] at hm
      obtain ⟨e, he, rfl⟩ := List.mem_map.mp hm
      obtain ⟨q, hq, _, hqr⟩ := paired_mem hp he
      exact hR h _ _ hs hqr (hl q hq).2
    obtain ⟨z1, z2⟩ := kv_show d1 d2 (by rw [p7, r7, List.length_map, List.length_map])
    have hzl : (d1.zip d2).length = kvs.length := by rw [List.length_zip, p7, r7, List.length_map, List.length_map, hlen, Nat.min_self]
    obtain ⟨k1, k2⟩ := kv_le (B := B) (d1.zip d2) (by rw [z1]; exact p6) (by rw [z2]; exact r6)
    refine ⟨a, .dict (d1.zip d2), a :: a1 ++ a2, rfl, .dict e1 e2.1 e3 (by rw [z1]; exact p1) (by rw [z2]; exact r1), by simp only [PyData.showable]; exact kv_showable _ (by rw [z1]; exact p2) (by rw [z2]; exact r2), fun hm => ?_, ?_, ?_, 123, .inr rfl, by simp only [PyData.shown]; exact dictText_123 _⟩
    · rcases List.mem_append.mp hm with hm | hm
      · rcases List.mem_cons.mp hm with e | hm
        · rw [← e] at hsm; exact absurd hsm (by decide)
        · exact p3 hm
      · exact r3 hm
    · simp only [PyData.depth]
      have := kv_depth (n := n) (d1.zip d2) (by rw [z1]; exact p4) (by rw [z2]; exact r4)
      omega
    · simp only [PyData.shown]
      have := dictText_le (B := B + 2 + B) (ts := PyData.shownKv (d1.zip d2)) (by rw [k1, hzl]; omega) k2
      omega
theorem rd_step (hR : Rd R low n B) (hB : 3000 ≤ B) : Rd (TContIs w R) (lowT low) (n + 1) (6 * B + 100) := by
  intro h v y hs hy hl
  by_cases hc : ∃ l, y = .leaf l
  · obtain ⟨l, rfl⟩ := hc
    obtain ⟨d, as, q1, q2, q3, q4, q5⟩ := leaf_rd (h := h) hy.1 hy.2 hl
    exact ⟨d, as, q1, q2, q3, by omega, by omega⟩
  · obtain ⟨a, d, as, rfl, q1, q2, q3, q4, q5, _⟩ := cont_rd hR hB hs hy hl fun l e => hc ⟨l, e⟩
    exact ⟨d, as, q1, q2, q3, q4, q5⟩
end
def BB : Nat → Nat
  | 0 => 3000
  | n + 1 => 6 * BB n + 100
theorem bb_ge : ∀ n, 3000 ≤ BB n
  | 0 => Nat.le_refl _
  | n + 1 => by have := bb_ge n; show 3000 ≤ 6 * BB n + 100; omega
theorem rd_all (w : World) : ∀ n, Rd (TIs w n) (lowTJ n) n (BB n)
  | 0 => fun _ _ x => x.elim
  | n + 1 => by
    have ih : Rd (TIs w n) (lowTJ n) n (BB n) := rd_all w n
    exact rd_step ih (bb_ge n)
/-- the beginning of a leaf's text is no text of a container -/
theorem no_slice {l : Leaf} {x : Str} {n : Int} (hl : LeafOk l) (hs : ∀ s, l ≠ .str s) {c : Nat} (hc : c = 91 ∨ c = 123) (hm : c ∈ x.cps.toList) : (Txt.slice (txtL l) none (some n) == x) = false := by
  cases e : (Txt.slice (txtL l) none (some n) == x) with
  | false => rfl
  | true =>
    rw [← eq_of_beq e] at hm
    have hm := slice_mem hm
    cases l with
    | none =>
      have h1 : ∀ c ∈ (Str.ofString "None").cps.toList, c ≠ 91 ∧ c ≠ 123 := by decide
      obtain ⟨g1, g2⟩ := h1 c hm
      rcases hc with e | e
      · exact absurd e g1
      · exact absurd e g2
    | int i => exact absurd (txt_chars hl hm) (by omega)
    | str s => exact absurd rfl (hs s)
end Mine

end PartMShow

section PartMPart
open PySem PySem.W PyProof.Rows PySem.Calls
local macro_rules | `(tactic| walk_at "eval ListComp") => `(tactic| refine Mine.stop_ ?_)
local macro_rules | `(tactic| walk_at "call builtin:len") => `(tactic| ((with_reducible show wpAny _ _ (call (Value.builtin "len") [Value.str _ _]) _ _ _); refine len_str (by with_reducible assumption) ?_))
local macro_rules | `(tactic| walk_at "subscriptTail") => `(tactic| ((with_reducible show wpAny _ _ (subscriptTail _ _ (Value.ref _) (Value.str _ _)) _ _ _); refine Mine.item_dict (by with_reducible assumption) (by with_reducible assumption) ?_ (by with_unfolding_all rfl) (by intro _; with_unfolding_all rfl)))
local macro_rules | `(tactic| walk_at "call ref") => `(tactic| refine Mine.stop_ ?_)
local macro_rules | `(tactic| walk_at "eval Name") => `(tactic| ((with_reducible show wpAny _ _ (eval (Expr.Name _ _) (compEnvC _ _ _ _)) _ _ _); first
  | (refine Mine.cname_L (by with_reducible assumption) (by with_reducible assumption) ?_ (by rfl) (by rfl) (by decide))
  | (refine Mine.cname_C (by rfl) (by with_reducible assumption) ?_ (by rfl) (by rfl) (by decide))
  | (refine Mine.cname_K (by with_reducible assumption) (by rfl) ?_ (by rfl) (by rfl) (by rfl) (by decide))
  | (refine Mine.cname_B (by with_reducible assumption) (by rfl) (by boot_by_name) (by decide) ?_ (by rfl) (by rfl) (by rfl) (by rfl) (by decide))))
namespace Mine
variable {w : World} {p : Program} {loose : List Str} {mean : ExcName → Option Value} {mg mb : Str → Option Value}


def PartOk (w : World) (p : Program) (loose : List Str) (mean : ExcName → Option Value) (mg mb : Str → Option Value) {α β : Type} (R' : Rl β) (R : Rl α) (low : β → Prop) (part : β → α → Bool) (k : Nat) : Prop :=
  ∀ (A : Around) (s : Shared) (vt v : Value) (y : β) (x : α) (E : Value → Shared → Prop), Am k A → Gd w p loose mean mg mb s.heap → (∃ m, s.heap.Ns sysModules m) → R' s.heap vt y → low y → R s.heap v x →
    wpAny (model PySem.Challenge.rw_ez0045_01.row.prog w) A (call (.ref 84) [vt, v]) (fun r s' => Keeps s s' ∧ r = .bool (part y x)) E s

end Mine

end PartMPart

section PartMPartS
open PySem PySem.W PyProof.Rows PySem.Calls
local macro_rules | `(tactic| walk_at "no such step 0") => `(tactic| fail)
local macro_rules | `(tactic| walk_at "eval ListComp") => `(tactic| refine Mine.stop_ ?_)
local macro_rules | `(tactic| walk_at "call builtin:len") => `(tactic| ((with_reducible show wpAny _ _ (call (Value.builtin "len") [Value.str _ _]) _ _ _); refine len_str (by with_reducible assumption) ?_))
local macro_rules | `(tactic| walk_at "subscriptTail") => `(tactic| ((with_reducible show wpAny _ _ (subscriptTail _ _ (Value.ref _) (Value.str _ _)) _ _ _); refine Mine.item_dict (by with_reducible assumption) (by with_reducible assumption) ?_ (by with_unfolding_all rfl) (by intro _; with_unfolding_all rfl)))
local macro_rules | `(tactic| walk_at "call ref") => `(tactic| refine Mine.stop_ ?_)
local macro_rules | `(tactic| walk_at "eval Name") => `(tactic| ((with_reducible show wpAny _ _ (eval (Expr.Name _ _) (compEnvC _ _ _ _)) _ _ _); first
  | (refine Mine.cname_L (by with_reducible assumption) (by with_reducible assumption) ?_ (by rfl) (by rfl) (by decide))
  | (refine Mine.cname_C (by rfl) (by with_reducible assumption) ?_ (by rfl) (by rfl) (by decide))
  | (refine Mine.cname_K (by with_reducible assumption) (by rfl) ?_ (by rfl) (by rfl) (by rfl) (by decide))
  | (refine Mine.cname_B (by with_reducible assumption) (by rfl) (by boot_by_name) (by decide) ?_ (by rfl) (by rfl) (by rfl) (by rfl) (by decide))))
namespace Mine
variable {w : World} {p : Program} {loose : List Str} {mean : ExcName → Option Value} {mg mb : Str → Option Value}



set_option maxHeartbeats 4000000 in
theorem part_ss {A : Around} {s : Shared} {k : Nat} {t z : Str} {tt tz : Tok} {E : Value → Shared → Prop} (hA : Am (k + 1) A) (G : Gd w p loose mean mg mb s.heap) (ht : t.cps.size ≤ 13) (hz : z.cps.size ≤ 13) :
    wpAny (model PySem.Challenge.rw_ez0045_01.row.prog w) A (call (.ref 84) [.str t tt, .str z tz]) (fun r s' => Keeps s s' ∧ r = .bool (strPart t z)) E s := by
  obtain ⟨X, T⟩ := G
  revert X; k_fill; intro X
  refine callC' (binds := [(Str.ofString "told", .str t tt), (Str.ofString "tree", .str z tz)]) (fun L => [(Str.ofString "tree", L + 2), (Str.ofString "told", L + 1)]) (fun _ => none) (fun y => if y = Str.ofString "tree" then some (.str z tz) else if y = Str.ofString "told" then some (.str t tt) else none) hA.room (X 84 _ rfl) rfl T.nolimit (codeRec_of X (by rfl)) (BindsTo.of_eq rfl) (by rfl) (by decide) rfl rfl rfl
    (fun _ => rfl) (fun _ => rfl) (fun _ => rfl) fun L h₁ tk cells F N Y => ?_
  obtain ⟨om, ot, rfl, hom, hot⟩ := Y.two
  replace hom : om.data = .cell (some (.str z tz)) := hom
  replace hot : ot.data = .cell (some (.str t tt)) := hot
  clear Y
  w_on
  have hh : A.handled = none := hA.hd
  have hcm : h₁.IsCell (L + 2) (some (.str z tz)) := ⟨om, (N _ (.head _)).1, hom⟩
  have hct : h₁.IsCell (L + 1) (some (.str t tt)) := ⟨ot, (N _ (.tail _ (.head _))).1, hot⟩
  replace hz : z.length ≤ 13 := hz
  replace ht : t.length ≤ 13 := ht
  have hzf : ¬ ((z.length : Int) ≥ 2 ^ 63) := by omega
  have htf : ¬ ((t.length : Int) ≥ 2 ^ 63) := by omega
  have hzs : z.length ≤ sizeLine := by rw [sizeLine_eq]; omega
  k_steps
  all_goals first
    | (show Value.bool _ = Value.bool _; unfold strPart; simp [*])
    | (rename Fr _ _ _ _ => F2; exact ⟨_, _, rfl, F2.keep⟩)
end Mine

end PartMPartS

section PartMPartA
open PySem PySem.W PyProof.Rows PySem.Calls
local macro_rules | `(tactic| walk_at "eval ListComp") => `(tactic| refine Mine.stop_ ?_)
local macro_rules | `(tactic| walk_at "call builtin:len") => `(tactic| ((with_reducible show wpAny _ _ (call (Value.builtin "len") [Value.str _ _]) _ _ _); refine len_str (by with_reducible assumption) ?_))
local macro_rules | `(tactic| walk_at "subscriptTail") => `(tactic| ((with_reducible show wpAny _ _ (subscriptTail _ _ (Value.ref _) (Value.str _ _)) _ _ _); refine Mine.item_dict (by with_reducible assumption) (by with_reducible assumption) ?_ (by with_unfolding_all rfl) (by intro _; with_unfolding_all rfl)))
local macro_rules | `(tactic| walk_at "call ref") => `(tactic| refine Mine.stop_ ?_)
local macro_rules | `(tactic| walk_at "eval Name") => `(tactic| ((with_reducible show wpAny _ _ (eval (Expr.Name _ _) (compEnvC _ _ _ _)) _ _ _); first
  | (refine Mine.cname_L (by with_reducible assumption) (by with_reducible assumption) ?_ (by rfl) (by rfl) (by decide))
  | (refine Mine.cname_C (by rfl) (by with_reducible assumption) ?_ (by rfl) (by rfl) (by decide))
  | (refine Mine.cname_K (by with_reducible assumption) (by rfl) ?_ (by rfl) (by rfl) (by rfl) (by decide))
  | (refine Mine.cname_B (by with_reducible assumption) (by rfl) (by boot_by_name) (by decide) ?_ (by rfl) (by rfl) (by rfl) (by rfl) (by decide))))
namespace Mine
variable {w : World} {p : Program} {loose : List Str} {mean : ExcName → Option Value} {mg mb : Str → Option Value}




set_option maxHeartbeats 4000000 in
theorem part_xs {β : Type} {R' : Rl β} (hR' : Mono R') {A : Around} {s : Shared} {k : Nat} {vt : Value} {y : TCont β} {z : Str} {tz : Tok} {E : Value → Shared → Prop} (hA : Am (k + 1) A) (G : Gd w p loose mean mg mb s.heap) (hy : TContIs w R' s.heap vt y) (hn : ∀ t, y ≠ .leaf (.str t)) (hz : z.cps.size ≤ 13) :
    wpAny (model PySem.Challenge.rw_ez0045_01.row.prog w) A (call (.ref 84) [vt, .str z tz]) (fun r s' => Keeps s s' ∧ r = .bool false) E s := by
  obtain ⟨X, T⟩ := G
  revert X; k_fill; intro X
  refine callC' (binds := [(Str.ofString "told", vt), (Str.ofString "tree", .str z tz)]) (fun L => [(Str.ofString "tree", L + 2), (Str.ofString "told", L + 1)]) (fun _ => none) (fun y => if y = Str.ofString "tree" then some (.str z tz) else if y = Str.ofString "told" then some vt else none) hA.room (X 84 _ rfl) rfl T.nolimit (codeRec_of X (by rfl)) (BindsTo.of_eq rfl) (by rfl) (by decide) rfl rfl rfl
    (fun _ => rfl) (fun _ => rfl) (fun _ => rfl) fun L h₁ tk cells F N Y => ?_
  obtain ⟨om, ot, rfl, hom, hot⟩ := Y.two
  replace hom : om.data = .cell (some (.str z tz)) := hom
  replace hot : ot.data = .cell (some vt) := hot
  clear Y
  w_on
  have hh : A.handled = none := hA.hd
  have hcm : h₁.IsCell (L + 2) (some (.str z tz)) := ⟨om, (N _ (.head _)).1, hom⟩
  have hct : h₁.IsCell (L + 1) (some vt) := ⟨ot, (N _ (.tail _ (.head _))).1, hot⟩
  have hun : A.units + 3 < cLine := by have := hA.un; omega
  have hy1 := mono_tcont hR' _ _ _ _ F.keep hy
  have hq : eqLeaf y (.str z) = false := by
    cases y with
    | leaf l =>
      cases l with
      | str t => exact absurd rfl (hn t)
      | _ => rfl
    | _ => rfl
  k_steps
  refine eq_leaf (y := .str z) hy1 ⟨tz, rfl⟩ hun _ _ _ _ ?_
  rw [hq]
  cases y with
  | leaf l =>
    obtain ⟨hl, ho⟩ := hy
    cases l with
    | str t => exact absurd rfl (hn t)
    | none =>
      cases (show vt = .none from hl)
      k_steps
      exact ⟨_, _, rfl, F.keep⟩
    | int i =>
      obtain ⟨t, rfl⟩ := hl
      k_steps
      exact ⟨_, _, rfl, F.keep⟩
  | list ys d =>
    obtain ⟨_, a, vs, es, rfl, hv, _⟩ := hy1
    obtain ⟨o, ho, hc, _⟩ := id hv
    k_steps
    refine PySem.IsiPair.list_str ho hc ?_
    k_steps
    exact ⟨_, _, rfl, F.keep⟩
  | dict kvs =>
    obtain ⟨_, _, a, es, rfl, _, hv, _⟩ := hy1
    obtain ⟨o, ds, ep, ho, hc, hd⟩ := dict_obj hv
    k_steps
    refine PySem.IsiPair.dict_str ho hc ?_
    k_steps
    exact ⟨_, _, rfl, F.keep⟩
end Mine

end PartMPartA

section PartMPartB
open PySem PySem.W PyProof.Rows PySem.Calls
local macro_rules | `(tactic| walk_at "eval ListComp") => `(tactic| refine Mine.stop_ ?_)
local macro_rules | `(tactic| walk_at "call builtin:len") => `(tactic| ((with_reducible show wpAny _ _ (call (Value.builtin "len") [Value.str _ _]) _ _ _); refine len_str (by with_reducible assumption) ?_))
local macro_rules | `(tactic| walk_at "subscriptTail") => `(tactic| ((with_reducible show wpAny _ _ (subscriptTail _ _ (Value.ref _) (Value.str _ _)) _ _ _); refine Mine.item_dict (by with_reducible assumption) (by with_reducible assumption) ?_ (by with_unfolding_all rfl) (by intro _; with_unfolding_all rfl)))
local macro_rules | `(tactic| walk_at "call ref") => `(tactic| refine Mine.stop_ ?_)
local macro_rules | `(tactic| walk_at "eval Name") => `(tactic| ((with_reducible show wpAny _ _ (eval (Expr.Name _ _) (compEnvC _ _ _ _)) _ _ _); first
  | (refine Mine.cname_L (by with_reducible assumption) (by with_reducible assumption) ?_ (by rfl) (by rfl) (by decide))
  | (refine Mine.cname_C (by rfl) (by with_reducible assumption) ?_ (by rfl) (by rfl) (by decide))
  | (refine Mine.cname_K (by with_reducible assumption) (by rfl) ?_ (by rfl) (by rfl) (by rfl) (by decide))
  | (refine Mine.cname_B (by with_reducible assumption) (by rfl) (by boot_by_name) (by decide) ?_ (by rfl) (by rfl) (by rfl) (by rfl) (by decide))))
local macro_rules | `(tactic| walk_at "call type:str") => `(tactic| refine Mine.stop_ ?_)
namespace Mine
variable {w : World} {p : Program} {loose : List Str} {mean : ExcName → Option Value} {mg mb : Str → Option Value}





/-- the text of a value -/
def TextIs (w : World) (h₀ : Heap) (v : Value) (u : Str) : Prop :=
  ∀ (A : Around) (s : Shared) (Q E : Value → Shared → Prop), A.guards = some [] → A.units + 20 < cLine → (∀ b o, h₀.get? b = some o → s.heap.get? b = some o) →
    (∀ h' t tk, (∀ b o, s.heap.get? b = some o → h'.get? b = some o) → Q (.str u t) { s with heap := h', toks := tk }) → wpAny (model prog w) A (call (.type "str") [v]) Q E s
theorem text_leaf {h₀ : Heap} {v : Value} {l : Leaf} (hl : LeafIs v l) (ho : ∀ i, l = .int i → i.natAbs.log2 < 1920) : TextIs w h₀ v (txtL l) := by
  intro A s Q E _ _ _ h
  cases l with
  | none => cases (show v = .none from hl); exact PySem.P.str_of_none (h s.heap _ _ fun _ _ e => e)
  | int i => obtain ⟨t, rfl⟩ := hl; exact PySem.P.str_of_int (ho i rfl) (h s.heap _ _ fun _ _ e => e)
  | str x => obtain ⟨t, rfl⟩ := hl; exact PySem.P.str_of_str (h s.heap _ _ fun _ _ e => e)

set_option maxHeartbeats 4000000 in
/-- the tree is a number or None -/
theorem part_lf {β : Type} {R' : Rl β} (hR' : Mono R') {A : Around} {s : Shared} {k : Nat} {vt v : Value} {y : TCont β} {l : Leaf} {u : Str} {E : Value → Shared → Prop} (hA : Am (k + 2) A) (G : Gd w p loose mean mg mb s.heap) (hy : TContIs w R' s.heap vt y) (hl : LeafIs v l) (ho : LeafOk l) (hn : ∀ t, l ≠ .str t)
    (htx : TextIs w s.heap vt u) (hu : u.length ≤ sizeLine) (hpt : eqLeaf y l = false → leafPart y l = (Txt.slice (txtL l) none (some u.length) == u)) :
    wpAny (model PySem.Challenge.rw_ez0045_01.row.prog w) A (call (.ref 84) [vt, v]) (fun r s' => Keeps s s' ∧ r = .bool (leafPart y l)) E s := by
  obtain ⟨X, T⟩ := G
  revert X; k_fill; intro X
  refine callC' (binds := [(Str.ofString "told", vt), (Str.ofString "tree", v)]) (fun L => [(Str.ofString "tree", L + 2), (Str.ofString "told", L + 1)]) (fun _ => none) (fun y => if y = Str.ofString "tree" then some v else if y = Str.ofString "told" then some vt else none) hA.room (X 84 _ rfl) rfl T.nolimit (codeRec_of X (by rfl)) (BindsTo.of_eq rfl) (by rfl) (by decide) rfl rfl rfl
    (fun _ => rfl) (fun _ => rfl) (fun _ => rfl) fun L h₁ tk cells F N Y => ?_
  obtain ⟨om, ot, rfl, hom, hot⟩ := Y.two
  replace hom : om.data = .cell (some v) := hom
  replace hot : ot.data = .cell (some vt) := hot
  clear Y
  w_on
  have hh : A.handled = none := hA.hd
  have hcm : h₁.IsCell (L + 2) (some v) := ⟨om, (N _ (.head _)).1, hom⟩
  have hct : h₁.IsCell (L + 1) (some vt) := ⟨ot, (N _ (.tail _ (.head _))).1, hot⟩
  have hun : A.units + 3 < cLine := by have := hA.un; omega
  have hun2 : A.units + 3 + 20 < cLine := by have := hA.un; omega
  have hg : A.guards = some [] := hA.gd
  have hfit : ¬ ((u.length : Int) ≥ 2 ^ 63) := by rw [sizeLine_eq] at hu; omega
  have hy1 := mono_tcont hR' _ _ _ _ F.keep hy
  have hl0 := hl
  have ho0 : ∀ i, l = .int i → i.natAbs.log2 < 1920 := fun i e => smallLog (e ▸ ho)
  have htrue : eqLeaf y l = true → leafPart y l = true := fun e => by
    cases l with
    | str t => exact absurd rfl (hn t)
    | none => show (eqLeaf y .none || _) = true; rw [e, Bool.true_or]
    | int i => show (eqLeaf y (.int i) || _) = true; rw [e, Bool.true_or]
  cases l with
  | str t => exact absurd rfl (hn t)
  | none =>
    cases (show v = .none from hl)
    k_steps
    refine eq_leaf (y := .none) hy1 hl0 hun _ _ _ _ ?_
    cases hq : eqLeaf y .none with
    | true =>
      k_steps
      · exact ⟨_, _, rfl, F.keep⟩
      · exact congrArg Value.bool (htrue hq).symm
    | false =>
      rw [hpt hq]
      k_steps
      unfold Mine.Stop
      refine text_leaf (h₀ := s.heap) hl0 ho0 _ _ _ _ hg hun2 F.keep fun h2 t2 tk2 hk2 => ?_
      have F2 := F.keeps hk2
      have N2 := N.grown hk2
      clear F N
      k_steps
      unfold Mine.Stop
      refine htx _ _ _ _ hg hun2 F2.keep fun h3 t3 tk3 hk3 => ?_
      have F3 := F2.keeps hk3
      have N3 := N2.grown hk3
      clear F2 N2
      k_steps
      rename Fr _ _ _ _ => F4
      rename News _ _ _ _ => N4
      unfold Mine.Stop
      refine htx _ _ _ _ hg hun2 F4.keep fun h5 t5 tk5 hk5 => ?_
      have F5 := F4.keeps hk5
      have N5 := N4.grown hk5
      clear F4 N4
      k_steps
      exact ⟨_, _, rfl, F5.keep⟩
  | int j =>
    obtain ⟨tj, rfl⟩ := hl
    have hzs : (txtL (Leaf.int j)).length ≤ sizeLine := by
      rw [sizeLine_eq]
      have h1 := txt_fit ho
      have h2 := len_str_of_int j
      obtain ⟨h3, h4⟩ : -100 ≤ j ∧ j < 2900 := ho
      show (Str.ofString (toString j)).length ≤ _
      omega
    k_steps
    refine eq_leaf (y := .int j) hy1 hl0 hun _ _ _ _ ?_
    cases hq : eqLeaf y (.int j) with
    | true =>
      k_steps
      · exact ⟨_, _, rfl, F.keep⟩
      · exact congrArg Value.bool (htrue hq).symm
    | false =>
      rw [hpt hq]
      k_steps
      unfold Mine.Stop
      refine text_leaf (h₀ := s.heap) hl0 ho0 _ _ _ _ hg hun2 F.keep fun h2 t2 tk2 hk2 => ?_
      have F2 := F.keeps hk2
      have N2 := N.grown hk2
      clear F N
      k_steps
      unfold Mine.Stop
      refine htx _ _ _ _ hg hun2 F2.keep fun h3 t3 tk3 hk3 => ?_
      have F3 := F2.keeps hk3
      have N3 := N2.grown hk3
      clear F2 N2
      k_steps
      rename Fr _ _ _ _ => F4
      rename News _ _ _ _ => N4
      unfold Mine.Stop
      refine htx _ _ _ _ hg hun2 F4.keep fun h5 t5 tk5 hk5 => ?_
      have F5 := F4.keeps hk5
      have N5 := N4.grown hk5
      clear F4 N4
      k_steps
      exact ⟨_, _, rfl, F5.keep⟩
end Mine

end PartMPartB

section PartMH1
open PySem PySem.W PyProof.Rows PySem.Calls
namespace Mine

/-! ## The statements that lie on the way to a call of that kind -/
theorem hideQ {α : Type} {M : Model} {A : Around} {E : Value → Shared → Prop} {s : Shared} {t : Sem α} {Q : α → Shared → Prop} (h : ∀ K : α → Shared → Prop, (∀ a s', Q a s' → K a s') → wpAny M A t (fun a s' => Stop (K a s')) E s) : wpAny M A t Q E s := h Q (fun _ _ x => x)
section
variable {α β : Type} {M : Model} {A : Around} {E : Value → Shared → Prop} {s : Shared} {env : Env}
theorem wpH_keep {vs : List Value} {m : Sem α} {Q : α → Shared → Prop} (h : wpH M A m Q E s) : wpH M A (m.keep vs) Q E s := fun Γ p hΓ hc => by rw [Sem.wp_keep]; exact h Γ p hΓ hc
theorem wpH_point {r : Value} {Q : Value → Shared → Prop} (h : Q r s) : wpH M A (holding [r] point >>= fun _ => pure r) Q E s := wpH_bind (wpH_holding (wpH_of (wpAny_point (wpH_pure h))))
theorem wpH_execs_cons {st : Stmt} {rest : List Stmt} {Q : Flow → Shared → Prop} (h : wpH M A (exec st env) (fun f s' => match f with | .next => Mine.Stop (wpH M A (execs rest env) Q E s') | f => Q f s') E s) : wpH M A (execs (st :: rest) env) Q E s := by
  rw [PySem.execs_cons]
  refine wpH_bind (wpH_mono h (fun f s' h' => ?_) fun _ _ x => x)
  cases f <;> first | exact h' | exact wpH_pure h'
theorem wpH_execs_consA {st : Stmt} {rest : List Stmt} {Q : Flow → Shared → Prop} (h : wpAny M A (exec st env) (fun f s' => match f with | .next => Mine.Stop (wpH M A (execs rest env) Q E s') | f => Q f s') E s) : wpH M A (execs (st :: rest) env) Q E s :=
  wpH_execs_cons (wpH_of h)
theorem wpH_If {test : Expr} {body orelse : List Stmt} {pos : Pos} {Q : Flow → Shared → Prop}
    (h : wpAny M A (isTrue test env (eval test env)) (fun b s₂ => Mine.Stop (if b then wpH M A (execs body env) Q E s₂ else wpH M A (execs orelse env) Q E s₂)) E s) : wpH M A (exec (.If test body orelse pos) env) Q E s := fun Γ p hΓ hc => by
  simp only [PySem.exec_If, Sem.wp_bind', Sem.wp_cmd_standAt]
  refine Sem.wp_mono M Γ _ (fun b p₂ s₂ h₂ => ?_) (fun _ _ _ h' => h') _ _ (h Γ _ hΓ)
  cases b <;> exact h₂ Γ p₂ hΓ (hasC_pos hc)
theorem wpH_Assign {t value : Expr} {pos : Pos} {Q : Flow → Shared → Prop}
    (h : wpH M A (eval value env) (fun v s₁ => wpAny M A (assign t env v) (fun _ => Q .next) E s₁) E s)
    (he : (assignEach [t] env).map (·.2) = [assign t env] := by rfl)
    (hs : swapsWithSole [t] value pos.line env = pure false := by rfl) (hw : swappedStores [t] value env = pure none := by rfl) : wpH M A (exec (.Assign [t] value pos) env) Q E s := by
  rw [PySem.exec_Assign_arm]
  refine wpH_bind (wpH_standAt ?_)
  rw [hs]
  refine wpH_bind (wpH_pure ?_)
  rw [if_neg (by decide)]
  refine wpH_bind (wpH_mono h (fun v s₁ h₁ => ?_) fun _ _ x => x)
  rw [hw]
  refine wpH_bind (wpH_pure ?_)
  rw [he]
  show wpH M A (do assign t env v; pure Flow.next) Q E s₁
  exact wpH_of (wpAny_bind (wpAny_mono h₁ (fun _ _ x => wpAny_pure x) fun _ _ x => x))
theorem wpH_Call_def {x : Str} {p pos : Pos} {args : List Expr} {t0 : Sem Value} {tr : List (Bool × Sem Value)} {Q : Value → Shared → Prop} (ht : backTo pos (starEach args env) = (false, t0) :: tr) (hplain : tr.any (·.1) = false)
    (h : wpAny M A (eval (.Name x p) env) (fun fv s₁ => Mine.Stop (∃ a, fv = .ref a ∧ wpAny M A (spliced ((false, t0) :: tr)) (fun vs s₂ => Mine.Stop (∃ o fd, s₂.heap.get? a = some o ∧ o.data = .func fd ∧ wpH M A (call (.ref a) vs) Q E s₂)) E s₁)) E s) :
    wpH M A (eval (.Call (.Name x p) args [] pos) env) Q E s := by
  rw [arm_eval_Call_Name']
  refine wpH_bindA (wpAny_mono h (fun fv s₁ h₁ => ?_) fun _ _ x => x)
  obtain ⟨a, rfl, h₁⟩ := h₁
  rw [ht]
  show wpH M A (callWith pos (.ref a) [] ((false, t0) :: tr) []) Q E s₁
  unfold callWith
  refine wpH_bind (wpH_holding (wpH_of (evalArgs_plain (wpAny_mono h₁ (fun vs s₂ h₂ => ?_) fun _ _ x => x))))
  obtain ⟨o, fd, ho, hd, h₂⟩ := h₂
  refine wpH_bind (wpH_standAt ?_)
  have hp : ((((false, t0) :: tr).any fun x => x.1) || (([] : List (Option Str × Sem Value)).any fun x => x.1.isNone)) = false := by
    show ((false || tr.any (·.1)) || false) = false
    rw [hplain]; rfl
  simp only [hp]
  refine wpH_bind (m := keeperOf (.ref a)) ?_
  unfold keeperOf
  refine wpH_bindA (wpAny_load ho ?_)
  rw [hd]
  refine wpH_pure ?_
  have tail : ∀ {t : Sem Value}, wpH M A t Q E s₂ → wpH M A (t >>= fun r => holding [r] point >>= fun _ => pure r) Q E s₂ :=
    fun ht => wpH_bind (wpH_mono ht (fun r s₃ hr => wpH_point hr) fun _ _ x => x)
  dsimp only
  split
  · exact tail h₂
  · exact tail (by unfold callMarked; exact wpH_keep h₂)
theorem wpH_Call_type {x : Str} {p pos : Pos} {args : List Expr} {T : String} {t0 : Sem Value} {tr : List (Bool × Sem Value)} {Q : Value → Shared → Prop} (ht : backTo pos (starEach args env) = (false, t0) :: tr) (hplain : tr.any (·.1) = false)
    (h : wpAny M A (eval (.Name x p) env) (fun fv s₁ => Mine.Stop (fv = .type T ∧ wpAny M A (spliced ((false, t0) :: tr)) (fun vs s₂ => Mine.Stop (wpH M A (call (.type T) vs) Q E s₂)) E s₁)) E s) :
    wpH M A (eval (.Call (.Name x p) args [] pos) env) Q E s := by
  rw [arm_eval_Call_Name']
  refine wpH_bindA (wpAny_mono h (fun fv s₁ h₁ => ?_) fun _ _ x => x)
  obtain ⟨rfl, h₁⟩ := h₁
  rw [ht]
  show wpH M A (callWith pos (.type T) [] ((false, t0) :: tr) []) Q E s₁
  unfold callWith
  refine wpH_bind (wpH_holding (wpH_of (evalArgs_plain (wpAny_mono h₁ (fun vs s₂ h₂ => ?_) fun _ _ x => x))))
  refine wpH_bind (wpH_standAt ?_)
  have hp : ((((false, t0) :: tr).any fun x => x.1) || (([] : List (Option Str × Sem Value)).any fun x => x.1.isNone)) = false := by
    show ((false || tr.any (·.1)) || false) = false
    rw [hplain]; rfl
  simp only [hp]
  refine wpH_bind (wpH_pure ?_)
  exact wpH_bind (wpH_mono h₂ (fun r s₃ hr => wpH_point hr) fun _ _ x => x)
theorem wpH_Call_def3 {x : Str} {p pos : Pos} {e₁ : Expr} {es : List Expr} {Q : Value → Shared → Prop}
    (h : wpAny M A (eval (.Name x p) env) (fun fv s₁ => Mine.Stop (∃ a, fv = .ref a ∧ wpAny M A (spliced (backTo pos (starEach (e₁ :: es) env))) (fun vs s₂ => Mine.Stop (∃ o fd, s₂.heap.get? a = some o ∧ o.data = .func fd ∧ wpH M A (call (.ref a) vs) Q E s₂)) E s₁)) E s)
    (he : starEach (e₁ :: es) env = (false, eval e₁ env) :: starEach es env := by rfl) (hplain : (backTo pos (starEach es env)).any (·.1) = false := by rfl) :
    wpH M A (eval (.Call (.Name x p) (e₁ :: es) [] pos) env) Q E s := by
  have ht : backTo pos (starEach (e₁ :: es) env) = (false, eval e₁ env) :: backTo pos (starEach es env) := by rw [he]; rfl
  rw [ht] at h
  exact wpH_Call_def ht hplain h
theorem wpH_Call_type1 {x : Str} {p pos : Pos} {e₁ : Expr} {es : List Expr} {T : String} {Q : Value → Shared → Prop}
    (h : wpAny M A (eval (.Name x p) env) (fun fv s₁ => Mine.Stop (fv = .type T ∧ wpAny M A (spliced (backTo pos (starEach (e₁ :: es) env))) (fun vs s₂ => Mine.Stop (wpH M A (call (.type T) vs) Q E s₂)) E s₁)) E s)
    (he : starEach (e₁ :: es) env = (false, eval e₁ env) :: starEach es env := by rfl) (hplain : (backTo pos (starEach es env)).any (·.1) = false := by rfl) :
    wpH M A (eval (.Call (.Name x p) (e₁ :: es) [] pos) env) Q E s := by
  have ht : backTo pos (starEach (e₁ :: es) env) = (false, eval e₁ env) :: backTo pos (starEach es env) := by rw [he]; rfl
  rw [ht] at h
  exact wpH_Call_type ht hplain h
theorem wpH_Return_tuple_raise {e₁ : Expr} {es : List Expr} {k : Nat} {pos tpos : Pos} {t0 : Sem Value} {tr : List (Bool × Sem Value)} {Q : Flow → Shared → Prop} (ht : backTo tpos (starEach (e₁ :: es) env) = (false, t0) :: tr)
    (h : wpH M A t0 (fun _ _ => False) E s) : wpH M A (exec (.Return (some (.Tuple (e₁ :: es) k tpos)) pos) env) Q E s := by
  rw [PySem.exec_Return_some]
  refine wpH_bind (wpH_standAt ?_)
  refine wpH_bind ?_
  rw [arm_eval_Tuple]
  refine wpH_bind (wpH_standAt ?_)
  rw [ht]
  refine wpH_bind ?_
  show wpH M A (do let v ← t0; _) _ _ _
  exact wpH_bind (wpH_mono h (fun _ _ x => x.elim) fun _ _ x => x)
theorem wpH_Try_raise {body orelse : List Stmt} {h₀ : ExceptHandler} {hs : List ExceptHandler} {pos : Pos} {Q : Flow → Shared → Prop}
    (h : wpH M A (execs body env) (fun _ _ => False) (fun e s₁ => wpAny M A (noteFrame e env) (fun _ s₂ => wpAny M A (setFlight e none) (fun _ s₃ => wpAny M A (handleBy e env (h₀ :: hs)) Q E s₃) E s₂) E s₁) s) :
    wpH M A (exec (.Try body (h₀ :: hs) orelse [] pos) env) Q E s := by
  rw [arm_exec_Try]
  refine wpH_bind (wpH_standAt ?_)
  unfold tryStmt
  simp only [List.isEmpty_nil, if_true, List.isEmpty_cons, Bool.false_and, Bool.false_eq_true, if_false]
  refine wpH_bind (wpH_attempt (wpH_mono h (fun f s₁ h₁ => h₁.elim) fun e s₁ h₁ => ?_))
  exact wpH_of (wpAny_bind (wpAny_mono h₁ (fun _ _ h₂ => wpAny_bind h₂) fun _ _ x => x))
theorem wpH_execs_one {st : Stmt} {Q : Flow → Shared → Prop} (h : wpH M A (exec st env) Q E s) : wpH M A (execs [st] env) Q E s := by
  refine wpH_execs_cons (wpH_mono h (fun f s' h' => ?_) fun _ _ x => x)
  cases f <;> first | exact h' | exact wpH_of (wpAny_execs_nil h')
end

section
variable {prog : Program} {w : World} {A : Around} {E : Value → Shared → Prop} {s : Shared} {R : Result → Shared → Prop} {env : Env}
theorem codeH_func {body : List Stmt}
    (h : wpH (model prog w) (A.deeper env) (execs body env) (fun f s' => R (.ok (.ret (match f with | .ret v => v | _ => .none))) s') (fun e s' => wpAny (model prog w) (A.deeper env) (leaving env e) (fun _ s'' => R (.error e) s'') (fun e' s'' => R (.error e') s'') s') s) :
    codeH (model prog w) A (.func body env) R s := by
  refine codeH_of_tree ?_
  show wpH _ (A.deeper env) (do point; match ← (execs body env).onRaise (leaving env) with | .ret v => ret v | _ => ret .none) _ _ s
  refine wpH_bindA (wpAny_point (wpH_bind (wpH_onRaise (wpH_mono h (fun f s' h' => ?_) fun _ _ h' => wpH_of h'))))
  cases f <;> exact wpH_pure h'
theorem codeH_call_function {a : Addr} {args : Args} {o : Obj} {fd : FuncData} {body : List Stmt} (hroom : A.depth < recursionLimit)
    (ho : s.heap.get? a = some o)
    (hd' : o.data = .func fd) (hco : fd.scope.isCoroutine = false) (hgen : fd.scope.isGenerator = false) (hbody : fd.body = .stmts body) (hcd : s.heap.CodeRec fd.code fd.qualname)
    (h : wpAny (model prog w) A.in1 (bindArgs fd args) (fun binds s₁ =>
      wpAny (model prog w) A.in1 (newFunctionEnv fd.scope fd.globals fd.closure binds (fd.qualname ++ ".<locals>.") (some a) fd.code none fd.builtins)
        (fun env s₂ => s₂.heap.NoLimit ∧ codeH (model prog w) A (.func body env) R s₂) (fun e s' => R (.error e) s') s₁) (fun e s' => R (.error e) s') s) :
    codeH (model prog w) A (.call (.ref a) args) R s := by
  refine codeH_of_tree ?_
  show wpH _ A.in1 (callAny (.ref a) args) _ _ s
  simp only [callAny]
  refine wpH_bindA (wpAny_load ho ?_)
  obtain ⟨c, oc, vs, tq, hc, hoc, hdc, hq⟩ := hcd
  simp only [hd', callFunction, hco, hgen, hbody, hc]
  rw [hc] at h
  refine wpH_bindA (m := field (.ref c) 1) (wpAny_field hoc hdc hq (wpH_bindA (wpAny_pure ?_)))
  exact wpH_bindA (wpAny_mono h (fun binds s₁ h₁ => wpH_bindA (wpAny_mono h₁ (fun env s₂ h₂ => wpH_bindA (wpAny_enterFrame h₂.1 hroom
    (wpH_pure (And.intro rfl h₂.2)))) fun _ _ h' => h')) fun _ _ h' => h')
theorem codeH_loop' {M : Model} {c : Code} (hq : c.quiet = true) (I : Nat → Shared → Prop)
    (turn : ∀ n s, I n s → wpH M (A.under c) (M.den c)
      (fun fin s' => match fin with
        | .done f => R (.ok f) s'
        | .again c' => (c' = c ∧ ∃ m, m < n ∧ I m s') ∨ (c'.quiet = true ∧ codeH M A c' R s')) (fun e s' => R (.error e) s') s)
    (n : Nat) (h : I n s) : codeH M A c R s := by
  induction n using Nat.strongRecOn generalizing s with
  | ind n ih =>
    refine codeH_of_tree (wpH_mono (turn n s h) (fun fin s' hf => ?_) fun _ _ h' => h')
    cases fin with
    | done f => exact hf
    | again c' =>
      rcases hf with ⟨rfl, m, hm, hI⟩ | hf
      · exact ⟨hq, ih m hm hI⟩
      · exact hf
theorem codeH_forLoop {target : Expr} {it : Value} {body : List Stmt} (I : Nat → Shared → Prop)
    (turn : ∀ n s, I n s → wpAny (model prog w) A (pyNext it) (fun r s₁ => match r with
      | none => R (.ok .next) s₁
      | some v => wpAny (model prog w) A (letOwnedTupleGo target it v) (fun _ s₁' =>
          wpAny (model prog w) A (assign target env v) (fun _ s₂ => wpH (model prog w) A (execs body env) (fun f s₃ => match f with
            | .next | .cont => ∃ m, m < n ∧ I m s₃
            | .brk => R (.ok .next) s₃
            | .ret v => R (.ok (.ret v)) s₃) (fun _ _ => False) s₂) (fun _ _ => False) s₁') (fun _ _ => False) s₁) (fun _ _ => False) s)
    (n : Nat) (h : I n s) : codeH (model prog w) A (.forLoop target it body [] env) R s := by
  refine codeH_loop' rfl I (fun n s hI => ?_) n h
  show wpH _ A ((forTurn target it body [] env).onRaise (fun x => do noteFrame x env; theTreesLotGoes x)) _ _ s
  refine wpH_onRaise (E := fun e s' => R (.error e) s') ?_
  refine wpH_mono (E := fun _ _ => False) ?_ (fun _ _ x => x) fun _ _ x => x.elim
  simp only [forTurn]
  refine wpH_bindA (wpAny_standAt (wpH_bindA (wpAny_onRaise (wpAny_mono (turn n s hI) (fun r s₁ h₁ => ?_) fun _ _ h' => h'.elim))))
  cases r with
  | none => exact wpH_pure (.inr ⟨rfl, codeH_of (codeAny_block (wpAny_execs_nil h₁))⟩)
  | some v =>
    refine wpH_bindA (wpAny_mono h₁ (fun _ s₁' h₁' => ?_) fun _ _ h' => h')
    refine wpH_bindA (wpAny_mono h₁' (fun _ s₂ h₂ => wpH_bind (wpH_mono h₂ (fun f s₃ h₃ => ?_) fun _ _ h' => h')) fun _ _ h' => h')
    cases f with
    | next => exact wpH_pure (.inl ⟨rfl, h₃⟩)
    | cont => exact wpH_pure (.inl ⟨rfl, h₃⟩)
    | brk => exact wpH_pure h₃
    | ret v => exact wpH_pure h₃
theorem wpH_For {M : Model} {target iter : Expr} {body orelse : List Stmt} {pos : Pos} {Q : Flow → Shared → Prop}
    (h : wpAny M A (eval iter env) (fun x s₁ => wpAny M A (pyIter x) (fun it s₂ =>
      codeH M A (.forLoop target it body orelse env) (fun r s' => match r with | .ok f => Q f s' | .error e => False) s₂) E s₁) E s)
    (hs : ∀ x, foldedSetIterable iter env x = pure x := by intro _; rfl) :
    wpH M A (exec (.For target iter body orelse pos) env) Q E s := by
  rw [PySem.exec_For]
  refine wpH_bind (wpH_standAt (wpH_bindA (wpAny_mono h (fun x s₁ h₁ => wpH_bind (wpH_of_eq (hs x) (wpH_pure (wpH_bind (wpH_standAt (wpH_bindA (wpAny_holding
    (wpAny_mono h₁ (fun it s₂ h₂ => ?_) fun _ _ h' => h')))))))) fun _ _ h' => h')))
  unfold runOwn
  refine wpH_onRaise (E := E) ?_
  refine wpH_mono (wpH_run (E := fun _ _ => False) (Q := Q) ?_) (fun _ _ x => x) fun _ _ x => x.elim
  show codeH M A _ _ _
  exact h₂
end
end Mine

end PartMH1

section PartMH2
open PySem PySem.W PyProof.Rows PySem.Calls
namespace Mine
section
variable {prog : Program} {w : World} {A : Around} {E : Value → Shared → Prop} {s : Shared} {Q : Value → Shared → Prop}
  {name qual : Str} {params : Arguments} {body : List Stmt} {scope : Scope} {dV kV doc pm cdv ct : Value} {an : Option Addr} {fo : Obj} {f : Addr} {args : List Value} {binds : List (Str × Value)}
theorem callFH (m : Str → Option Value) (hroom : A.depth < recursionLimit) (ho : s.heap.get? f = some fo) (hd : fo.data = .func (fnX name qual params body scope [] dV kV doc pm an cdv ct)) (hlim : s.heap.NoLimit) (hcd : s.heap.CodeRec cdv qual)
    (hbind : BindsTo s (fnX name qual params body scope [] dV kV doc pm an cdv ct) ⟨args, []⟩ binds)
    (hkind : (binds.all fun y => scope.names.lookup y.1 == some .local || scope.names.lookup y.1 == some .cell) = true)
    (hco : scope.isCoroutine = false) (hgen : scope.isGenerator = false) (hk : scope.kind = .function)
    (hcl : ∀ L, cellsFrom (L + 1) scope.names [] = []) (hm : ∀ L, bindL (envOfC qual scope L f cdv).kindOf binds (fun _ => none) = m)
    (h : ∀ L h₁ tk, Fr s.heap L h₁ m → News s.heap L h₁ [] →
      wpH (model prog w) (A.deeper (envX qual scope L f cdv [])) (execs body (envX qual scope L f cdv []))
        (fun fl s' => Q (match fl with | .ret v => v | _ => .none) s') (fun _ _ => False) { s with heap := h₁, toks := tk }) :
    wpH (model prog w) A (call (.ref f) args) Q E s := by
  refine wpH_call (codeH_call_function hroom ho hd hco hgen rfl hcd (hbind _ _ _ _ ?_))
  refine wpAny_newFunctionEnv_cells hk (kindsX hkind _) fun env' he s' x => ?_
  subst he
  refine ⟨hlim.keeps x.toInCall.keep, codeH_func ?_⟩
  obtain ⟨h₁, tk, rfl, _⟩ := x.done
  have hk₁ := x.toInCall.keep
  have e : envOfC qual scope s.heap.objs.size f cdv = envX qual scope s.heap.objs.size f cdv [] := by
    show envX qual scope s.heap.objs.size f cdv (cellsFrom (s.heap.objs.size + 1) scope.names []) = _
    rw [hcl]
  have F : Fr s.heap s.heap.objs.size h₁ (bindL (envOfC qual scope s.heap.objs.size f cdv).kindOf binds fun _ => none) := ⟨x.toInCall.ns, hk₁, Nat.le_refl _⟩
  rw [hm] at F
  have hb := h s.heap.objs.size h₁ tk F News.nil
  rw [← e] at hb
  exact wpH_mono hb (fun _ _ x => x) fun _ _ x => x.elim
end

section
variable {prog : Program} {w : World} {A : Around} {s : Shared} {env : Env}
/-- the end of a turn; the base may have changed -/
def TurnEndB (L : Addr) (wr : List Addr) (own : List (Addr × Obj)) (Jn Jb : Heap → (Str → Option Value) → List (Addr × Obj) → Prop) (s₁ : Shared) (f : Flow) (s₂ : Shared) : Prop :=
  match f with
  | .next | .cont => ∃ g h' tk m₂ news₂, s₂ = { s₁ with heap := h', toks := tk } ∧ Fr g L h' m₂ ∧ News g L h' (own ++ news₂) ∧ (∀ p ∈ news₂, p.1 ∉ wr) ∧ Jn g m₂ news₂
  | .brk => ∃ g h' tk m₂ news₂, s₂ = { s₁ with heap := h', toks := tk } ∧ Fr g L h' m₂ ∧ News g L h' news₂ ∧ Jb g m₂ news₂
  | .ret _ => False

theorem codeH_forLoop_all {h₀ : Heap} {R : Result → Shared → Prop} {target : Expr} {body : List Stmt} {I : Addr} {fp wr : List Addr} {n : Nat} {P : Nat → Value → Prop} {St : Nat → Heap → Prop} {m : Str → Option Value}
    {news : List (Addr × Obj)} (W : Walks prog w A I fp wr n P St)
    (hLf : env.locals ∉ fp) (hfp : ∀ b ∈ fp, h₀.get? b = none) (hnw : ∀ p ∈ news, p.1 ∉ wr)
    (hst : St 0 s.heap) (hst' : ∀ i h, St i h → ∀ b ∈ fp, ∃ o, h.get? b = some o) (F : Fr h₀ env.locals s.heap m) (N : News h₀ env.locals s.heap news)
    (hgo : ∀ i (s' : Shared) v (Q' : Unit → Shared → Prop), St i s'.heap → Q' () s' → wpAny (model prog w) A (letOwnedTupleGo target (.ref I) v) Q' (fun _ _ => False) s')
    (J : Nat → Heap → (Str → Option Value) → List (Addr × Obj) → Prop) (Jb : Heap → (Str → Option Value) → List (Addr × Obj) → Prop) (h0 : J 0 h₀ m news)
    (step : ∀ g i v m₁ news₁ s₁ own, i < n → P i v → J i g m₁ news₁ → (∀ b ∈ fp, g.get? b = none) → (∀ p ∈ news₁, p.1 ∉ wr) → (∀ p ∈ own, p.1 ∈ fp) → (∀ p ∈ own, s₁.heap.get? p.1 = some p.2) → (∀ b ∈ fp, g.get? b = none → ∀ o, s₁.heap.get? b = some o → (b, o) ∈ own) → St (i + 1) s₁.heap →
      Fr g env.locals s₁.heap m₁ → News g env.locals s₁.heap (own ++ news₁) →
      wpAny (model prog w) A (assign target env v) (fun _ s₂ => wpH (model prog w) A (execs body env) (TurnEndB env.locals wr own (J (i + 1)) Jb s₁) (fun _ _ => False) s₂) (fun _ _ => False) s₁)
    (hR : ∀ g h' tk m' news', Fr g env.locals h' m' → News g env.locals h' news' → J n g m' news' ∨ Jb g m' news' → R (.ok .next) { s with heap := h', toks := tk }) :
    codeH (model prog w) A (.forLoop target (.ref I) body [] env) R s := by
  have hLw : env.locals ∉ wr := fun h => hLf (W.sub _ h)
  refine codeH_forLoop
    (fun k s' => ∃ g h' tk m' news' i, s' = { s with heap := h', toks := tk } ∧ St i h' ∧ Fr g env.locals h' m' ∧ News g env.locals h' news' ∧ (∀ b ∈ fp, g.get? b = none) ∧ (∀ p ∈ news', p.1 ∉ wr) ∧ J i g m' news' ∧ i ≤ n ∧ k = n + 1 - i) ?_ (n + 1)
    ⟨h₀, s.heap, s.toks, m, news, 0, rfl, hst, F, N, hfp, hnw, h0, Nat.zero_le _, rfl⟩
  rintro k s' ⟨g, h', tk, m', news', i, rfl, hs', F', N', hfp', hnw', hJ, hi, rfl⟩
  have old : ∀ b o, g.get? b = some o → b ∉ wr := fun b o e hb => by rw [hfp' b (W.sub _ hb)] at e; cases e
  have next : ∀ h₁ : Heap, (∀ b o, b ∉ wr → h'.get? b = some o → h₁.get? b = some o) → Fr g env.locals h₁ m' ∧ News g env.locals h₁ news' := fun h₁ hk₁ =>
    ⟨⟨F'.ns.at' fun o e => hk₁ _ o hLw e, fun b o e => hk₁ b o (old b o e) (F'.keep b o e), F'.above⟩, fun p hp => ⟨hk₁ _ _ (hnw' p hp) (N' p hp).1, (N' p hp).2⟩⟩
  by_cases hlt : i < n
  · refine W.item i _ _ _ hlt hs' fun v h₁ tk₁ hP hst₁ hk₁ => ?_
    obtain ⟨F₁, N₁⟩ := next h₁ hk₁
    have Nown : News g env.locals h₁ (ownOf g fp h₁) := news_ownOf hLf
    refine hgo (i + 1) _ v _ hst₁ ?_
    refine wpAny_mono (step g i v m' news' { s with heap := h₁, toks := tk₁ } (ownOf g fp h₁) hlt hP hJ hfp' hnw' ownOf_sub (fun p hp => (Nown p hp).1) (fun b hb hn o e => mem_ownOf hb hn e) hst₁ F₁ (Nown.append N₁))
      (fun _ s₂ h₂ => wpH_mono h₂ (fun f s₃ h₃ => ?_) fun _ _ e => e) fun _ _ e => e
    have fin : (∃ g₂ h' tk m₂ news₂, s₃ = { s with heap := h', toks := tk } ∧ Fr g₂ env.locals h' m₂ ∧ News g₂ env.locals h' (ownOf g fp h₁ ++ news₂) ∧ (∀ p ∈ news₂, p.1 ∉ wr) ∧ J (i + 1) g₂ m₂ news₂) →
        ∃ m, m < n + 1 - i ∧ ∃ g h' tk m' news' i, s₃ = { s with heap := h', toks := tk } ∧ St i h' ∧ Fr g env.locals h' m' ∧ News g env.locals h' news' ∧ (∀ b ∈ fp, g.get? b = none) ∧ (∀ p ∈ news', p.1 ∉ wr) ∧ J i g m' news' ∧ i ≤ n ∧ m = n + 1 - i := by
      rintro ⟨g₂, h₃', tk₃, m₂, news₂, rfl, F₃, N₃, ha₃, hJ₃⟩
      refine ⟨n + 1 - (i + 1), by omega, g₂, h₃', tk₃, m₂, news₂, i + 1, rfl, ?_, F₃, N₃.right, fun b hb => ?_, ha₃, hJ₃, hlt, rfl⟩
      · refine W.frame _ _ _ hst₁ fun b hb o e => ?_
        exact (N₃ _ (List.mem_append_left _ (mem_ownOf hb (hfp' b hb) e))).1
      · obtain ⟨o, e⟩ := hst' _ _ hst₁ b hb
        exact (N₃ _ (List.mem_append_left _ (mem_ownOf hb (hfp' b hb) e))).2.2
    cases f with
    | next => exact fin h₃
    | cont => exact fin h₃
    | brk =>
      obtain ⟨g₂, h₃', tk₃, m₂, news₂, rfl, F₃, N₃, hJ₃⟩ := h₃
      exact hR g₂ h₃' tk₃ m₂ news₂ F₃ N₃ (.inr hJ₃)
    | ret v => exact h₃.elim
  · have hin : i = n := by omega
    subst hin
    refine W.done _ _ _ hs' fun h₁ tk₁ hk₁ => ?_
    obtain ⟨F₁, N₁⟩ := next h₁ hk₁
    exact hR g h₁ tk₁ m' news' F₁ N₁ (.inl hJ)

theorem for_listH {E : Value → Shared → Prop} (h₀ : Heap) {target iter : Expr} {body : List Stmt} {pos : Pos} {Q : Flow → Shared → Prop} (hh : A.handled = none)
    (h : wpAny (model prog w) A (eval iter env) (fun xv s₁ => Mine.Stop (∃ a vs m news, ∃ (J : Nat → Heap → (Str → Option Value) → List (Addr × Obj) → Prop) (Jb : Heap → (Str → Option Value) → List (Addr × Obj) → Prop), xv = .ref a ∧ s₁.heap.IsList a (List.toArray vs) ∧ a ≠ env.locals ∧ h₀.get? a = none ∧
      Fr h₀ env.locals s₁.heap m ∧ News h₀ env.locals s₁.heap news ∧ J 0 h₀ m news ∧
      (∀ g i v m₁ news₁ s₂ own, vs[i]? = some v → J i g m₁ news₁ → (∀ p ∈ news₁, p.1 ≠ s₁.heap.objs.size) → (∀ p ∈ own, p.1 = s₁.heap.objs.size ∨ p.1 = a) → Fr g env.locals s₂.heap m₁ → News g env.locals s₂.heap (own ++ news₁) → (∃ o, (s₁.heap.objs.size, o) ∈ own ∧ o.cls = .type "list_iterator") →
        wpAny (model prog w) A (assign target env v) (fun _ s₃ => Mine.Stop (wpH (model prog w) A (execs body env) (TurnEndB env.locals [s₁.heap.objs.size] own (J (i + 1)) Jb s₂) (fun _ _ => False) s₃)) (fun _ _ => False) s₂) ∧
      ∀ g h' tk m' news', Fr g env.locals h' m' → News g env.locals h' news' → J vs.length g m' news' ∨ Jb g m' news' → Q .next { s₁ with heap := h', toks := tk })) E s)
    (hs : ∀ x, foldedSetIterable iter env x = pure x := by intro _; rfl) :
    wpH (model prog w) A (exec (.For target iter body [] pos) env) Q E s := by
  refine wpH_For (wpAny_mono h (fun xv s₁ h₁ => ?_) fun _ _ e => e) hs
  obtain ⟨a, vs, m, news, J, Jb, rfl, hv, haL, han, F, N, h0, hstep, hQ⟩ := h₁
  refine wpAny_pyIter_list hv ?_
  have hlt : a < s₁.heap.objs.size := by obtain ⟨o, ho, _⟩ := hv; exact Heap.lt_size ho
  have hL : env.locals < s₁.heap.objs.size := F.ns.lt
  have keep : ∀ (it : Obj) b o, s₁.heap.get? b = some o → (s₁.heap.push it).get? b = some o := fun it b o e => Heap.get?_push_of_some _ e
  have hnone : h₀.get? s₁.heap.objs.size = none := by
    cases e : h₀.get? s₁.heap.objs.size with
    | none => rfl
    | some o => exact absurd (Heap.lt_size (F.keep _ _ e)) (Nat.lt_irrefl _)
  refine codeH_forLoop_all (h₀ := h₀) (m := m) (news := news) (Walks.list hh s₁.heap.objs.size a (Nat.ne_of_lt hlt) (List.toArray vs)) ?_ ?_ ?_ ⟨⟨_, Heap.get?_push_size _ rfl, rfl, rfl⟩, isList_keeps hv (keep _)⟩ ?_ (F.push _) (N.grown (keep _)) ?_ J Jb h0 ?_ ?_
  · intro hm
    rcases List.mem_cons.mp hm with e | hm
    · exact absurd e (Nat.ne_of_lt hL)
    · exact haL (List.mem_singleton.mp hm).symm
  · intro b hb
    rcases List.mem_cons.mp hb with e | hb
    · rw [e]; exact hnone
    · rw [List.mem_singleton.mp hb]; exact han
  · intro p hp hm
    have := Heap.lt_size (N p hp).1
    rw [List.mem_singleton.mp hm] at this
    exact absurd this (Nat.lt_irrefl _)
  · rintro i h ⟨⟨o, e, _⟩, ⟨o2, e2, _⟩⟩ b hb
    rcases List.mem_cons.mp hb with q | hb
    · rw [q]; exact ⟨o, e⟩
    · rw [List.mem_singleton.mp hb]; exact ⟨o2, e2⟩
  · intro i s' v Q' hst hq
    exact letGo_listiter hst.1 hq
  · intro g i v m₁ news₁ s₂ own hi hv' hJ hfp hnw hown hown2 hown3 hst F₂ N₂
    have hi' : vs[i]? = some v := by simpa using hv'
    refine wpAny_mono (hstep g i v m₁ news₁ s₂ own hi' hJ (fun p hp e => hnw p hp (by rw [e]; exact List.mem_singleton.mpr rfl)) (fun p hp => ?_) F₂ N₂ ?_) (fun _ s₃ h₃ => h₃) fun _ _ e => e.elim
    · rcases List.mem_cons.mp (hown p hp) with e | hm
      · exact .inl e
      · exact .inr (List.mem_singleton.mp hm)
    · obtain ⟨o, ho, hc, _⟩ := hst.1
      exact ⟨o, hown3 _ (.head _) (hfp _ (.head _)) o ho, hc⟩
  · intro g h' tk m' news' F' N' hJ
    exact hQ g h' tk m' news' F' N' (by simpa using hJ)
end
end Mine

end PartMH2

section PartMH3
open PySem PySem.W PyProof.Rows PySem.Calls
namespace Mine
section
variable {prog : Program} {w : World} {A : Around} {E : Value → Shared → Prop} {s : Shared} {R : Result → Shared → Prop} {env : Env}
theorem codeH_builtin {id : String} {args : Args} {b : Builtin} (hb : entryFor table id = some b)
    (h : wpH (model prog w) (A.under (.builtin id args)) (b args)
      (fun fin s' => match fin with | .done f => R (.ok f) s' | .again c' => c'.quiet = true ∧ codeH (model prog w) A c' R s') (fun e s' => R (.error e) s') s) :
    codeH (model prog w) A (.builtin id args) R s := by
  refine codeH_of_tree ?_
  show wpH _ _ (match entryFor table id with | some b => b args | none => unsupported ((withoutEnding? id "#data").getD id)) _ _ s
  rw [hb]; exact h
theorem codeH_call_builtin {id : String} {args : Args} {b : Builtin} (hq : plainId id = true) (hb : entryFor table id = some b) (hc : checkBuiltinCall id args = pure ())
    (h : wpH (model prog w) A.in1 (b args)
      (fun fin s' => match fin with | .done f => R (.ok f) s' | .again c' => c'.quiet = true ∧ codeH (model prog w) A c' R s') (fun e s' => R (.error e) s') s) : codeH (model prog w) A (.call (.builtin id) args) R s := by
  refine codeH_of_tree ?_
  show wpH _ A.in1 (do checkBuiltinCall id args; again (.builtin id args)) _ _ s
  rw [hc]
  refine wpH_bind (wpH_pure (wpH_pure (And.intro (plainId_quiet hq args) (codeH_builtin hb ?_))))
  rw [Around.under_plainId hq args]; exact h

theorem call_type_bad {T newId : String} {Bn : Builtin} {args : List Value} {Q : Value → Shared → Prop} (ft : TypeCalled T newId "object.__init__")
    (hct : checkTypeCall T ⟨args, []⟩ = pure ()) (hcn : checkBuiltinCall newId ⟨.type T :: args, []⟩ = pure ()) (entryN : entryFor table newId = some Bn)
    (h : wpH (model prog w) A.in1.in1 (Bn ⟨.type T :: args, []⟩) (fun _ _ => False) E s) : wpH (model prog w) A (call (.type T) args) Q E s := by
  obtain ⟨c, tl, hmro⟩ := ft.mro
  have hmade := ft.made
  refine wpH_call (codeH_of_tree ?_)
  show wpH _ _ (callAny (.type T) _) _ _ _
  refine wpH_pure ⟨Code.quiet_builtin _ (by decide +kernel), codeH_builtin F.entry_type_call ?_⟩
  rw [Around.under_plain (weight_type_call_type T args []) (units_type_call_type T args [])]
  have h1 := ft.notType
  have h2 := ft.canCreate
  unfold Builtin.«type.__call__»
  dsimp only
  simp only [h1, h2, hct, hmro, hmade]
  rw [if_neg (by decide), if_neg (by decide)]
  refine wpH_bind (wpH_pure ?_)
  refine wpH_bind (wpH_pure ?_)
  rw [if_neg (by simp)]
  refine wpH_bind (wpH_pure ?_)
  dsimp only
  refine wpH_bind (wpH_pure ?_)
  refine wpH_bind (wpH_holding (wpH_call ?_))
  refine codeH_call_builtin ft.plain entryN hcn ?_
  exact wpH_mono h (fun _ _ x => x.elim) fun _ _ x => x

theorem wpH_false {α : Type} {M : Model} {c : Prop} [Decidable c] {a b : Sem α} {Q : α → Shared → Prop} (hc : ¬ c) (h : wpH M A b Q E s) : wpH M A (if c then a else b) Q E s := by rw [if_neg hc]; exact h
theorem wpH_true {α : Type} {M : Model} {c : Prop} [Decidable c] {a b : Sem α} {Q : α → Shared → Prop} (hc : c) (h : wpH M A a Q E s) : wpH M A (if c then a else b) Q E s := by rw [if_pos hc]; exact h
def ThrowsV (E : Value → Shared → Prop) (s : Shared) : Prop := ∀ h' tk e, Heap.NewExc s.heap h' e "ValueError" → E (.ref e) { s with heap := h', toks := tk }
theorem mark_none {M : Model} {own : List String} {e : Value} {Q : Unit → Shared → Prop} (h : Q () s) : wpH M A (markTheRefusal own e) Q E s := by
  unfold markTheRefusal
  refine wpH_bind (wpH_stack fun st hst => ?_)
  have hp : pythonCodeMadeTheCall own (st.map (·.1)) = false := by
    have h1 : (st.map (·.1)).any Code.isCaller = true := by
      rw [List.any_map]; exact hst
    have h2 : (fun c : Code => match c with | .builtin "claim.caller" _ => true | _ => false) = Code.isCaller := by
      funext c; rfl
    show ((!((st.map (·.1)).any Code.isCaller) && _) && _) = false
    rw [h1]
    rfl
  rw [hp]
  exact wpH_false (by decide) (wpH_pure h)
theorem int_text_bad {v : Value} {l : List Nat} {Q : Value → Shared → Prop} (hh : A.handled = none) (hl : l = [] ∨ l = [45]) (hv : ∃ x u, v = .str x u ∧ (reprText x).length ≤ 100)
    (hE : ThrowsV E s) : wpH (model prog w) A ((int_private% "intFromText") v l 10) Q E s := by
  obtain ⟨x, u, rfl, hx⟩ := hv
  have hr : (int_private% "readNumeral") 0 10 (l.takeWhile (· != 0)) = (int_private% "Numeral.invalid") := by rcases hl with rfl | rfl <;> rfl
  have hs : (l.takeWhile (· != 0)).length ≤ 640 := by rcases hl with rfl | rfl <;> decide
  refine wpH_true hs (wpH_bind (wpH_pure ?_))
  dsimp only
  rw [hr]
  dsimp only
  refine wpH_bindA ?_
  repeat wp_step
  refine wpH_false (by simp) ?_
  refine wpH_bindA (wpAny_rule ?_)
  refine wpH_bindA ?_
  repeat wp_step
  dsimp only
  refine wpH_bindA (wpAny_pyRepr_str ?_ (by have : 100 ≤ sizeLine := by decide
                                            omega))
  refine wpH_bindA (wpAny_mkStr ?_ ?_)
  rotate_left
  · show ((Str.ofString _ ++ (⟨(reprText x).cps.extract 0 200⟩ : Str) : Str)).cps.size ≤ sizeLine
    have h1 : ((Str.ofString (toString "invalid literal for int() with base " ++ toString 10 ++ toString ": ") ++ (⟨(reprText x).cps.extract 0 200⟩ : Str) : Str)).cps = (Str.ofString (toString "invalid literal for int() with base " ++ toString 10 ++ toString ": ")).cps ++ (reprText x).cps.extract 0 200 := rfl
    rw [h1, Array.size_append, Array.size_extract]
    have h2 : (Str.ofString (toString "invalid literal for int() with base " ++ toString 10 ++ toString ": ")).cps.size = 40 := by decide +kernel
    rw [h2]
    have h3 : 1000 ≤ sizeLine := by decide
    omega
  refine wpH_bindA (wpAny_newExc_plain plainExc_ValueError fun h' e hx => ?_)
  refine wpH_bind (mark_none ?_)
  refine wpH_of (wpAny_raiseNew_none hh ?_)
  obtain ⟨hp, g, d, tk, os⟩ := s
  exact hE h' _ e hx.newExc
theorem int_new_bad {x : PySem.Str} {u : Tok} {Q : Fin → Shared → Prop} (hh : A.handled = none) (hb : x.cps = #[] ∨ x.cps = #[45])
    (hE : ThrowsV E s) (hl : (reprText x).length ≤ 100) : wpH (model prog w) A (Builtin.«int.__new__» ⟨[.type "int", .str x u], []⟩) Q E s := by
  have f1 := F.conv_sub_int
  have f2 := F.madeHere_int
  have f3 := KIN.str_int
  have f4 := KIN.str_idx
  have f5 := KIN.str_trunc
  have f6 : typeOf (.str x u) = pure (.type "str") := rfl
  unfold Builtin.«int.__new__»
  dsimp only
  simp only [f1, f2]
  refine wpH_bindA ?_
  repeat wp_step
  refine wpH_false (by decide) ?_
  refine wpH_bind (wpH_pure ?_)
  refine wpH_false (by decide) ?_
  refine wpH_bind (wpH_pure ?_)
  refine wpH_false (by simp) ?_
  refine wpH_false (by simp) ?_
  refine wpH_bind (wpH_pure ?_)
  dsimp only [List.head?]
  refine wpH_bind ?_
  refine wpH_bindA ?_
  repeat wp_step
  dsimp only
  refine wpH_bindA ?_
  repeat wp_step
  refine wpH_false (by simp) ?_
  refine wpH_bindA ?_
  repeat wp_step
  dsimp only
  refine wpH_bindA ?_
  repeat wp_step
  have ht : (if (x.cps.all fun x => decide (x < 128)) = true then x.cps.toList else Unicode.numberText x.cps.toList) = x.cps.toList := by rcases hb with e | e <;> (rw [e]; simp)
  rw [ht]
  dsimp only
  refine int_text_bad hh ?_ ⟨_, _, rfl, hl⟩ hE
  rcases hb with e | e <;> rw [e]
  · exact .inl rfl
  · exact .inr rfl
theorem call_int_bad {x : PySem.Str} {u : Tok} {Q : Value → Shared → Prop} (hh : A.handled = none) (hb : x.cps = #[] ∨ x.cps = #[45]) (hE : ThrowsV E s) : wpH (model prog w) A (call (.type "int") [.str x u]) Q E s := by
  have hl : (reprText x).length ≤ 100 := by
    obtain ⟨c⟩ := x
    rcases hb with e | e <;> (dsimp only at e; subst e; decide +kernel)
  exact call_type_bad F.called_int (F.typeCall_int_1 _) (F.newCall_int_1 _) F.entry_int_new (int_new_bad (A := A.in1.in1) hh hb hE hl)
end
end Mine

end PartMH3

section PartMShr0
open PySem PySem.W PyProof.Rows PySem.Calls
local macro_rules | `(tactic| walk_at "eval ListComp") => `(tactic| refine Mine.stop_ ?_)
local macro_rules | `(tactic| walk_at "call builtin:len") => `(tactic| ((with_reducible show wpAny _ _ (call (Value.builtin "len") [Value.str _ _]) _ _ _); refine len_str (by assumption) ?_))
local macro_rules | `(tactic| walk_at "subscriptTail") => `(tactic| ((with_reducible show wpAny _ _ (subscriptTail _ _ (Value.ref _) (Value.str _ _)) _ _ _); refine Mine.item_dict (by assumption) (by assumption) ?_ (by with_unfolding_all rfl) (by intro _; with_unfolding_all rfl)))
local macro_rules | `(tactic| walk_at "call ref") => `(tactic| refine Mine.stop_ ?_)
local macro_rules | `(tactic| walk_at "eval Name") => `(tactic| ((with_reducible show wpAny _ _ (eval (Expr.Name _ _) (compEnvC _ _ _ _)) _ _ _); first
  | (refine Mine.cname_L (by assumption) (by assumption) ?_ (by rfl) (by rfl) (by decide))
  | (refine Mine.cname_C (by rfl) (by assumption) ?_ (by rfl) (by rfl) (by decide))
  | (refine Mine.cname_K (by assumption) (by rfl) ?_ (by rfl) (by rfl) (by rfl) (by decide))
  | (refine Mine.cname_B (by assumption) (by rfl) (by boot_by_name) (by decide) ?_ (by rfl) (by rfl) (by rfl) (by rfl) (by decide))))
namespace Mine
variable {w : World} {p : Program} {loose : List Str} {mean : ExcName → Option Value} {mg mb : Str → Option Value}


/-- the frames of the stack: the addresses of their names -/
structure Frs (A : Around) (fr : List Addr) (h : Heap) : Prop where
  envs : ∃ l, A.frames = some l ∧ l.map (·.frame) = fr.map some ∧ ∀ e ∈ l, e.scope.kind ≠ .module
  ns : ∀ b ∈ fr, ∃ m, h.Ns b m
/-- all is kept but the table and what the frames' objects tell beside their names -/
structure Kept (fr : List Addr) (h h' : Heap) : Prop where
  up : ∀ b o, b ≠ 44 → b ∉ fr → h.get? b = some o → h'.get? b = some o
  fr : ∀ b ∈ fr, ∀ o, h.get? b = some o → ∃ o', h'.get? b = some o' ∧ o'.data = o.data
/-- a base of a walk: the heap at the entry without the table, and with the frames' objects as they are now -/
structure Bas (fr : List Addr) (h g : Heap) : Prop where
  sz : g.objs.size = h.objs.size
  up : ∀ b o, b ≠ 44 → b ∉ fr → h.get? b = some o → g.get? b = some o
  fr : ∀ b ∈ fr, ∀ o, h.get? b = some o → ∃ o', g.get? b = some o' ∧ o'.data = o.data
  dn : ∀ b o, g.get? b = some o → ∃ o', h.get? b = some o'
  no : g.get? 44 = none
theorem bas_of (fr : List Addr) (h44 : 44 ∉ fr) (h : Heap) : Bas fr h (hideAll h [44]) :=
  ⟨hideAll_size _ _, fun b o hb _ x => hideAll_get _ x (fun hm => hb (List.mem_singleton.mp hm)),
   fun b hb o x => ⟨o, hideAll_get _ x (fun hm => h44 (List.mem_singleton.mp hm ▸ hb)), rfl⟩, fun b o x => ⟨o, of_hideAll _ x⟩, hideAll_none _ (.head _)⟩
theorem Bas.fr' {fr : List Addr} {g h h₁ : Heap} {L : Addr} {m : Str → Option Value} (x : Bas fr h g) (hk : ∀ b o, g.get? b = some o → h.get? b = some o) (F : Fr h L h₁ m) : Fr g L h₁ m := ⟨F.ns, fun b o e => F.keep b o (hk b o e), by rw [x.sz]; exact F.above⟩
theorem Bas.news {fr : List Addr} {g h h₁ : Heap} {ps : Array Value} {L : Addr} {m : Str → Option Value} (x : Bas fr h g) (h44 : h.get? 44 = some (tabObj ps)) (F : Fr h L h₁ m) : News g L h₁ [(44, tabObj ps)] := by
  intro p hp
  rw [List.mem_singleton.mp hp]
  refine ⟨F.keep _ _ h44, ?_, x.no⟩
  have h1 := Heap.lt_size h44
  have h2 := F.above
  exact fun (e : 44 = L) => absurd h1 (Nat.not_lt.mpr (by rw [e]; exact h2))
theorem Bas.sub {fr : List Addr} {g h h₀ : Heap} (x : Bas fr h g) (k : ∀ b o, h₀.get? b = some o → h.get? b = some o) (hn : h₀.get? 44 = none) (hf : ∀ b ∈ fr, h₀.get? b = none) : ∀ b o, h₀.get? b = some o → g.get? b = some o :=
  fun b o e => x.up b o (fun q => by rw [q, hn] at e; cases e) (fun q => by rw [hf b q] at e; cases e) (k b o e)
theorem Bas.ok {fr : List Addr} {g h : Heap} {ps : Array Value} (x : Bas fr h g) (h44 : h.get? 44 = some (tabObj ps)) (hns : ∀ b ∈ fr, ∃ m, h.Ns b m) (t : TabOk h ps) : TabOk g ps := by
  refine ⟨t.1, fun pos cv e => ?_⟩
  obtain ⟨c, oc, vs, tk, e1, e2, e3, e4⟩ := t.2 pos cv e
  by_cases hc : c ∈ fr
  · obtain ⟨m, o, es, ep, h1, h2, _⟩ := hns c hc
    rw [e2] at h1; cases h1
    rw [e3] at h2; cases h2
  · refine ⟨c, oc, vs, tk, e1, x.up _ _ ?_ hc e2, e3, e4⟩
    rintro rfl
    rw [h44] at e2; cases e2
    cases e3
    rw [← Array.getElem?_toList] at e4
    match ps.toList, t.1, e4 with
    | [], _, e4 => cases e4
    | [_], _, e4 => cases e4
    | .int _ _ :: .int _ _ :: _ :: _, _, e4 => cases e4
theorem Bas.kept {fr : List Addr} {g h h' : Heap} {L : Addr} {m : Str → Option Value} (x : Bas fr h g) (F : Fr g L h' m) : Kept fr h h' :=
  ⟨fun b o hb hf e => F.keep _ _ (x.up b o hb hf e), fun b hb o e => let ⟨o', e', hd⟩ := x.fr b hb o e; ⟨o', F.keep _ _ e', hd⟩⟩
theorem rebase : ∀ (fr : List Addr) (g h : Heap), (∀ b ∈ fr, ∀ o, g.get? b = some o → ∃ o', h.get? b = some o' ∧ o'.isFreed = false) →
    ∃ g₂ : Heap, g₂.objs.size = g.objs.size ∧ (∀ b, b ∉ fr → g₂.get? b = g.get? b) ∧ (∀ b ∈ fr, ∀ o, g.get? b = some o → g₂.get? b = h.get? b) ∧ (∀ b, g.get? b = none → g₂.get? b = none)
  | [], g, h, _ => ⟨g, rfl, fun _ _ => rfl, nofun, fun _ e => e⟩
  | a :: r, g, h, H => by
    obtain ⟨g₂, h1, h2, h3, h4⟩ := rebase r g h fun b hb => H b (.tail _ hb)
    cases e : g.get? a with
    | none =>
      refine ⟨g₂, h1, fun b hb => h2 b fun q => hb (.tail _ q), fun b hb o eo => ?_, h4⟩
      rcases List.mem_cons.mp hb with rfl | hb
      · rw [e] at eo; cases eo
      · exact h3 b hb o eo
    | some o =>
      obtain ⟨o', eo', hfz⟩ := H a (.head _) o e
      have hga : ∃ o2, g₂.get? a = some o2 := by
        by_cases hm : a ∈ r
        · rw [h3 a hm o e]; exact ⟨o', eo'⟩
        · rw [h2 a hm]; exact ⟨o, e⟩
      obtain ⟨o2, e2⟩ := hga
      refine ⟨g₂.update a fun _ => o', by rw [Heap.size_after_update]; exact h1, fun b hb => ?_, fun b hb ob eb => ?_, fun b hb => ?_⟩
      · rw [Heap.get?_update_other _ _ (fun q => hb (by rw [← q]; exact .head _))]
        exact h2 b fun q => hb (.tail _ q)
      · by_cases hba : b = a
        · subst hba
          rw [Heap.get?_update_self _ e2 hfz, eo']
        · rw [Heap.get?_update_other _ _ (Ne.symm hba)]
          rcases List.mem_cons.mp hb with q | hb
          · exact absurd q hba
          · exact h3 b hb ob eb
      · have hba : b ≠ a := fun q => by rw [q, e] at hb; cases hb
        rw [Heap.get?_update_other _ _ (Ne.symm hba)]
        exact h4 b hb
/-- the base after a call that may have changed the table and made the frames ready -/
theorem Bas.step {fr : List Addr} {h g h4 h5 : Heap} {L : Addr} {m : Str → Option Value} {o4 : Obj} {news : List (Addr × Obj)} (B : Bas fr h g) (hns : ∀ b ∈ fr, ∃ m, h.Ns b m) (F : Fr g L h4 m) (N : News g L h4 ((44, o4) :: news)) (K : Kept (L :: fr) h4 h5) :
    ∃ g₂, Bas fr h g₂ ∧ Fr g₂ L h5 m ∧ (∀ b, g.get? b = none → g₂.get? b = none) ∧ ∀ b o, b ∉ fr → g.get? b = some o → g₂.get? b = some o := by
  have ns : ∀ b ∈ fr, ∃ o o4 es ep, g.get? b = some o ∧ o.data = .dict es ep ∧ h5.get? b = some o4 ∧ o4.data = .dict es ep := fun b hb => by
    obtain ⟨_, o, es, ep, e, hd, _⟩ := hns b hb
    obtain ⟨o', e', hd'⟩ := B.fr b hb o e
    obtain ⟨o5, e5, hd5⟩ := K.fr b (.tail _ hb) o' (F.keep _ _ e')
    exact ⟨o', o5, es, ep, e', hd'.trans hd, e5, hd5.trans (hd'.trans hd)⟩
  obtain ⟨g₂, h1, h2, h3, h4'⟩ := rebase fr g h5 fun b hb o _ => by
    obtain ⟨_, o4, es, ep, _, _, e, hd⟩ := ns b hb
    exact ⟨o4, e, by obtain ⟨c, d, dt, sl⟩ := o4; cases hd; rfl⟩
  have hL : ∀ b, g.get? b ≠ none → b ≠ L := fun b hb q => by
    have := F.above
    cases e : g.get? b with
    | none => exact hb e
    | some o => exact absurd (Heap.lt_size e) (Nat.not_lt.mpr (by rw [q]; exact this))
  refine ⟨g₂, ⟨h1.trans B.sz, fun b o hb hf e => (h2 b hf).trans (B.up b o hb hf e), fun b hb o e => ?_, fun b o e => ?_, h4' _ B.no⟩, ⟨?_, fun b o e => ?_, by rw [h1]; exact F.above⟩, h4', fun b o hf e => (h2 b hf).trans e⟩
  · obtain ⟨o', e', hd'⟩ := B.fr b hb o e
    obtain ⟨o5, e5, hd5⟩ := K.fr b (.tail _ hb) o' (F.keep _ _ e')
    exact ⟨o5, (h3 b hb o' e').trans e5, hd5.trans hd'⟩
  · cases q : g.get? b with
    | none => rw [h4' b q] at e; cases e
    | some o => exact B.dn b o q
  · obtain ⟨o, es, ep, e, hd, hk, hf⟩ := F.ns
    obtain ⟨o', e', hd'⟩ := K.fr L (.head _) o e
    exact ⟨o', es, ep, e', hd'.trans hd, hk, hf⟩
  · by_cases hb : b ∈ fr
    · cases q : g.get? b with
      | none => rw [h4' b q] at e; cases e
      | some o' => rw [h3 b hb o' q] at e; exact e
    · rw [h2 b hb] at e
      refine K.up b o (fun q => ?_) (fun q => ?_) (F.keep _ _ e)
      · rw [q, B.no] at e; cases e
      · rcases List.mem_cons.mp q with q | q
        · exact hL b (by rw [e]; nofun) q
        · exact hb q
theorem news44 {fr : List Addr} {h g g₂ h₄ h5 : Heap} {L : Addr} {m : Str → Option Value} {news own' : List (Addr × Obj)} {o4 o5 : Obj} (B : Bas fr h g) (hns : ∀ b ∈ fr, ∃ m, h.Ns b m) (F : Fr g L h₄ m) (N : News g L h₄ ((44, o4) :: news)) (hn : ∀ b, g.get? b = none → g₂.get? b = none) (K : Kept (L :: fr) h₄ h5) (h5' : h5.get? 44 = some o5) (hap : ∀ q ∈ news, q.1 ≠ 44)
    (hnew : ∀ p ∈ own', h5.get? p.1 = some p.2 ∧ h₄.get? p.1 = none) : News g₂ L h5 ((44, o5) :: (own' ++ news)) ∧ (∀ p ∈ own', p.1 ≠ 44) ∧ ∀ p ∈ own', ∀ q ∈ news, p.1 ≠ q.1 := by
  have h1 := N _ (.head _)
  refine ⟨fun p hp => ?_, fun p hp e => ?_, fun p hp q hq e => ?_⟩
  · rcases List.mem_cons.mp hp with rfl | hp
    · exact ⟨h5', h1.2.1, hn _ h1.2.2⟩
    rcases List.mem_append.mp hp with hp | hp
    · obtain ⟨e1, e2⟩ := hnew p hp
      refine ⟨e1, ?_, hn _ ?_⟩
      · intro e
        obtain ⟨oL, _, _, hoL, _⟩ := F.ns
        rw [e, hoL] at e2; cases e2
      · cases e : g.get? p.1 with
        | none => rfl
        | some o => rw [F.keep _ _ e] at e2; cases e2
    · have h2 := N p (.tail _ hp)
      refine ⟨K.up _ _ (hap p hp) (fun q => ?_) h2.1, h2.2.1, hn _ h2.2.2⟩
      rcases List.mem_cons.mp q with q | q
      · exact h2.2.1 q
      · obtain ⟨_, o, _, _, e, _⟩ := hns _ q
        obtain ⟨o', e', _⟩ := B.fr _ q o e
        rw [h2.2.2] at e'; cases e'
  · have := (hnew p hp).2
    rw [e, h1.1] at this; cases this
  · have h2 := (N q (.tail _ hq)).1
    rw [← e, (hnew p hp).2] at h2; cases h2
theorem Frs.deeper {A : Around} {fr : List Addr} {h h' g : Heap} {env : Env} {L : Addr} {m : Str → Option Value} (x : Frs A fr h) (B : Bas fr h g) (F : Fr g L h' m) (hf : env.frame = some L) (hk : env.scope.kind ≠ .module) : Frs (A.deeper env) (L :: fr) h' := by
  obtain ⟨⟨l, h1, h2, h3⟩, h4⟩ := x
  refine ⟨⟨env :: l, by show A.frames.map _ = _; rw [h1]; rfl, by rw [List.map_cons, List.map_cons, hf, h2], fun e he => ?_⟩, fun b hb => ?_⟩
  · rcases List.mem_cons.mp he with rfl | he
    · exact hk
    · exact h3 e he
  · rcases List.mem_cons.mp hb with rfl | hb
    · exact ⟨_, F.ns⟩
    · obtain ⟨m', o, es, ep, e, hd, hs, hx⟩ := h4 b hb
      obtain ⟨o', e', hd'⟩ := B.fr b hb o e
      exact ⟨m', o', es, ep, F.keep _ _ e', hd'.trans hd, hs, hx⟩
theorem frame_new {h₀ h h₁ : Heap} {L : Addr} {m : Str → Option Value} (k : ∀ b o, h₀.get? b = some o → h.get? b = some o) (F : Fr h L h₁ m) : h₀.get? L = none := by
  cases e : h₀.get? L with
  | none => rfl
  | some o => exact absurd (Heap.lt_size (k _ _ e)) (Nat.not_lt.mpr F.above)

def ShrAt (w : World) (p : Program) (loose : List Str) (mean : ExcName → Option Value) (mg mb : Str → Option Value) {α β : Type} (S : Rl α) (R' : Rl β) (P : α → Int → β → Int → Prop) (k : Nat) (x : α) : Prop :=
  ∀ (A : Around) (s : Shared) (v : Value) (m : Int) (tm tb : Tok) (ps : Array Value) (h₀ : Heap) (fr : List Addr) (E : Value → Shared → Prop), Am k A → Frs A fr s.heap → Gd w p loose mean mg mb h₀ → CodeHd h₀ 48 44 → (∀ b o, h₀.get? b = some o → s.heap.get? b = some o) → h₀.get? 44 = none → (∀ b ∈ fr, h₀.get? b = none) → 44 ∉ fr →
    s.heap.get? 44 = some (tabObj ps) → TabOk s.heap ps → S h₀ v x → 0 ≤ m →
    wpH (model PySem.Challenge.rw_ez0045_01.row.prog w) A (call (.ref 49) [v, .int m tm, .int 1 tb]) (fun r s' => Mine.Done <| ∃ own ps' h' tkk t o c n tk k y, s' = { s with heap := h', toks := tkk } ∧ Kept fr s.heap h' ∧
      h'.get? 44 = some (tabObj ps') ∧ TabStep ps ps' own ∧ (∀ p ∈ own, h'.get? p.1 = some p.2 ∧ s.heap.get? p.1 = none) ∧ r = .ref t ∧ (t, o) ∈ own ∧ o.cls = .type "tuple" ∧ o.data = .seq #[c, .int n tk] k ∧ Via R' h₀ own c y ∧ P x m y n) E s
def ShrOk (w : World) (p : Program) (loose : List Str) (mean : ExcName → Option Value) (mg mb : Str → Option Value) {α β : Type} (S : Rl α) (R' : Rl β) (P : α → Int → β → Int → Prop) (k : Nat) : Prop := ∀ x, ShrAt w p loose mean mg mb S R' P k x

theorem TabOk.mono {h h' : Heap} {ps : Array Value} (x : TabOk h ps) (k : ∀ b o, h.get? b = some o → h'.get? b = some o) : TabOk h' ps :=
  ⟨x.1, fun pos cv e => let ⟨c, oc, vs, t, e1, e2, r⟩ := x.2 pos cv e; ⟨c, oc, vs, t, e1, k _ _ e2, r⟩⟩
theorem pick_paired {α β : Type} {F : α → β → Prop} {vs : List α} {xs : List β} {d : α} (hp : Paired F vs xs) : ∀ l : List Nat, (∀ i ∈ l, i < xs.length) → Paired F (l.map fun i => vs.getD i d) (l.filterMap fun i => xs[i]?)
  | [], _ => .nil
  | i :: l, h => by
    have hi := h i (.head _)
    have hv : vs[i]? = some (vs.getD i d) := by
      rw [List.getD_eq_getElem?_getD, List.getElem?_eq_getElem (by rw [hp.length]; exact hi)]; rfl
    obtain ⟨x, hx, hF⟩ := Paired.at' hp i _ hv
    rw [List.map_cons, List.filterMap_cons, hx]
    exact .cons hF (pick_paired hp l fun j hj => h j (.tail _ hj))
theorem ord_paired {α : Type} {F : Value → α → Prop} {vs : List Value} {xs : List α} {wt : α → Int} (hp : Paired F vs xs) (h3 : xs.length ≤ 3) : Paired F ((ord (xs.map wt)).map fun i => vs.getD i .none) (ordX wt xs) :=
  pick_paired hp _ fun i hi => by
    have := (ord_perm (kz := xs.map wt) (by simpa using h3)).mem_iff.mp hi
    simpa using this
theorem know {g h : Heap} {L : Addr} {m : Str → Option Value} {k : Str} {v : Value} (hk : m k = some v) (F : Fr g L h m) : Fr g L h (fun y => if y = k then some v else m y) := by
  have e : m = fun y => if y = k then some v else m y := by
    funext y
    by_cases h : y = k
    · subst h; rw [if_pos rfl]; exact hk
    · rw [if_neg h]
  rw [← e]
  exact F
theorem know2 {g h : Heap} {L : Addr} {m : Str → Option Value} {k0 : Str} {v0 : Value} {k1 : Str} {v1 : Value} (h0 : m k0 = some v0) (h1 : m k1 = some v1) (F : Fr g L h m) : Fr g L h (fun y => if y = k0 then some v0 else if y = k1 then some v1 else m y) := by
  have e : m = fun y => if y = k0 then some v0 else if y = k1 then some v1 else m y := by
    funext y
    by_cases e0 : y = k0
    · subst e0; simp only [if_true, h0]
    by_cases e1 : y = k1
    · subst e1; simp only [if_neg e0, if_true, h1]
    simp only [if_neg e0, if_neg e1]
  rw [← e]; exact F
theorem know3 {g h : Heap} {L : Addr} {m : Str → Option Value} {k0 : Str} {v0 : Value} {k1 : Str} {v1 : Value} {k2 : Str} {v2 : Value} (h0 : m k0 = some v0) (h1 : m k1 = some v1) (h2 : m k2 = some v2) (F : Fr g L h m) : Fr g L h (fun y => if y = k0 then some v0 else if y = k1 then some v1 else if y = k2 then some v2 else m y) := by
  have e : m = fun y => if y = k0 then some v0 else if y = k1 then some v1 else if y = k2 then some v2 else m y := by
    funext y
    by_cases e0 : y = k0
    · subst e0; simp only [if_true, h0]
    by_cases e1 : y = k1
    · subst e1; simp only [if_neg e0, if_true, h1]
    by_cases e2 : y = k2
    · subst e2; simp only [if_neg e0, if_neg e1, if_true, h2]
    simp only [if_neg e0, if_neg e1, if_neg e2]
  rw [← e]; exact F
theorem know4 {g h : Heap} {L : Addr} {m : Str → Option Value} {k0 : Str} {v0 : Value} {k1 : Str} {v1 : Value} {k2 : Str} {v2 : Value} {k3 : Str} {v3 : Value} (h0 : m k0 = some v0) (h1 : m k1 = some v1) (h2 : m k2 = some v2) (h3 : m k3 = some v3) (F : Fr g L h m) : Fr g L h (fun y => if y = k0 then some v0 else if y = k1 then some v1 else if y = k2 then some v2 else if y = k3 then some v3 else m y) := by
  have e : m = fun y => if y = k0 then some v0 else if y = k1 then some v1 else if y = k2 then some v2 else if y = k3 then some v3 else m y := by
    funext y
    by_cases e0 : y = k0
    · subst e0; simp only [if_true, h0]
    by_cases e1 : y = k1
    · subst e1; simp only [if_neg e0, if_true, h1]
    by_cases e2 : y = k2
    · subst e2; simp only [if_neg e0, if_neg e1, if_true, h2]
    by_cases e3 : y = k3
    · subst e3; simp only [if_neg e0, if_neg e1, if_neg e2, if_true, h3]
    simp only [if_neg e0, if_neg e1, if_neg e2, if_neg e3]
  rw [← e]; exact F
theorem know5 {g h : Heap} {L : Addr} {m : Str → Option Value} {k0 : Str} {v0 : Value} {k1 : Str} {v1 : Value} {k2 : Str} {v2 : Value} {k3 : Str} {v3 : Value} {k4 : Str} {v4 : Value} (h0 : m k0 = some v0) (h1 : m k1 = some v1) (h2 : m k2 = some v2) (h3 : m k3 = some v3) (h4 : m k4 = some v4) (F : Fr g L h m) : Fr g L h (fun y => if y = k0 then some v0 else if y = k1 then some v1 else if y = k2 then some v2 else if y = k3 then some v3 else if y = k4 then some v4 else m y) := by
  have e : m = fun y => if y = k0 then some v0 else if y = k1 then some v1 else if y = k2 then some v2 else if y = k3 then some v3 else if y = k4 then some v4 else m y := by
    funext y
    by_cases e0 : y = k0
    · subst e0; simp only [if_true, h0]
    by_cases e1 : y = k1
    · subst e1; simp only [if_neg e0, if_true, h1]
    by_cases e2 : y = k2
    · subst e2; simp only [if_neg e0, if_neg e1, if_true, h2]
    by_cases e3 : y = k3
    · subst e3; simp only [if_neg e0, if_neg e1, if_neg e2, if_true, h3]
    by_cases e4 : y = k4
    · subst e4; simp only [if_neg e0, if_neg e1, if_neg e2, if_neg e3, if_true, h4]
    simp only [if_neg e0, if_neg e1, if_neg e2, if_neg e3, if_neg e4]
  rw [← e]; exact F
theorem know6 {g h : Heap} {L : Addr} {m : Str → Option Value} {k0 : Str} {v0 : Value} {k1 : Str} {v1 : Value} {k2 : Str} {v2 : Value} {k3 : Str} {v3 : Value} {k4 : Str} {v4 : Value} {k5 : Str} {v5 : Value} (h0 : m k0 = some v0) (h1 : m k1 = some v1) (h2 : m k2 = some v2) (h3 : m k3 = some v3) (h4 : m k4 = some v4) (h5 : m k5 = some v5) (F : Fr g L h m) : Fr g L h (fun y => if y = k0 then some v0 else if y = k1 then some v1 else if y = k2 then some v2 else if y = k3 then some v3 else if y = k4 then some v4 else if y = k5 then some v5 else m y) := by
  have e : m = fun y => if y = k0 then some v0 else if y = k1 then some v1 else if y = k2 then some v2 else if y = k3 then some v3 else if y = k4 then some v4 else if y = k5 then some v5 else m y := by
    funext y
    by_cases e0 : y = k0
    · subst e0; simp only [if_true, h0]
    by_cases e1 : y = k1
    · subst e1; simp only [if_neg e0, if_true, h1]
    by_cases e2 : y = k2
    · subst e2; simp only [if_neg e0, if_neg e1, if_true, h2]
    by_cases e3 : y = k3
    · subst e3; simp only [if_neg e0, if_neg e1, if_neg e2, if_true, h3]
    by_cases e4 : y = k4
    · subst e4; simp only [if_neg e0, if_neg e1, if_neg e2, if_neg e3, if_true, h4]
    by_cases e5 : y = k5
    · subst e5; simp only [if_neg e0, if_neg e1, if_neg e2, if_neg e3, if_neg e4, if_true, h5]
    simp only [if_neg e0, if_neg e1, if_neg e2, if_neg e3, if_neg e4, if_neg e5]
  rw [← e]; exact F
def Shape (v : Value) : Prop := (∃ i t, v = .int i t) ∨ (∃ x t, v = .str x t) ∨ ∃ a, v = .ref a
theorem isNot_none {M : Model} {A : Around} {E Q : Value → Shared → Prop} {s : Shared} {v : Value} (h : Shape v) (hq : Q (.bool true) s) : wpAny M A (compareOp .IsNot v .none) Q E s := by
  rcases h with ⟨i, t, rfl⟩ | ⟨x, t, rfl⟩ | ⟨a, rfl⟩
  · exact wpAny_isNot_other rfl (by intro e; cases e) hq
  · exact wpAny_isNot_other rfl (by intro e; cases e) hq
  · exact wpAny_isNot_other rfl (by intro e; cases e) hq
theorem fin_own {fr : List Addr} {g h h' : Heap} {L D : Addr} {o' t' : Obj} {rest : List (Addr × Obj)} (B : Bas fr h g) (N : News g L h' ((D, o') :: (44, t') :: rest)) (hne : o' ≠ t') (hr : ∀ p ∈ rest, p.1 ≠ 44) : ∀ p ∈ (D, o') :: rest, h'.get? p.1 = some p.2 ∧ h.get? p.1 = none := by
  have hD : D ≠ 44 := by
    rintro rfl
    have h1 := (N _ (.head _)).1
    rw [(N _ (.tail _ (.head _))).1] at h1
    exact hne (Option.some.inj h1).symm
  have key : ∀ p : Addr × Obj, p.1 ≠ 44 → g.get? p.1 = none → h.get? p.1 = none := fun p h4 hg => by
    cases e : h.get? p.1 with
    | none => rfl
    | some o =>
      by_cases hf : p.1 ∈ fr
      · obtain ⟨_, e', _⟩ := B.fr _ hf o e
        rw [e'] at hg; cases hg
      · rw [B.up _ _ h4 hf e] at hg; cases hg
  intro p hp
  rcases List.mem_cons.mp hp with rfl | hp
  · exact ⟨(N _ (.head _)).1, key _ hD (N _ (.head _)).2.2⟩
  · have := N p (.tail _ (.tail _ hp))
    exact ⟨this.1, key _ (hr p hp) this.2.2⟩
theorem ne_of_obj {h₀ h : Heap} {L : Addr} {news : List (Addr × Obj)} (N : News h₀ L h news) {a b : Addr} {o o2 : Obj} (ha : (a, o) ∈ news) (hb : (b, o2) ∈ news) (hc : o ≠ o2) : a ≠ b := by
  rintro rfl
  have h1 := (N _ ha).1
  rw [(N _ hb).1] at h1
  exact hc (Option.some.inj h1).symm
end Mine

end PartMShr0

section PartMPartC
open PySem PySem.W PyProof.Rows PySem.Calls
local macro_rules | `(tactic| walk_at "eval ListComp") => `(tactic| refine Mine.stop_ ?_)
local macro_rules | `(tactic| walk_at "call builtin:len") => `(tactic| ((with_reducible show wpAny _ _ (call (Value.builtin "len") [Value.str _ _]) _ _ _); refine len_str (by with_reducible assumption) ?_))
local macro_rules | `(tactic| walk_at "subscriptTail") => `(tactic| ((with_reducible show wpAny _ _ (subscriptTail _ _ (Value.ref _) (Value.str _ _)) _ _ _); refine Mine.item_dict (by with_reducible assumption) (by with_reducible assumption) ?_ (by with_unfolding_all rfl) (by intro _; with_unfolding_all rfl)))
local macro_rules | `(tactic| walk_at "call ref") => `(tactic| refine Mine.stop_ ?_)
local macro_rules | `(tactic| walk_at "eval Name") => `(tactic| ((with_reducible show wpAny _ _ (eval (Expr.Name _ _) (compEnvC _ _ _ _)) _ _ _); first
  | (refine Mine.cname_L (by with_reducible assumption) (by with_reducible assumption) ?_ (by rfl) (by rfl) (by decide))
  | (refine Mine.cname_C (by rfl) (by with_reducible assumption) ?_ (by rfl) (by rfl) (by decide))
  | (refine Mine.cname_K (by with_reducible assumption) (by rfl) ?_ (by rfl) (by rfl) (by rfl) (by decide))
  | (refine Mine.cname_B (by with_reducible assumption) (by rfl) (by boot_by_name) (by decide) ?_ (by rfl) (by rfl) (by rfl) (by rfl) (by decide))))
local macro_rules | `(tactic| walk_at "call type:str") => `(tactic| refine Mine.stop_ ?_)
local macro_rules | `(tactic| walk_at "eval IfExp") => `(tactic| refine Mine.stop_ ?_)
local macro_rules | `(tactic| walk_at "call builtin:sorted") => `(tactic| refine Mine.stop_ ?_)
local macro_rules | `(tactic| walk_at "exec For Name Call cons nil") => `(tactic| refine Mine.stop_ ?_)
local macro_rules | `(tactic| walk_at "compareOp Eq ref ref") => `(tactic| refine Mine.stop_ ?_)
local macro_rules | `(tactic| walk_at "subscriptTail") => `(tactic| ((with_reducible show wpAny _ _ (subscriptTail _ _ (Value.ref _) (Value.int _ _)) _ _ _); refine Mine.stop_ ?_))
local macro_rules | `(tactic| walk_at "call builtin:len") => `(tactic| ((with_reducible show wpAny _ _ (call (Value.builtin "len") [Value.ref _]) _ _ _); refine Mine.stop_ ?_))
namespace Mine
variable {w : World} {p : Program} {loose : List Str} {mean : ExcName → Option Value} {mg mb : Str → Option Value}






def placeJ {α β : Type} (part : β → α → Bool) (ys : List β) (os : List α) (sm : Addr) (NN : List (Addr × Obj)) (i : Nat) (m : Str → Option Value) (news : List (Addr × Obj)) : Prop :=
  news = NN ∧ ∃ (pl : Nat) (tp : Tok), m (Str.ofString "some") = some (.ref sm) ∧ m (Str.ofString "place") = some (.int pl tp) ∧ pl ≤ ys.length ∧ gr part (ys.drop pl) (os.drop i) = gr part ys os

theorem gr_cons {α β : Type} {part : β → α → Bool} (y : β) (ys : List β) (x : α) (xs : List α) : gr part (y :: ys) (x :: xs) = if part y x then gr part ys xs else gr part (y :: ys) xs := rfl
theorem ld_X {M : Model} {A : Around} {E : Value → Shared → Prop} {s : Shared} {h₀ : Heap} {L a : Addr} {cn : Str} {cs : Scope} {ccd : Value} {cl : List (Str × Addr)} {m : Str → Option Value} {x : Str} {v : Value} {Q : Value → Shared → Prop} (F : Fr h₀ L s.heap m) (hv : m x = some v) (h : Q v s) (hk : (envX cn cs L a ccd cl).scope.kind = .function) (hx : (envX cn cs L a ccd cl).kindOf x = some .local) :
    wpAny M A (loadName (envX cn cs L a ccd cl) x) Q E s := wpAny_loadName_local hk hx F.ns hv h
theorem gr_nil {α β : Type} {part : β → α → Bool} (xs : List α) : gr part [] xs = true := by cases xs <;> rfl
theorem drop_at {α : Type} {xs : List α} {i : Nat} {x : α} (h : xs[i]? = some x) : xs.drop i = x :: xs.drop (i + 1) := by
  obtain ⟨hlt, e⟩ := List.getElem?_eq_some_iff.mp h
  rw [List.drop_eq_getElem_cons hlt, e]
theorem gr_skip {α β : Type} {part : β → α → Bool} {ys : List β} {os : List α} {pl i : Nat} (h : ys.length ≤ pl) (e : gr part (ys.drop pl) (os.drop i) = gr part ys os) : gr part (ys.drop pl) (os.drop (i + 1)) = gr part ys os := by
  rw [List.drop_eq_nil_of_le h, gr_nil] at e ⊢
  exact e
theorem gr_take {α β : Type} {part : β → α → Bool} {ys : List β} {os : List α} {pl i : Nat} {y : β} {x : α} (hy : ys[pl]? = some y) (hx : os[i]? = some x) (hp : part y x = true) (e : gr part (ys.drop pl) (os.drop i) = gr part ys os) : gr part (ys.drop (pl + 1)) (os.drop (i + 1)) = gr part ys os := by
  rw [drop_at hy, drop_at hx] at e
  rw [gr_cons] at e
  rw [if_pos hp] at e
  exact e
theorem gr_pass {α β : Type} {part : β → α → Bool} {ys : List β} {os : List α} {pl i : Nat} {y : β} {x : α} (hy : ys[pl]? = some y) (hx : os[i]? = some x) (hp : part y x = false) (e : gr part (ys.drop pl) (os.drop i) = gr part ys os) : gr part (ys.drop pl) (os.drop (i + 1)) = gr part ys os := by
  rw [drop_at hy, drop_at hx] at e
  rw [gr_cons] at e
  rw [if_neg (by rw [hp]; exact Bool.false_ne_true)] at e
  rw [drop_at hy]
  exact e
theorem gr_end {α β : Type} {part : β → α → Bool} {ys : List β} {os : List α} {pl i : Nat} (hi : os.length ≤ i) (hp : pl ≤ ys.length) (e : gr part (ys.drop pl) (os.drop i) = gr part ys os) : gr part ys os = decide ((pl : Int) = ys.length) := by
  rw [← e, List.drop_eq_nil_of_le hi]
  by_cases h : pl = ys.length
  · rw [List.drop_eq_nil_of_le (by omega), gr_nil, h]; simp
  · rw [List.drop_eq_getElem_cons (by omega)]
    have : ¬ (pl : Int) = ys.length := by omega
    simp [gr, this]

set_option maxHeartbeats 4000000 in
theorem part_nl {β : Type} {R' : Rl β} (hR' : Mono R') {A : Around} {s : Shared} {k : Nat} {vt : Value} {y : TCont β} {a : Addr} {vs : Array Value} {E : Value → Shared → Prop} (hA : Am (k + 1) A) (G : Gd w p loose mean mg mb s.heap) (hy : TContIs w R' s.heap vt y) (hn : ∀ t d, y ≠ .list t d) (hv : s.heap.IsList a vs) :
    wpAny (model PySem.Challenge.rw_ez0045_01.row.prog w) A (call (.ref 84) [vt, .ref a]) (fun r s' => Keeps s s' ∧ r = .bool false) E s := by
  obtain ⟨X, T⟩ := G
  revert X; k_fill; intro X
  refine callC' (binds := [(Str.ofString "told", vt), (Str.ofString "tree", .ref a)]) (fun L => [(Str.ofString "tree", L + 2), (Str.ofString "told", L + 1)]) (fun _ => none) (fun y => if y = Str.ofString "tree" then some (.ref a) else if y = Str.ofString "told" then some vt else none) hA.room (X 84 _ rfl) rfl T.nolimit (codeRec_of X (by rfl)) (BindsTo.of_eq rfl) (by rfl) (by decide) rfl rfl rfl
    (fun _ => rfl) (fun _ => rfl) (fun _ => rfl) fun L h₁ tk cells F N Y => ?_
  obtain ⟨om, ot, rfl, hom, hot⟩ := Y.two
  replace hom : om.data = .cell (some (.ref a)) := hom
  replace hot : ot.data = .cell (some vt) := hot
  clear Y
  w_on
  have hh : A.handled = none := hA.hd
  have hcm : h₁.IsCell (L + 2) (some (.ref a)) := ⟨om, (N _ (.head _)).1, hom⟩
  have hct : h₁.IsCell (L + 1) (some vt) := ⟨ot, (N _ (.tail _ (.head _))).1, hot⟩
  have hun : A.units + 3 < cLine := by have := hA.un; omega
  have hy1 := mono_tcont hR' _ _ _ _ F.keep hy
  obtain ⟨oa, hoa, hca, _⟩ := id hv
  cases y with
  | leaf l =>
    obtain ⟨hl, ho⟩ := hy
    cases l with
    | none =>
      cases (show vt = .none from hl)
      k_steps
      exact ⟨_, _, rfl, F.keep⟩
    | int i =>
      obtain ⟨t, rfl⟩ := hl
      k_steps
      exact ⟨_, _, rfl, F.keep⟩
    | str x =>
      obtain ⟨t, rfl⟩ := hl
      k_steps
      exact ⟨_, _, rfl, F.keep⟩
  | list ys d => exact absurd rfl (hn ys d)
  | dict kvs =>
    obtain ⟨_, _, b, es, rfl, _, hd, _⟩ := hy
    obtain ⟨o, ds, ep, ho, hc, hdd⟩ := dict_obj hd
    k_steps
    exact ⟨_, _, rfl, F.keep⟩

set_option maxHeartbeats 4000000 in
theorem part_list {α β : Type} {R : Rl α} {R' : Rl β} {f : α → Int} {low : β → Prop} {part : β → α → Bool} {k : Nat} (hR : Mono R) (hR' : Mono R') (hne : ItemNe R') (hW : WeightOk w p loose mean mg mb R f k) (ih : PartOk w p loose mean mg mb R' R low part k)
    {A : Around} {s : Shared} {vt v : Value} {ys : List β} {d : Bool} {xs : List α} {E : Value → Shared → Prop} (hA : Am (k + 5) A) (G : Gd w p loose mean mg mb s.heap) (hsy : ∃ m, s.heap.Ns sysModules m) (hy : TContIs w R' s.heap vt (.list ys d)) (hlow : ∀ y ∈ ys, low y) (hx : ContIs w R s.heap v (.list xs)) :
    wpAny (model PySem.Challenge.rw_ez0045_01.row.prog w) A (call (.ref 84) [vt, v]) (fun r s' => Keeps s s' ∧ r = .bool (gr part ys (ordX f xs))) E s := by
  obtain ⟨X, T⟩ := G
  revert X; k_fill; intro X
  refine callC' (binds := [(Str.ofString "told", vt), (Str.ofString "tree", v)]) (fun L => [(Str.ofString "tree", L + 2), (Str.ofString "told", L + 1)]) (fun _ => none) (fun y => if y = Str.ofString "tree" then some v else if y = Str.ofString "told" then some vt else none) hA.room (X 84 _ rfl) rfl T.nolimit (codeRec_of X (by rfl)) (BindsTo.of_eq rfl) (by rfl) (by decide) rfl rfl rfl
    (fun _ => rfl) (fun _ => rfl) (fun _ => rfl) fun L h₁ tk cells F N Y => ?_
  obtain ⟨om, ot, rfl, hom, hot⟩ := Y.two
  replace hom : om.data = .cell (some v) := hom
  replace hot : ot.data = .cell (some vt) := hot
  clear Y
  w_on
  have hh : A.handled = none := hA.hd
  have hcm : h₁.IsCell (L + 2) (some v) := ⟨om, (N _ (.head _)).1, hom⟩
  have hct : h₁.IsCell (L + 1) (some vt) := ⟨ot, (N _ (.tail _ (.head _))).1, hot⟩
  have hun : A.units + 3 < cLine := by have := hA.un; omega
  obtain ⟨h3, a, vs, rfl, hv, hp⟩ := hx
  obtain ⟨hy3, b, us, es, rfl, hu, hpu, hdots⟩ := hy
  obtain ⟨oa, hoa, hca, _⟩ := id hv
  obtain ⟨ob, hob, hcb, _⟩ := id hu
  have hu1 := isList_keeps hu F.keep
  have hpl := hpu.length
  have hel : es.length ≤ 1 := by
    cases d with
    | false => cases (show es = [] from hdots); exact Nat.zero_le _
    | true => obtain ⟨t, rfl⟩ := hdots; exact Nat.le_refl _
  have hlen : (List.toArray (us ++ es)).size ≤ sizeLine := by
    rw [List.size_toArray, List.length_append, sizeLine_eq]; omega
  k_steps
  unfold Mine.Stop
  rename Fr _ _ _ _ => F
  rename News _ _ _ _ => N
  refine wpAny_mono (Q := fun r s' => Mine.Done (∃ sm h' tk' own, s' = { s with heap := h', toks := tk' } ∧ r = .ref sm ∧ Fr s.heap L h' (fun _ => none) ∧ News s.heap L h' (own ++ [(L + 2, om), (L + 1, ot)]) ∧ ∀ h2 : Heap, (∀ b o, s.heap.get? b = some o → h2.get? b = some o) → (∀ q ∈ own, h2.get? q.1 = some q.2) → h2.IsList sm us.toArray)) ?_ (fun r s' h => ?_) (fun _ _ e => e)
  · refine IfExp_ ?_
    k_steps
    rename Fr _ _ _ _ => F3
    rename News _ _ _ _ => N3
    clear hu1
    have hv := isList_keeps hu F3.keep
    have hp3 : Paired (R' _) us ys := hpu.mono fun u y => hR' _ _ u y F3.keep
    refine Mine.go_ ?_
    refine dots_eq (d := d) (es := es) hne ⟨_, (N3 _ (.tail _ (.head _))).1, rfl, 0, ?_⟩ ⟨_, (N3 _ (.head _)).1, rfl, _, rfl⟩ hp3 hdots ?_ ?_
    · rw [show slicePick (us ++ es).toArray (some (-1)) none none = _ from slicePick_last _ 1 (by omega)]
      rfl
    · have := hA.un; show A.units + 3 + 1 < cLine; omega
    cases d
    · cases (show es = [] from hdots)
      k_steps
      show Mine.Done _
      unfold Mine.Done
      exact ⟨b, _, _, [], rfl, rfl, F3, fun q hq => N3 q (.tail _ (.tail _ hq)), fun h2 k2 _ => by have := isList_keeps hu k2; rwa [List.append_nil] at this⟩
    · obtain ⟨td, rfl⟩ := hdots
      k_steps
      rename Fr _ _ _ _ => F4
      rename News _ _ _ _ => N4
      show Mine.Done _
      unfold Mine.Done
      refine ⟨_, _, _, [_, _, _], rfl, rfl, F4, N4, fun h2 _ k2 => ⟨_, k2 _ (.head _), rfl, 0, ?_⟩⟩
      · rw [show slicePick (us ++ [Value.str dotsS td]).toArray none (some (-1)) none = _ from slicePick_butLast _ 1 (by omega)]
        simp
  · unfold Mine.Done at h
    obtain ⟨sm, h', tk', own, rfl, rfl, F2, N2, hsm⟩ := h
    clear F N hcm hct hu1
    k_steps
    unfold Mine.Stop
    refine for_list s.heap hh ?_
    k_steps
    refine Mine.go_ ?_
    rename Fr _ _ _ _ => F3
    rename News _ _ _ _ => N3
    have hlv : (xs.map f).length = vs.length := by rw [List.length_map, hp.length]
    refine sorted_rev (kz := xs.map f) F3 N3 (isList_keeps hv F3.keep) hlv (by rw [hp.length]; exact h3) (ksk_s2 _ _ _) (fun x => ksk_l2 _ _ _) (fun x => ksk_t2 _ _ _) ?_ ?_
    · intro i v' n s' hi hn F' N'
      obtain ⟨y, hy, hRy⟩ := Paired.at' hp i v' hi
      have hn' : f y = n := by rw [List.getElem?_map, hy] at hn; cases hn; rfl
      refine wpAny_mono (hW _ _ _ y _ (((hA.deeper _).in1.in1).less (by omega)) ((Gd.mk X T).keeps F'.keep) (hR _ _ _ _ F'.keep hRy)) (fun r s'' hr => ?_) fun _ _ e => e
      rw [← hn']; exact hr
    · intro D c h4 tk4 F4 N4 hD
      clear F3 N3
      k_steps
      unfold Mine.Stop
      have hpo := ord_paired (wt := f) hp h3
      have ho3 : (ordX f xs).length ≤ 3 := by rw [ord_len h3]; exact h3
      have hovl : ((ord (xs.map f)).map fun i => vs.getD i Value.none).length = (ordX f xs).length := hpo.length
      have hL := F4.ns.lt
      have hDL : D ≠ L := (N4 _ (.head _)).2.1
      refine ⟨D, (ord (xs.map f)).map fun i => vs.getD i Value.none, _, _, placeJ part ys (ordX f xs) sm ((D, W.listOf (List.map (fun i => vs.getD i Value.none) (ord (List.map f xs))).toArray c) :: (own ++ [(L + 2, om), (L + 1, ot)])), fun _ _ => False, rfl, ⟨_, (N4 _ (.head _)).1, rfl, c, rfl⟩, hDL, F4, N4, ⟨rfl, 0, _, rfl, rfl, Nat.zero_le _, rfl⟩, ?_, ?_⟩
      · rintro i v' mm news₁ s₂ ownI hi ⟨rfl, pl, tp, k1, k2, hple, hgr⟩ hnit hown F5 N5 hit
        obtain ⟨x, hxi, hRx⟩ := Paired.at' hpo i v' hi
        replace F5 : Fr s.heap L s₂.heap mm := F5
        replace N5 : News s.heap L s₂.heap _ := N5
        have F6 := know2 k1 k2 F5
        clear F5 F4 N4
        k_steps
        rename Fr _ _ _ _ => F7
        rename News _ _ _ _ => N7
        have hown2 : ∀ q ∈ own, q ∈ ownI ++ (D, W.listOf (List.map (fun i => vs.getD i Value.none) (ord (List.map f xs))).toArray c) :: (own ++ [(L + 2, om), (L + 1, ot)]) := fun q hq => List.mem_append_right _ (.tail _ (List.mem_append_left _ hq))
        have hsl := hsm _ F7.keep fun q hq => (N7 q (hown2 q hq)).1
        refine Mine.go_ ?_
        refine' PyProof.Rows.len_list ?k1 ?k2 ?_
        case k1 => exact hsl
        case k2 => rw [List.size_toArray, hpl]; omega
        rw [List.size_toArray, hpl]
        k_steps
        · rename (_ : Int) < _ => hlt
          have hlt' : pl < us.length := by omega
          have hui : us[pl]? = some us[pl] := List.getElem?_eq_getElem hlt'
          obtain ⟨y, hyi, hRy⟩ := Paired.at' hpu pl _ hui
          refine Mine.go_ ?_
          refine' item_listL ?l1 ?l2 ?l3 ?l4 ?_ ?l5 ?l6
          case l1 => exact hsl
          case l2 => omega
          case l3 => omega
          case l4 => exact hui
          case l5 => with_unfolding_all rfl
          case l6 => intro _; with_unfolding_all rfl
          k_steps
          unfold Mine.Stop
          refine wpAny_mono (ih _ _ _ _ y x _ ((hA.deeper _).less (by omega)) ((Gd.mk X T).keeps F7.keep) (hsy.imp fun _ hm => hm.keeps F7.keep) (hR' _ _ _ _ F7.keep hRy) (hlow y (List.mem_of_getElem? hyi)) (hR _ _ _ _ F7.keep hRx)) (fun r s5 h5 => ?_) fun _ _ e => e
          obtain ⟨⟨h5, tk5, rfl, k5⟩, rfl⟩ := h5
          have F9 := F7.keeps k5
          have N9 := N7.grown k5
          clear F7 N7 hsl
          cases hpt : part y x
          · k_steps
            exact ⟨_, _, _, _, rfl, F9, N9, fun q hq hm => hnit q hq (List.mem_singleton.mp hm), rfl, pl, tp, rfl, rfl, hple, gr_pass hyi hxi hpt hgr⟩
          · k_steps
            refine ld_X F9 (by rfl) ?_ (by rfl) (by rfl)
            k_steps
            rename Fr _ _ _ _ => FA
            rename News _ _ _ _ => NA
            exact ⟨_, _, _, _, rfl, FA, NA, fun q hq hm => hnit q hq (List.mem_singleton.mp hm), rfl, pl + 1, _, rfl, rfl, by omega, gr_take hyi hxi hpt hgr⟩
        · rename ¬ (_ : Int) < _ => hlt
          exact ⟨_, _, _, _, rfl, F7, N7, fun q hq hm => hnit q hq (List.mem_singleton.mp hm), rfl, pl, tp, rfl, rfl, hple, gr_skip (by omega) hgr⟩
      · intro h' tk' mm news' F5 N5 hJ
        obtain ⟨rfl, pl, tp, k1, k2, hple, hgr⟩ := hJ.elim id False.elim
        replace F5 : Fr s.heap L h' mm := F5
        replace N5 : News s.heap L h' _ := N5
        have F6 := know2 k1 k2 F5
        clear F5 F4 N4
        have hsl := hsm _ F6.keep fun q hq => (N5 q (.tail _ (List.mem_append_left _ hq))).1
        k_steps
        refine Mine.go_ ?_
        refine' PyProof.Rows.len_list ?k1 ?k2 ?_
        case k1 => exact hsl
        case k2 => rw [List.size_toArray, hpl]; omega
        rw [List.size_toArray, hpl]
        k_steps
        · exact ⟨_, _, rfl, F6.keep⟩
        · show Value.bool _ = Value.bool _
          rw [gr_end (by rw [hovl]; exact Nat.le_refl _) hple hgr]
          rfl
end Mine

end PartMPartC

section PartMPartD
open PySem PySem.W PyProof.Rows PySem.Calls
local macro_rules | `(tactic| walk_at "eval ListComp") => `(tactic| refine Mine.stop_ ?_)
local macro_rules | `(tactic| walk_at "call builtin:len") => `(tactic| ((with_reducible show wpAny _ _ (call (Value.builtin "len") [Value.str _ _]) _ _ _); refine len_str (by with_reducible assumption) ?_))
local macro_rules | `(tactic| walk_at "subscriptTail") => `(tactic| ((with_reducible show wpAny _ _ (subscriptTail _ _ (Value.ref _) (Value.str _ _)) _ _ _); refine Mine.item_dict (by with_reducible assumption) (by with_reducible assumption) ?_ (by with_unfolding_all rfl) (by intro _; with_unfolding_all rfl)))
local macro_rules | `(tactic| walk_at "call ref") => `(tactic| refine Mine.stop_ ?_)
local macro_rules | `(tactic| walk_at "call type:str") => `(tactic| refine Mine.stop_ ?_)
namespace Mine
variable {w : World} {p : Program} {loose : List Str} {mean : ExcName → Option Value} {mg mb : Str → Option Value}






theorem valueAt_mem' {es : List (Str × Value)} {k : Str} {v : Value} (h : valueAt es k = some v) : (k, v) ∈ es := by
  unfold valueAt at h
  cases e : es.find? fun kv => decide (kv.1 = k) with
  | none => rw [e] at h; cases h
  | some q =>
    rw [e] at h
    cases h
    have h1 := List.find?_some e
    have h2 := List.mem_of_find?_eq_some e
    have h3 : q.1 = k := by simpa using h1
    rw [← h3]; exact h2
theorem at_none {α : Type} {F : Value → α → Prop} {k : Str} : ∀ {es : List (Str × Value)} {kvs : List (Str × α)}, Paired (fun (e : Str × Value) (p : Str × α) => e.1 = p.1 ∧ F e.2 p.2) es kvs → valueAt es k = none → at? kvs k = none
  | _, _, .nil, _ => rfl
  | e :: es, p :: kvs, .cons h t, hv => by
    unfold valueAt at hv
    rw [List.find?_cons] at hv
    by_cases hk : e.1 = k
    · simp [hk] at hv
    · have hk2 : (p.1 == k) = false := by rw [← h.1]; simpa using hk
      have hv2 : valueAt es k = none := by simpa [hk, valueAt] using hv
      have ih := at_none t hv2
      unfold at? at ih ⊢
      rw [List.find?_cons, hk2]
      exact ih
theorem at_some {α : Type} {F : Value → α → Prop} {k : Str} {v : Value} : ∀ {es : List (Str × Value)} {kvs : List (Str × α)}, Paired (fun (e : Str × Value) (p : Str × α) => e.1 = p.1 ∧ F e.2 p.2) es kvs → valueAt es k = some v → ∃ x, at? kvs k = some x ∧ F v x
  | _, _, .nil, hv => by cases hv
  | e :: es, p :: kvs, .cons h t, hv => by
    unfold valueAt at hv
    rw [List.find?_cons] at hv
    by_cases hk : e.1 = k
    · have hk2 : (p.1 == k) = true := by rw [← h.1]; simpa using hk
      have hv2 : e.2 = v := by simpa [hk] using hv
      refine ⟨p.2, ?_, hv2 ▸ h.2⟩
      unfold at?
      rw [List.find?_cons, hk2]
      rfl
    · have hk2 : (p.1 == k) = false := by rw [← h.1]; simpa using hk
      have hv2 : valueAt es k = some v := by simpa [hk, valueAt] using hv
      obtain ⟨x, h1, h2⟩ := at_some t hv2
      refine ⟨x, ?_, h2⟩
      unfold at? at h1 ⊢
      rw [List.find?_cons, hk2]
      exact h1
section
local macro_rules | `(tactic| walk_at "eval Name") => `(tactic| ((with_reducible show wpAny _ _ (eval (Expr.Name _ _) _) _ _ _); first
  | (refine wpAny_Name (wpAny_loadName_local (by with_reducible assumption) (by with_reducible assumption) (by with_reducible assumption) (by with_reducible assumption) ?_) (by decide))
  | (refine wpAny_Name (wpAny_loadName_cell (by with_reducible assumption) (by with_reducible assumption) (by with_reducible assumption) (by with_reducible assumption) ?_) (by decide))
  | (refine Name_function_global (by with_reducible assumption) (by with_reducible assumption) (loadGlobal_global (by with_reducible assumption) (by with_reducible assumption) ?_) (by decide))))
local macro_rules | `(tactic| walk_at "compareOp In") => `(tactic| refine Mine.stop_ ?_)
set_option maxHeartbeats 4000000 in
theorem part_elt {A : Around} {ce : Env} {s : Shared} {a b c1 c2 : Addr} {es fs : List (Str × Value)} {key : Str} {tk : Tok} {u : Value} {m : Str → Option Value} {p1 p2 p3 p4 p5 p6 p7 p8 p9 p10 p11 p12 : Pos} {Q E : Value → Shared → Prop} {o : Obj} {fd : FuncData}
    (hk : ce.scope.kind = .function) (h1 : ce.kindOf (Str.ofString "key") = some .local) (hn : s.heap.Ns ce.locals m) (hm : m (Str.ofString "key") = some (.str key tk))
    (h2 : ce.kindOf (Str.ofString "tree") = some .cell) (l2 : ce.cells.lookup (Str.ofString "tree") = some c2) (i2 : s.heap.IsCell c2 (some (.ref a)))
    (h3 : ce.kindOf (Str.ofString "told") = some .cell) (l3 : ce.cells.lookup (Str.ofString "told") = some c1) (i3 : s.heap.IsCell c1 (some (.ref b)))
    (h4 : ce.kindOf (Str.ofString "_law_part") = some .globalImplicit) (hg : s.heap.Ns ce.globals mg) (hmg : mg (Str.ofString "_law_part") = some (.ref 84)) (ho : s.heap.get? 84 = some o) (hd : o.data = .func fd)
    (hda : s.heap.DictOf (strKind prog w) a es) (hdb : s.heap.DictOf (strKind prog w) b fs) (hsm : (a == sysModules) = false) (hmem : (key, u) ∈ fs)
    (hno : valueAt es key = none → ∀ tk, Q (.bool false) { s with toks := tk }) (hyes : ∀ v, (key, v) ∈ es → valueAt es key = some v → ∀ tk, wpAny (model PySem.Challenge.rw_ez0045_01.row.prog w) A (call (.ref 84) [u, v]) Q E { s with toks := tk }) :
    wpAny (model PySem.Challenge.rw_ez0045_01.row.prog w) A (eval (.BoolOp .And [.Compare (.Name (Str.ofString "key") p1) [.In] [.Name (Str.ofString "tree") p2] p3, .Call (.Name (Str.ofString "_law_part") p4) [.Subscript (.Name (Str.ofString "told") p5) (.Name (Str.ofString "key") p6) p7, .Subscript (.Name (Str.ofString "tree") p8) (.Name (Str.ofString "key") p9) p10] [] p11] p12) ce) Q E s := by
  w_on
  refine hideQ fun K hK => ?_
  k_steps
  unfold Mine.Stop
  refine wpAny_in_of (strKind_is prog w _ _) hsm hda.mapOf ?_
  cases hv : valueAt es key with
  | none =>
    show wpAny _ _ (truthy (.bool false)) _ _ _
    k_steps
    exact Mine.go_ (hK _ _ (hno hv _))
  | some v =>
    have hmv : (key, v) ∈ es := valueAt_mem' hv
    show wpAny _ _ (truthy (.bool true)) _ _ _
    k_steps
    unfold Mine.Stop
    refine wpAny_mono (hyes v hmv hv _) (fun r s' h => hK _ _ h) fun _ _ e => e
end
end Mine

end PartMPartD

section PartMPartE
open PySem PySem.W PyProof.Rows PySem.Calls
local macro_rules | `(tactic| walk_at "eval ListComp") => `(tactic| refine Mine.stop_ ?_)
local macro_rules | `(tactic| walk_at "call builtin:len") => `(tactic| ((with_reducible show wpAny _ _ (call (Value.builtin "len") [Value.str _ _]) _ _ _); refine len_str (by with_reducible assumption) ?_))
local macro_rules | `(tactic| walk_at "subscriptTail") => `(tactic| ((with_reducible show wpAny _ _ (subscriptTail _ _ (Value.ref _) (Value.str _ _)) _ _ _); refine Mine.item_dict (by with_reducible assumption) (by with_reducible assumption) ?_ (by with_unfolding_all rfl) (by intro _; with_unfolding_all rfl)))
local macro_rules | `(tactic| walk_at "call ref") => `(tactic| refine Mine.stop_ ?_)
local macro_rules | `(tactic| walk_at "eval Name") => `(tactic| ((with_reducible show wpAny _ _ (eval (Expr.Name _ _) (compEnvC _ _ _ _)) _ _ _); first
  | (refine Mine.cname_L (by with_reducible assumption) (by with_reducible assumption) ?_ (by rfl) (by rfl) (by decide))
  | (refine Mine.cname_C (by rfl) (by with_reducible assumption) ?_ (by rfl) (by rfl) (by decide))
  | (refine Mine.cname_K (by with_reducible assumption) (by rfl) ?_ (by rfl) (by rfl) (by rfl) (by decide))
  | (refine Mine.cname_B (by with_reducible assumption) (by rfl) (by boot_by_name) (by decide) ?_ (by rfl) (by rfl) (by rfl) (by rfl) (by decide))))
local macro_rules | `(tactic| walk_at "call type:str") => `(tactic| refine Mine.stop_ ?_)
local macro_rules | `(tactic| walk_at "eval IfExp") => `(tactic| refine Mine.stop_ ?_)
local macro_rules | `(tactic| walk_at "call builtin:sorted") => `(tactic| refine Mine.stop_ ?_)
local macro_rules | `(tactic| walk_at "exec For Name Call cons nil") => `(tactic| refine Mine.stop_ ?_)
namespace Mine
variable {w : World} {p : Program} {loose : List Str} {mean : ExcName → Option Value} {mg mb : Str → Option Value}







set_option maxHeartbeats 4000000 in
theorem part_nd {β : Type} {R' : Rl β} (hR' : Mono R') {A : Around} {s : Shared} {k : Nat} {vt : Value} {y : TCont β} {a : Addr} {vs : List (Str × Value)} {E : Value → Shared → Prop} (hA : Am (k + 1) A) (G : Gd w p loose mean mg mb s.heap) (hy : TContIs w R' s.heap vt y) (hn : ∀ t, y ≠ .dict t) (hv : s.heap.DictOf (strKind prog w) a vs) :
    wpAny (model PySem.Challenge.rw_ez0045_01.row.prog w) A (call (.ref 84) [vt, .ref a]) (fun r s' => Keeps s s' ∧ r = .bool false) E s := by
  obtain ⟨X, T⟩ := G
  revert X; k_fill; intro X
  refine callC' (binds := [(Str.ofString "told", vt), (Str.ofString "tree", .ref a)]) (fun L => [(Str.ofString "tree", L + 2), (Str.ofString "told", L + 1)]) (fun _ => none) (fun y => if y = Str.ofString "tree" then some (.ref a) else if y = Str.ofString "told" then some vt else none) hA.room (X 84 _ rfl) rfl T.nolimit (codeRec_of X (by rfl)) (BindsTo.of_eq rfl) (by rfl) (by decide) rfl rfl rfl
    (fun _ => rfl) (fun _ => rfl) (fun _ => rfl) fun L h₁ tk cells F N Y => ?_
  obtain ⟨om, ot, rfl, hom, hot⟩ := Y.two
  replace hom : om.data = .cell (some (.ref a)) := hom
  replace hot : ot.data = .cell (some vt) := hot
  clear Y
  w_on
  have hh : A.handled = none := hA.hd
  have hcm : h₁.IsCell (L + 2) (some (.ref a)) := ⟨om, (N _ (.head _)).1, hom⟩
  have hct : h₁.IsCell (L + 1) (some vt) := ⟨ot, (N _ (.tail _ (.head _))).1, hot⟩
  have hun : A.units + 3 < cLine := by have := hA.un; omega
  obtain ⟨oa, ds, ep, hoa, hca, hdd⟩ := dict_obj hv
  cases y with
  | leaf l =>
    obtain ⟨hl, ho⟩ := hy
    cases l with
    | none =>
      cases (show vt = .none from hl)
      k_steps
      exact ⟨_, _, rfl, F.keep⟩
    | int i =>
      obtain ⟨t, rfl⟩ := hl
      k_steps
      exact ⟨_, _, rfl, F.keep⟩
    | str x =>
      obtain ⟨t, rfl⟩ := hl
      k_steps
      exact ⟨_, _, rfl, F.keep⟩
  | dict kvs => exact absurd rfl (hn kvs)
  | list ys d =>
    obtain ⟨_, b, us, es, rfl, hu, _⟩ := hy
    obtain ⟨o, ho, hc, _⟩ := id hu
    k_steps
    exact ⟨_, _, rfl, F.keep⟩

set_option maxHeartbeats 4000000 in
theorem part_dict {α β : Type} {R : Rl α} {R' : Rl β} {low : β → Prop} {part : β → α → Bool} {k : Nat} (hR : Mono R) (hR' : Mono R') (ih : PartOk w p loose mean mg mb R' R low part k)
    {A : Around} {s : Shared} {vt v : Value} {tks : List (Str × β)} {kvs : List (Str × α)} {E : Value → Shared → Prop} (hA : Am (k + 5) A) (G : Gd w p loose mean mg mb s.heap) (hsy : ∃ m, s.heap.Ns sysModules m) (hy : TContIs w R' s.heap vt (.dict tks)) (hlow : ∀ q ∈ tks, low q.2) (hx : ContIs w R s.heap v (.dict kvs)) :
    wpAny (model PySem.Challenge.rw_ez0045_01.row.prog w) A (call (.ref 84) [vt, v]) (fun r s' => Keeps s s' ∧ r = .bool (tks.all fun q => match at? kvs q.1 with | some x => part q.2 x | none => false)) E s := by
  obtain ⟨X, T⟩ := G
  revert X; k_fill; intro X
  refine callC' (binds := [(Str.ofString "told", vt), (Str.ofString "tree", v)]) (fun L => [(Str.ofString "tree", L + 2), (Str.ofString "told", L + 1)]) (fun _ => none) (fun y => if y = Str.ofString "tree" then some v else if y = Str.ofString "told" then some vt else none) hA.room (X 84 _ rfl) rfl T.nolimit (codeRec_of X (by rfl)) (BindsTo.of_eq rfl) (by rfl) (by decide) rfl rfl rfl
    (fun _ => rfl) (fun _ => rfl) (fun _ => rfl) fun L h₁ tk cells F N Y => ?_
  obtain ⟨om, ot, rfl, hom, hot⟩ := Y.two
  replace hom : om.data = .cell (some v) := hom
  replace hot : ot.data = .cell (some vt) := hot
  clear Y
  w_on
  have hh : A.handled = none := hA.hd
  have hcm : h₁.IsCell (L + 2) (some v) := ⟨om, (N _ (.head _)).1, hom⟩
  have hct : h₁.IsCell (L + 1) (some vt) := ⟨ot, (N _ (.tail _ (.head _))).1, hot⟩
  have hun : A.units + 3 < cLine := by have := hA.un; omega
  obtain ⟨h3, hks, a, es, rfl, hsm, hda, hp⟩ := hx
  obtain ⟨hy3, hyk, b, fs, rfl, hsb, hdb, hpb⟩ := hy
  obtain ⟨oa, dsa, epa, hoa, hca, _⟩ := dict_obj hda
  obtain ⟨ob, dsb, epb, hob, hcb, _⟩ := dict_obj hdb
  k_steps
  unfold Mine.Stop
  rename Fr _ _ _ _ => F2
  rename News _ _ _ _ => N2
  refine comp_keys (R := R') (fun (q : Str × β) r => r = .bool (match at? kvs q.1 with | some x => part q.2 x | none => false)) (es := fs) (kvs := tks) hR' hh (dictOf_keeps hdb F2.keep) (hpb.mono fun e q he => ⟨he.1, hR' _ _ _ _ F2.keep he.2⟩) hsb (by omega) (by rfl) (by decide) rfl (by decide) rfl ?_
  refine nameX_C N2 rfl (.tail _ (.head _)) hot ?_
  refine ⟨rfl, fun _ _ e => e, ?_, ?_⟩
  · intro C s₃ m₃ t u q E' hC hn hm hmem hRy hq hk₃
    have kk : ∀ b o, s.heap.get? b = some o → s₃.heap.get? b = some o := fun b o e => hk₃ b o (F2.keep b o e)
    have G₃ : Gd w p loose mean mg mb s₃.heap := (Gd.mk X T).keeps kk
    have hp3 := hp.mono fun (e : Str × Value) (q : Str × α) he => (⟨he.1, hR _ _ _ _ kk he.2⟩ : e.1 = q.1 ∧ R s₃.heap e.2 q.2)
    refine part_elt (mg := mg) (a := a) (b := b) (c1 := L + 1) (c2 := L + 2) (key := q.1) (tk := t) (u := u) (es := es) (fs := fs) (by rfl) (by rfl) hn hm (by rfl) (by rfl) ⟨om, hk₃ _ _ (N2 _ (.head _)).1, hom⟩ (by rfl) (by rfl) ⟨ot, hk₃ _ _ (N2 _ (.tail _ (.head _))).1, hot⟩ (by rfl) G₃.T.g (mg_of G₃.X G₃.T.g (by rfl)) (G₃.X 84 _ rfl) rfl (dictOf_keeps hda kk) (dictOf_keeps hdb kk) hsm hmem ?_ ?_
    · intro hno tk'
      have e := at_none hp3 hno
      refine ⟨?_, ⟨_, _, rfl, fun _ _ e => e⟩⟩
      show Value.bool false = _
      rw [e]
    · intro v' hmv hv' tk'
      obtain ⟨x, e, hRx⟩ := at_some hp3 hv'
      refine wpAny_mono (ih _ _ _ _ q.2 x _ ((hA.deeper _).less (by omega)) G₃ (hsy.imp fun _ hm => hm.keeps kk) hRy (hlow q hq) hRx) (fun r s₄ h₄ => ?_) fun _ _ e => e
      obtain ⟨⟨h4, tk4, rfl, k4⟩, rfl⟩ := h₄
      exact ⟨by show _ = Value.bool _; rw [e], _, _, rfl, k4⟩
  · intro D h' tk' rs hDn hD hG hk'
    have hI := boolsAre_of hG
    have F3 := F2.keeps hk'
    have N3 := N2.grown hk'
    clear F2 N2
    k_steps
    refine LSm.all_bools F3 N3 hh hD hI fun h3 tk3 F4 N4 => ?_
    clear F3 N3
    k_steps
    · exact ⟨_, _, rfl, F4.keep⟩
    · show Value.bool _ = Value.bool _
      rw [List.all_map]; rfl
end Mine

end PartMPartE

section PartMPartF
open PySem PySem.W PyProof.Rows PySem.Calls
namespace Mine
variable {w : World} {p : Program} {loose : List Str} {mean : ExcName → Option Value} {mg mb : Str → Option Value}

theorem text_cont {h₀ : Heap} {a : Addr} {d : PyData} {as : List Addr} (r : Reads h₀ (.ref a) d as) (hs : d.showable = true) (hsm : sysModules ∉ as) (hd : d.depth ≤ 10) (hsz : d.shown.length ≤ sizeLine) : TextIs w h₀ (.ref a) d.shown := by
  intro A s Q E hg hu hk h
  exact str_of_reads r hs (fun _ => hsm) hg (by omega) hk h hsz
theorem txtL_size {l : Leaf} (ho : TLeafOk l) : (txtL l).length ≤ sizeLine := by
  rw [sizeLine_eq]
  cases l with
  | none => decide
  | int i =>
    have h2 := len_str_of_int i
    obtain ⟨h3, h4⟩ : -100 ≤ i ∧ i < 2900 := ho
    show (Str.ofString (toString i)).length ≤ _
    omega
  | str x => have := ho.1; show x.cps.size ≤ _; omega
theorem part_step {α β : Type} {R : Rl α} {R' : Rl β} {f : α → Int} {low : β → Prop} {part : β → α → Bool} {k n B : Nat} (hR : Mono R) (hR' : Mono R') (hne : ItemNe R') (hrd : Rd R' low n B) (hB : 3000 ≤ B) (hB2 : 6 * B + 100 ≤ sizeLine) (hn : n + 1 ≤ 10)
    (hW : WeightOk w p loose mean mg mb R f k) (ih : PartOk w p loose mean mg mb R' R low part k) : PartOk w p loose mean mg mb (TContIs w R') (ContIs w R) (lowT low) (partC part f) (k + 5) := by
  intro A s vt v y x E hA G hsy hy hl hx
  cases x with
  | leaf l =>
    obtain ⟨hx, ho⟩ := hx
    by_cases hstr : ∃ z, l = .str z
    · obtain ⟨z, rfl⟩ := hstr
      obtain ⟨tz, rfl⟩ := hx
      by_cases hy2 : ∃ t, y = .leaf (.str t)
      · obtain ⟨t, rfl⟩ := hy2
        obtain ⟨⟨tt, rfl⟩, hot⟩ := hy
        exact part_ss (k := k + 4) hA G hot.1 ho.1
      · have e : partC part f y (.leaf (.str z)) = false := by
          cases y with
          | leaf l' =>
            cases l' with
            | str t => exact absurd ⟨t, rfl⟩ hy2
            | _ => rfl
          | _ => rfl
        rw [e]
        exact part_xs (k := k + 4) hR' hA G hy (fun t e => hy2 ⟨t, e⟩) ho.1
    · have hns : ∀ t, l ≠ .str t := fun t e => hstr ⟨t, e⟩
      by_cases hy2 : ∃ l', y = .leaf l'
      · obtain ⟨l', rfl⟩ := hy2
        have hy' := hy
        obtain ⟨hy1, hot⟩ := hy'
        refine part_lf (k := k + 3) hR' hA G hy hx ho hns (text_leaf hy1 fun i e => ?_) (txtL_size hot) fun e => ?_
        · subst e
          exact smallLog hot
        · cases l with
          | str t => exact absurd rfl (hns t)
          | none => show (eqLeaf _ _ || _) = _; rw [e]; exact Bool.false_or _
          | int i => show (eqLeaf _ _ || _) = _; rw [e]; exact Bool.false_or _
      · obtain ⟨a, d, as, rfl, q1, q2, q3, q4, q5, c, hc, hcm⟩ := cont_rd hrd hB hsy hy hl fun l e => hy2 ⟨l, e⟩
        refine part_lf (k := k + 3) hR' hA G hy hx ho hns (text_cont q1 q2 q3 (by omega) (by omega)) (by omega) fun e => ?_
        rw [no_slice ho hns hc hcm]
        cases y with
        | leaf l' => exact absurd ⟨l', rfl⟩ hy2
        | list ys d =>
          cases l with
          | str t => exact absurd rfl (hns t)
          | none => rfl
          | int i => rfl
        | dict ys =>
          cases l with
          | str t => exact absurd rfl (hns t)
          | none => rfl
          | int i => rfl
  | list xs =>
    by_cases hy2 : ∃ ys d, y = .list ys d
    · obtain ⟨ys, d, rfl⟩ := hy2
      exact part_list hR hR' hne hW ih hA G hsy hy hl hx
    · have e : partC part f y (.list xs) = false := by
        cases y with
        | list ys d => exact absurd ⟨ys, d, rfl⟩ hy2
        | _ => rfl
      rw [e]
      obtain ⟨_, a, vs, rfl, hv, _⟩ := hx
      exact part_nl (k := k + 4) hR' hA G hy (fun t d e => hy2 ⟨t, d, e⟩) hv
  | dict kvs =>
    by_cases hy2 : ∃ ys, y = .dict ys
    · obtain ⟨ys, rfl⟩ := hy2
      exact part_dict hR hR' ih hA G hsy hy (fun q hq => (hl q hq).2) hx
    · have e : partC part f y (.dict kvs) = false := by
        cases y with
        | dict ys => exact absurd ⟨ys, rfl⟩ hy2
        | _ => rfl
      rw [e]
      obtain ⟨_, _, a, vs, rfl, _, hv, _⟩ := hx
      exact part_nd (k := k + 4) hR' hA G hy (fun t e => hy2 ⟨t, e⟩) hv
end Mine

end PartMPartF

section PartMShrL
open PySem PySem.W PyProof.Rows PySem.Calls
local macro_rules | `(tactic| walk_at "eval ListComp") => `(tactic| refine Mine.stop_ ?_)
local macro_rules | `(tactic| walk_at "call builtin:len") => `(tactic| ((with_reducible show wpAny _ _ (call (Value.builtin "len") [Value.str _ _]) _ _ _); refine len_str (by assumption) ?_))
local macro_rules | `(tactic| walk_at "subscriptTail") => `(tactic| ((with_reducible show wpAny _ _ (subscriptTail _ _ (Value.ref _) (Value.str _ _)) _ _ _); refine Mine.item_dict (by assumption) (by assumption) ?_ (by with_unfolding_all rfl) (by intro _; with_unfolding_all rfl)))
local macro_rules | `(tactic| walk_at "call ref") => `(tactic| refine Mine.stop_ ?_)
local macro_rules | `(tactic| walk_at "eval Name") => `(tactic| ((with_reducible show wpAny _ _ (eval (Expr.Name _ _) (compEnvC _ _ _ _)) _ _ _); first
  | (refine Mine.cname_L (by assumption) (by assumption) ?_ (by rfl) (by rfl) (by decide))
  | (refine Mine.cname_C (by rfl) (by assumption) ?_ (by rfl) (by rfl) (by decide))
  | (refine Mine.cname_K (by assumption) (by rfl) ?_ (by rfl) (by rfl) (by rfl) (by decide))
  | (refine Mine.cname_B (by assumption) (by rfl) (by boot_by_name) (by decide) ?_ (by rfl) (by rfl) (by rfl) (by rfl) (by decide))))
namespace Mine
variable {w : World} {p : Program} {loose : List Str} {mean : ExcName → Option Value} {mg mb : Str → Option Value}

local macro_rules | `(tactic| walk_at "assign Tuple") => `(tactic| ((with_reducible show wpAny _ _ (assign (Expr.Tuple _ _ _) _ (Value.ref _)) _ _ _); refine unpackN_ (by assumption) (by assumption) (by assumption) (by assumption) (by rfl) (by rfl) ?_; intro h' F' N'))
local macro_rules | `(tactic| walk_at "eval Lambda") => `(tactic| refine Mine.stop_ ?_)
local macro_rules | `(tactic| walk_at "call builtin:sorted") => `(tactic| refine Mine.stop_ ?_)
local macro_rules | `(tactic| walk_at "call builtin:min") => `(tactic| (refine min_two_N (by assumption) (by assumption) (by assumption) ?_; intro h' tk' F' N'))
local macro_rules | `(tactic| walk_at "compareOp IsNot") => `(tactic| (refine Mine.isNot_none (by assumption) ?_))
local macro_rules | `(tactic| walk_at "exec For Tuple Name") => `(tactic| refine Mine.stop_ ?_)

local macro_rules | `(tactic| walk_at "truthy ref") => `(tactic| refine Mine.stop_ ?_)
def shrLJ {α β : Type} (R' : Rl β) (nb : β → Bool) (any : α → Int → Bool) (part : β → α → Bool) (bare : β → Int) (h₀ : Heap) (os : List α) (m : Int) (tm tb : Tok) (ps : Array Value) (acc : Addr) (i : Nat) (mm : Str → Option Value) (news : List (Addr × Obj)) : Prop :=
  ∃ (ys : List β) (cs : List Value) (tot : Int) (tkt : Tok) (psc : Array Value) (n : Nat) (ownC : List (Addr × Obj)), mm (Str.ofString "shrunk_list") = some (.ref acc) ∧ mm (Str.ofString "total_weight") = some (.int tot tkt) ∧ mm (Str.ofString "max_weight") = some (.int m tm) ∧ mm (Str.ofString "balance_threshold") = some (.int 1 tb) ∧
    news = (44, tabObj psc) :: (acc, W.listOf cs.toArray n) :: ownC ∧ (∀ p ∈ ownC, p.1 ≠ acc ∧ p.1 ≠ 44) ∧ TabStep ps psc ownC ∧ Paired (fun c y => Via R' h₀ ownC c y) cs ys ∧ LInv nb any part bare os m i ys tot
def shrLB {α β : Type} (R' : Rl β) (any : α → Int → Bool) (part : β → α → Bool) (bare : β → Int) (h₀ : Heap) (os : List α) (m : Int) (ps : Array Value) (acc : Addr) (mm : Str → Option Value) (news : List (Addr × Obj)) : Prop :=
  ∃ (ys : List β) (cs : List Value) (tot : Int) (tkt td : Tok) (psc : Array Value) (n : Nat) (ownC : List (Addr × Obj)), mm (Str.ofString "shrunk_list") = some (.ref acc) ∧ mm (Str.ofString "total_weight") = some (.int tot tkt) ∧
    news = (44, tabObj psc) :: (acc, W.listOf (cs ++ [Value.str dotsS td]).toArray n) :: ownC ∧ (∀ p ∈ ownC, p.1 ≠ acc ∧ p.1 ≠ 44) ∧ TabStep ps psc ownC ∧ Paired (fun c y => Via R' h₀ ownC c y) cs ys ∧ LBrk any part bare os m ys tot

set_option maxHeartbeats 4000000 in
theorem shr_list {α β : Type} {S : Rl α} {R' : Rl β} {f : α → Int} {nb : β → Bool} {any : α → Int → Bool} {part : β → α → Bool} {bare : β → Int} {k : Nat} (hS : Mono S) (hnb : ∀ h v y, R' h v y → (nb y = true ∧ v = .none) ∨ (nb y = false ∧ Shape v))
    (ih : ShrOk w p loose mean mg mb S R' (PJ nb any part bare) k) (xs : List α) : ShrAt w p loose mean mg mb (StC w S f) (TContIs w R') (PJ isN (anyC any) (partC part f) (bareC bare)) (k + 5) (.list xs) := by
  intro A s v m tm tb ps h₀ fr E hA hF G C hk0 hn0 hf0 h4f h44 hT hx hm
  obtain ⟨Xs, Ts⟩ := G.keeps hk0
  have B := bas_of fr h4f s.heap
  have hgs : ∀ b o, (hideAll s.heap [44]).get? b = some o → s.heap.get? b = some o := fun b o e => of_hideAll _ e
  generalize hideAll s.heap [44] = g at B hgs
  have hkg := B.sub hk0 hn0 hf0
  obtain ⟨X, T⟩ := G.keeps hkg
  have Cg := C.keeps hkg
  have hTg := B.ok h44 hF.ns hT
  revert Xs X; k_fill; intro Xs X
  refine callFH (binds := [(Str.ofString "node_structure", v), (Str.ofString "max_weight", .int m tm), (Str.ofString "balance_threshold", .int 1 tb)]) (fun y => if y = Str.ofString "balance_threshold" then some (.int 1 tb) else if y = Str.ofString "max_weight" then some (.int m tm) else if y = Str.ofString "node_structure" then some v else none) hA.room (Xs 49 _ rfl) rfl Ts.nolimit (codeRec_of Xs (by rfl)) (BindsTo.of_eq rfl) (by rfl) rfl rfl rfl
    (fun _ => rfl) (fun _ => rfl) fun L h₁ tk F0 N0 => ?_
  have F := B.fr' hgs F0
  have N := B.news h44 F0
  have hL0 : ∀ b ∈ L :: fr, h₀.get? b = none := fun b hb => (List.mem_cons.mp hb).elim (fun e => e ▸ frame_new hk0 F0) (hf0 b)
  have hL4 : 44 ∉ L :: fr := fun hb => (List.mem_cons.mp hb).elim (fun e => (N _ (.head _)).2.1 e) h4f
  clear Xs Ts N0
  w_on
  have hh : A.handled = none := hA.hd
  obtain ⟨h3, t, tk, a, vs, rfl, ht, hv, hp⟩ := hx
  have htup : IsTup h₁ t _ := isTuple_keeps ht fun b o e => F.keep _ _ (hkg _ _ e)
  refine wpH_execs_consA ?_
  refine hideQ fun K hK => ?_
  k_steps
  refine Mine.go_ (hK _ _ (Mine.go_ ?_))
  clear hK K
  try dsimp only
  refine wpH_execs_cons ?_
  refine wpH_If ?_
  refine hideQ fun K hK => ?_
  k_steps
  refine Mine.go_ (hK _ _ (Mine.go_ ?_))
  clear hK K
  try dsimp only
  rw [if_neg (by decide)]
  refine wpH_execs_one ?_
  refine wpH_If ?_
  refine hideQ fun K hK => ?_
  k_steps
  refine Mine.go_ (hK _ _ (Mine.go_ ?_))
  clear hK K
  try dsimp only
  rw [if_neg (by decide)]
  refine wpH_execs_one ?_
  refine wpH_If ?_
  refine hideQ fun K hK => ?_
  k_steps
  refine Mine.go_ (hK _ _ (Mine.go_ ?_))
  clear hK K
  try dsimp only
  rw [if_pos (by decide)]
  refine wpH_execs_consA ?_
  refine hideQ fun K hK => ?_
  k_steps
  refine Mine.go_ (hK _ _ (Mine.go_ ?_))
  clear hK K
  try dsimp only
  refine wpH_execs_consA ?_
  refine hideQ fun K hK => ?_
  k_steps
  refine Mine.go_ (hK _ _ (Mine.go_ ?_))
  clear hK K
  try dsimp only
  refine wpH_execs_consA ?_
  refine hideQ fun K hK => ?_
  k_steps
  unfold Mine.Stop
  rename Fr _ _ _ _ => F2
  rename News _ _ _ _ => N2
  rename Addr => acc
  have N3 : News g L _ [(44, tabObj ps), (acc, W.listOf #[] 0)] := fun p hp => N2 p (by
    rcases List.mem_cons.mp hp with rfl | hp
    · exact .tail _ (.head _)
    · rw [List.mem_singleton.mp hp]; exact .head _)
  have ha44 : acc ≠ 44 := by
    rintro rfl
    have h1 := (N3 _ (.head _)).1
    rw [(N3 _ (.tail _ (.head _))).1] at h1
    cases h1
  refine kla_eval rfl ?_
  refine lam_make F2 N3 T Cg (fun q hq => by rw [List.mem_singleton.mp hq]; exact ha44) rfl hTg rfl ?_
  clear F2 N2 N3
  intro fl c' ctv ps1 own1 h2 tk2 pm F3 N3 hst1 hown1 hrec1 hf44 hfo
  k_steps
  unfold Mine.Stop
  rename Fr _ _ _ _ => F4
  rename News _ _ _ _ => N4
  have hvg : Heap.IsList _ a (List.toArray vs) := isList_keeps hv fun b o e => F4.keep b o (hkg _ _ e)
  refine sorted_rev (kz := xs.map f) F4 N4 hvg (by rw [List.length_map, hp.length]) (by rw [hp.length]; exact h3) (ksk_s2 _ _ _) (fun x => ksk_l2 _ _ _) (fun x => ksk_t2 _ _ _) ?_ ?_
  · intro i v' n s' hi hn F' N'
    obtain ⟨y, hy, t', t1, t2, c, rfl, htt, hc⟩ := Paired.at' hp i v' hi
    have htt' : IsTup s'.heap t' _ := isTuple_keeps htt fun b o e => F'.keep _ _ (hkg _ _ e)
    have hn' : f y = n := by rw [List.getElem?_map, hy] at hn; cases hn; rfl
    refine callLam1 (v := .ref t') (Str.ofString "x") ?_ (N' _ (.head _)).1 rfl (T.nolimit.keeps F'.keep) (hrec1 _ F'.keep fun p hp => (N' _ (.tail _ (.tail _ (List.mem_append_left _ hp)))).1) rfl rfl (by decide) rfl rfl rfl ?_
    · have := hA.dp; show A.depth + 1 < _; omega
    · intro L6 h6 tk6 F6 N6
      have htt6 : IsTup h6 t' _ := isTuple_keeps htt fun b o e => F6.keep _ _ (F'.keep _ _ (hkg _ _ e))
      clear htt'
      k_steps
      · exact ⟨_, _, rfl, F6.keep⟩
      · rw [Int.zero_add, hn']
  · intro D c h' tk' F5 N5 hD
    clear F4 N4 hvg
    k_steps
    refine hK _ _ (Mine.go_ ?_)
    clear hK K
    try dsimp only
    rename Fr _ _ _ _ => F6
    rename News _ _ _ _ => N6
    have h3' : (ordX f xs).length = xs.length := ord_len h3
    have hpo := ord_paired (wt := f) hp h3
    have hD44 : D ≠ 44 := Nat.ne_of_gt (hD _ (.tail _ (.head _)))
    have hDacc : D ≠ acc := Nat.ne_of_gt (hD _ (.tail _ (.tail _ (List.mem_append_right _ (.head _)))))
    have hfacc : fl ≠ acc := fun e => hfo _ (List.mem_append_right _ (.head _)) e.symm
    have hoacc : ∀ p ∈ own1, p.1 ≠ acc := by
      intro p hp e
      have h1 := (N6 p (.tail _ (.tail _ (.tail _ (List.mem_append_left _ hp))))).1
      rw [e, (N6 _ (.tail _ (.tail _ (.tail _ (List.mem_append_right _ (.head _)))))).1] at h1
      have h2 := Option.some.inj h1
      obtain ⟨_, vs0, hd0⟩ := hown1 p hp
      rw [← h2] at hd0
      cases hd0
    refine wpH_execs_cons ?_
    refine for_listH g hh ?_
    k_steps
    unfold Mine.Stop
    refine ⟨D, (ord (xs.map f)).map fun i => vs.getD i Value.none, _, (44, tabObj ps1) :: (acc, W.listOf #[] 0) :: (own1 ++ [(D, W.listOf (List.toArray ((ord (xs.map f)).map fun i => vs.getD i Value.none)) c)]), fun i g' mm news' => Bas fr s.heap g' ∧ shrLJ R' nb any part bare h₀ (ordX f xs) m tm tb ps acc i mm news', fun g' mm news' => Bas fr s.heap g' ∧ shrLB R' any part bare h₀ (ordX f xs) m ps acc mm news', rfl, ⟨_, (N6 _ (.head _)).1, rfl, _, rfl⟩, (N6 _ (.head _)).2.1, (N6 _ (.head _)).2.2, F6, fun p hp => N6 p ?_, ?_, ?_, ?_⟩
    · simp only [List.mem_cons, List.mem_append, List.not_mem_nil, or_false] at hp ⊢
      rcases hp with hp | hp | hp | hp
      · exact .inr (.inr (.inl hp))
      · exact .inr (.inr (.inr (.inr hp)))
      · exact .inr (.inr (.inr (.inl hp)))
      · exact .inl hp
    · refine ⟨B, [], [], 0, _, ps1, 0, _, rfl, rfl, rfl, rfl, rfl, fun p hp => ?_, hst1.sub fun p hp => List.mem_append_left _ hp, .nil, LInv.zero hm⟩
      rcases List.mem_append.mp hp with hp | hp
      · exact ⟨hoacc p hp, (hown1 p hp).1⟩
      · rw [List.mem_singleton.mp hp]; exact ⟨hDacc, hD44⟩
    · rintro g₁ i v' mm news₁ s₂ own hi ⟨B₁, ys, cs, tot, tkt, psc, n, ownC, k1, k2, k3, k4, rfl, hca, hstc, hpc, hI⟩ hnit hown F7 N7 hit
      clear X T hkg hTg Cg
      have hkg := B₁.sub hk0 hn0 hf0
      obtain ⟨X, T⟩ := G.keeps hkg
      have hTg := B₁.ok h44 hF.ns hT
      have hat := Paired.at' hpo i v' hi
      obtain ⟨y, hy, t', t1, t2, cst, hve, htt, hSy⟩ := hat
      subst hve
      have htt7 : IsTup s₂.heap t' _ := isTuple_keeps htt fun b o e => F7.keep _ _ (hkg _ _ e)
      replace F7 : Fr g₁ L s₂.heap mm := F7
      replace N7 : News g₁ L s₂.heap _ := N7
      have F8 := know4 k1 k2 k3 k4 F7
      clear F7
      k_steps
      try unfold Mine.Stop
      refine wpH_execs_consA ?_
      refine hideQ fun K hK => ?_
      k_steps
      refine Mine.go_ (hK _ _ (Mine.go_ ?_))
      clear hK K
      try dsimp only
      refine wpH_execs_cons ?_
      refine wpH_Assign ?_
      refine wpH_Call_def3 ?_
      refine hideQ fun K hK => ?_
      k_steps
      refine Mine.go_ (hK _ _ (Mine.go_ ⟨_, rfl, ?_⟩))
      clear hK K
      try dsimp only
      refine hideQ fun K hK => ?_
      k_steps
      refine Mine.go_ (hK _ _ (Mine.go_ ?_))
      clear hK K
      try dsimp only
      rename Fr _ _ _ _ => F9
      rename News _ _ _ _ => N9
      have hmin : (if m - tot < m * 1 then m - tot else m * 1) = m - tot := by
        have := hI.lo
        split <;> omega
      refine ⟨_, _, F9.keep _ _ (X 49 _ rfl), rfl, ?_⟩
      have N9' : News g₁ L _ ((44, tabObj psc) :: ((acc, W.listOf cs.toArray n) :: (own ++ ownC))) := fun p hp => N9 p (by
        simp only [List.mem_cons, List.mem_append] at hp ⊢
        rcases hp with hp | hp | hp | hp
        · exact .inr (.inl hp)
        · exact .inr (.inr (.inl hp))
        · exact .inl hp
        · exact .inr (.inr (.inr hp)))
      have hit44 : ∀ p ∈ own, p.1 ≠ 44 ∧ p.1 ≠ acc := fun p hp => by
        rcases hown p hp with e | e
        · rw [e]; exact ⟨(hnit _ (.head _)).symm, (hnit _ (.tail _ (.head _))).symm⟩
        · rw [e]; exact ⟨hD44, hDacc⟩
      have hrest44 : ∀ p ∈ (acc, W.listOf cs.toArray n) :: (own ++ ownC), p.1 ≠ 44 := fun p hp => by
        simp only [List.mem_cons, List.mem_append] at hp
        rcases hp with hp | hp | hp
        · rw [hp]; exact ha44
        · exact (hit44 p hp).1
        · exact (hca p hp).2
      have hTcur := TabStep.ok (hTg.mono F9.keep) hstc fun p hp => (N9' p (.tail _ (.tail _ (List.mem_append_right _ hp)))).1
      refine wpH_mono (ih y _ _ _ (if m - tot < m * 1 then m - tot else m * 1) _ tb psc h₀ (L :: fr) _ ((hA.deeper _).less (by omega)) (hF.deeper B₁ F9 rfl (fun e => by cases e)) G C (fun b o e => F9.keep _ _ (hkg _ _ e)) hn0 hL0 hL4 (N9' _ (.head _)).1 hTcur hSy (by rw [hmin]; have := hI.hi; omega)) (fun r s₅ h₅ => ?_) fun _ _ e => e
      unfold Mine.Done at h₅
      obtain ⟨own', ps2, h5, tkk, t5, o5, c5, n5, tk5, k5, y5, rfl, kk, h544, hst2, hnew, rfl, hmem, hcls, hdat, hvia, hP⟩ := h₅
      rw [hmin] at hP
      obtain ⟨g₂, B₂, F10, hgn, _⟩ := B₁.step hF.ns F9 N9' kk
      obtain ⟨N10, hap44, hap⟩ := news44 B₁ hF.ns F9 N9' hgn kk h544 hrest44 hnew
      clear X T hkg
      have hkg := B₂.sub hk0 hn0 hf0
      obtain ⟨X, T⟩ := G.keeps hkg
      have N11 : News g₂ L h5 ((acc, W.listOf cs.toArray n) :: ((44, tabObj ps2) :: (own' ++ (own ++ ownC)))) := fun p hp => N10 p (by
        simp only [List.mem_cons, List.mem_append] at hp ⊢
        rcases hp with hp | hp | hp | hp | hp
        · exact .inr (.inr (.inl hp))
        · exact .inl hp
        · exact .inr (.inl hp)
        · exact .inr (.inr (.inr (.inl hp)))
        · exact .inr (.inr (.inr (.inr hp))))
      have hrest : ∀ p ∈ (44, tabObj ps2) :: (own' ++ (own ++ ownC)), p.1 ≠ acc := fun p hp => by
        simp only [List.mem_cons, List.mem_append] at hp
        rcases hp with hp | hp | hp | hp
        · rw [hp]; exact ha44.symm
        · exact hap p hp _ (.head _)
        · exact (hit44 p hp).2
        · exact (hca p hp).1
      have htup5 : IsTup h5 t5 #[c5, .int n5 tk5] := ⟨o5, (hnew _ hmem).1, hcls, _, hdat⟩
      have hv5 := hvia h5 (fun b o e => F10.keep _ _ (hkg _ _ e)) fun p hp => (hnew p hp).1
      clear F9 N9 N9' N10 htt7 htup
      have hsz : cs.toArray.size ≤ sizeLine := by
        have h1 := (List.getElem?_eq_some_iff.mp hy).1
        rw [List.size_toArray, hpc.length, sizeLine_eq]; have := hI.len; omega
      obtain ⟨io, hio, hioc⟩ := hit
      have hni' : ∀ p ∈ own', p.1 ≠ _ := fun p hp => hap p hp _ (.tail _ (List.mem_append_left _ hio))
      have hnw2 : ∀ (lo : Obj) (p : Addr × Obj), p ∈ (44, tabObj ps2) :: (acc, lo) :: (ownC ++ own') → p.1 ∉ [_] := fun lo p hp hm => by
        have hm := List.mem_singleton.mp hm
        simp only [List.mem_append, List.mem_cons] at hp
        rcases hp with hp | hp | hp | hp
        · rw [hp] at hm; exact hnit _ (.head _) hm
        · rw [hp] at hm; exact hnit _ (.tail _ (.head _)) hm
        · exact hnit _ (.tail _ (.tail _ hp)) hm
        · exact hni' p hp hm
      have hord : ∀ (lo : Obj) (hZ : Heap), News g₂ L hZ ((acc, lo) :: ((44, tabObj ps2) :: (own' ++ (own ++ ownC)))) → News g₂ L hZ (own ++ ((44, tabObj ps2) :: (acc, lo) :: (ownC ++ own'))) := fun lo hZ NZ p hp => NZ p (by
        simp only [List.mem_cons, List.mem_append] at hp ⊢
        rcases hp with hp | hp | hp | hp | hp
        · exact .inr (.inr (.inr (.inl hp)))
        · exact .inr (.inl hp)
        · exact .inl hp
        · exact .inr (.inr (.inr (.inr hp)))
        · exact .inr (.inr (.inl hp)))
      have hca2 : ∀ p ∈ ownC ++ own', p.1 ≠ acc ∧ p.1 ≠ 44 := fun p hp => by
        rcases List.mem_append.mp hp with hp | hp
        · exact hca p hp
        · exact ⟨hap p hp _ (.head _), hap44 p hp⟩
      have hst3 : TabStep ps ps2 (ownC ++ own') := (hstc.sub fun p hp => List.mem_append_left _ hp).trans (hst2.sub fun p hp => List.mem_append_right _ hp)
      have hpc2 : Paired (fun c y => Via R' h₀ (ownC ++ own') c y) cs ys := hpc.mono fun c z hz => hz.sub fun p hp => List.mem_append_left _ hp
      have hol : (ordX f xs).length ≤ 3 := by rw [h3']; exact h3
      rcases hnb _ _ _ hv5 with ⟨hb, rfl⟩ | ⟨hb, hc5⟩
      · refine hideQ fun K hK => ?_
        k_steps
        refine Mine.go_ (hK _ _ (Mine.go_ (wpH_of ?_)))
        clear hK K
        try dsimp only
        refine hideQ fun K hK => ?_
        k_steps
        · rename m - 1 ≤ tot => hge
          rename Fr _ _ _ _ => FA
          rename News _ _ _ _ => NA
          refine append_head FA NA hrest ?_ (hsz := hsz)
          intro hZ FZ NZ
          rw [List.push_toArray] at NZ
          k_steps
          exact Mine.go_ (hK _ _ ⟨g₂, _, _, _, _, rfl, FZ, (hord _ _ NZ).right, B₂, ys, cs, tot, _, _, ps2, _, _, rfl, rfl, rfl, hca2, hst3, hpc2, hI.skip_brk hol hy hge⟩)
        · rename ¬ m - 1 ≤ tot => hlt
          rename Fr _ _ _ _ => FZ
          rename News _ _ _ _ => NZ
          exact Mine.go_ (hK _ _ ⟨g₂, _, _, _, _, rfl, FZ, hord _ _ NZ, hnw2 _, B₂, ys, cs, tot, _, ps2, _, _, rfl, rfl, rfl, rfl, rfl, hca2, hst3, hpc2, hI.skip hy hP hb hlt⟩)
      · refine hideQ fun K hK => ?_
        k_steps
        refine Mine.go_ (hK _ _ (Mine.go_ (wpH_of ?_)))
        clear hK K
        try dsimp only
        refine hideQ fun K hK => ?_
        k_steps
        rename Fr _ _ _ _ => FA
        rename News _ _ _ _ => NA
        refine append_head FA NA hrest ?_ (hsz := hsz)
        intro hZ FZ NZ
        rw [List.push_toArray] at NZ
        clear FA NA
        have hpc3 : Paired (fun c y => Via R' h₀ (ownC ++ own') c y) (cs ++ [c5]) (ys ++ [y5]) := Paired.append hpc2 (.cons (hvia.sub fun p hp => List.mem_append_right _ hp) .nil)
        have hsz2 : (cs ++ [c5]).toArray.size ≤ sizeLine := by
          rw [List.size_toArray, List.length_append, List.length_singleton]
          rw [List.size_toArray] at hsz
          have h1 := (List.getElem?_eq_some_iff.mp hy).1
          rw [hpc.length, sizeLine_eq]; have := hI.len; omega
        k_steps
        · rename m - 1 ≤ _ => hge
          rename Fr _ _ _ _ => FA
          rename News _ _ _ _ => NA
          refine append_head FA NA hrest ?_ (hsz := hsz2)
          intro hY FY NY
          rw [List.push_toArray] at NY
          k_steps
          exact Mine.go_ (hK _ _ ⟨g₂, _, _, _, _, rfl, FY, (hord _ _ NY).right, B₂, ys ++ [y5], cs ++ [c5], tot + n5, _, _, ps2, _, _, rfl, rfl, rfl, hca2, hst3, hpc3, hI.keep_brk hol hy hP hb⟩)
        · rename ¬ m - 1 ≤ _ => hlt
          rename Fr _ _ _ _ => FY
          rename News _ _ _ _ => NY
          exact Mine.go_ (hK _ _ ⟨g₂, _, _, _, _, rfl, FY, hord _ _ NY, hnw2 _, B₂, ys ++ [y5], cs ++ [c5], tot + n5, _, ps2, _, _, rfl, rfl, rfl, rfl, rfl, hca2, hst3, hpc3, hI.keep_go hy hP hb hlt⟩)
    · intro g₁ h' tk' mm news' F7 N7 hJ
      replace F7 : Fr g₁ L h' mm := F7
      replace N7 : News g₁ L h' _ := N7
      change Mine.Stop _
      unfold Mine.Stop
      refine wpH_of ?_
      have B₁ : Bas fr s.heap g₁ := hJ.elim (fun x => x.1) fun x => x.1
      clear X T hkg hTg Cg
      have hkg := B₁.sub hk0 hn0 hf0
      obtain ⟨X, T⟩ := G.keeps hkg
      rcases hJ with ⟨_, ys, cs, tot, tkt, psc, n, ownC, k1, k2, k3, k4, rfl, hca, hstc, hpc, hI⟩ | ⟨_, ys, cs, tot, tkt, td, psc, n, ownC, k1, k2, rfl, hca, hstc, hpc, hI⟩
      · have F8 := know2 k1 k2 F7
        clear F7
        k_steps
        have hlen : ((ord (xs.map f)).map fun i => vs.getD i Value.none).length = (ordX f xs).length := hpo.length
        rw [hlen] at hI
        unfold Mine.Stop
        refine kgr_truthy N7 (.tail _ (.head _)) rfl rfl (by have := hpc.length; have := hI.len; omega) ?_
        by_cases hys : ys = []
        · subst hys
          cases hpc
          k_steps
          rename Fr _ _ _ _ => FZ
          rename News _ _ _ _ => NZ
          show Mine.Done _
          unfold Mine.Done
          refine ⟨_, psc, _, _, _, _, _, _, _, _, .leaf .none, rfl, B₁.kept FZ, (NZ _ (.tail _ (.head _))).1, ?_, fin_own B₁ NZ (by intro e; cases e) ?_, rfl, .head _, rfl, rfl, fun _ _ _ => ⟨rfl, trivial⟩, list_none h3 hI⟩
          · exact hstc.sub fun p hp => .tail _ (.tail _ hp)
          · intro p hp
            rcases List.mem_cons.mp hp with rfl | hp
            · exact ha44
            · exact (hca p hp).2
        · have hne : (!cs.isEmpty) = true := by
            cases hpc with
            | nil => exact absurd rfl hys
            | cons _ _ => rfl
          rw [hne]
          k_steps
          rename Fr _ _ _ _ => FZ
          rename News _ _ _ _ => NZ
          show Mine.Done _
          unfold Mine.Done
          refine ⟨_, psc, _, _, _, _, _, _, _, _, .list ys false, rfl, B₁.kept FZ, (NZ _ (.tail _ (.head _))).1, ?_, fin_own B₁ NZ (by intro e; cases e) ?_, rfl, .head _, rfl, rfl, fun hx hk hp => ⟨?_, acc, cs, [], rfl, ⟨_, hp _ (.tail _ (.head _)), rfl, n, by rw [List.append_nil]⟩, hpc.mono fun c y hv => hv hx hk fun p hp' => hp p (.tail _ (.tail _ hp')), rfl⟩, list_end h3 hI hys⟩
          · exact hstc.sub fun p hp => .tail _ (.tail _ hp)
          · intro p hp
            rcases List.mem_cons.mp hp with rfl | hp
            · exact ha44
            · exact (hca p hp).2
          · have := hI.len; omega
      · have F8 := know2 k1 k2 F7
        clear F7
        k_steps
        unfold Mine.Stop
        refine kgr_truthy N7 (.tail _ (.head _)) rfl rfl (by have := hpc.length; have := hI.len; rw [List.length_append, List.length_singleton]; omega) ?_
        have hne : (!(cs ++ [Value.str dotsS td]).isEmpty) = true := by cases cs <;> rfl
        rw [hne]
        k_steps
        rename Fr _ _ _ _ => FZ
        rename News _ _ _ _ => NZ
        show Mine.Done _
        unfold Mine.Done
        refine ⟨_, psc, _, _, _, _, _, _, _, _, .list ys true, rfl, B₁.kept FZ, (NZ _ (.tail _ (.head _))).1, ?_, fin_own B₁ NZ (by intro e; cases e) ?_, rfl, .head _, rfl, rfl, fun hx hk hp => ⟨hI.len, acc, cs, [Value.str dotsS td], rfl, ⟨_, hp _ (.tail _ (.head _)), rfl, n, rfl⟩, hpc.mono fun c y hv => hv hx hk fun p hp' => hp p (.tail _ (.tail _ hp')), ⟨td, rfl⟩⟩, list_brk h3 hI⟩
        · exact hstc.sub fun p hp => .tail _ (.tail _ hp)
        · intro p hp
          rcases List.mem_cons.mp hp with rfl | hp
          · exact ha44
          · exact (hca p hp).2
end Mine

end PartMShrL

section PartMShrD
open PySem PySem.W PyProof.Rows PySem.Calls
local macro_rules | `(tactic| walk_at "no such step 0") => `(tactic| fail)
local macro_rules | `(tactic| walk_at "eval ListComp") => `(tactic| refine Mine.stop_ ?_)
local macro_rules | `(tactic| walk_at "call builtin:len") => `(tactic| ((with_reducible show wpAny _ _ (call (Value.builtin "len") [Value.str _ _]) _ _ _); refine len_str (by assumption) ?_))
local macro_rules | `(tactic| walk_at "subscriptTail") => `(tactic| ((with_reducible show wpAny _ _ (subscriptTail _ _ (Value.ref _) (Value.str _ _)) _ _ _); refine Mine.item_dict (by assumption) (by assumption) ?_ (by with_unfolding_all rfl) (by intro _; with_unfolding_all rfl)))
local macro_rules | `(tactic| walk_at "call ref") => `(tactic| refine Mine.stop_ ?_)
local macro_rules | `(tactic| walk_at "eval Name") => `(tactic| ((with_reducible show wpAny _ _ (eval (Expr.Name _ _) (compEnvC _ _ _ _)) _ _ _); first
  | (refine Mine.cname_L (by assumption) (by assumption) ?_ (by rfl) (by rfl) (by decide))
  | (refine Mine.cname_C (by rfl) (by assumption) ?_ (by rfl) (by rfl) (by decide))
  | (refine Mine.cname_K (by assumption) (by rfl) ?_ (by rfl) (by rfl) (by rfl) (by decide))
  | (refine Mine.cname_B (by assumption) (by rfl) (by boot_by_name) (by decide) ?_ (by rfl) (by rfl) (by rfl) (by rfl) (by decide))))
namespace Mine
variable {w : World} {p : Program} {loose : List Str} {mean : ExcName → Option Value} {mg mb : Str → Option Value}

local macro_rules | `(tactic| walk_at "assign Tuple") => `(tactic| ((with_reducible show wpAny _ _ (assign (Expr.Tuple _ _ _) _ (Value.ref _)) _ _ _); refine unpackN_ (by assumption) (by assumption) (by assumption) (by assumption) (by rfl) (by rfl) ?_; intro h' F' N'))
local macro_rules | `(tactic| walk_at "eval Lambda") => `(tactic| refine Mine.stop_ ?_)
local macro_rules | `(tactic| walk_at "call builtin:sorted") => `(tactic| refine Mine.stop_ ?_)
local macro_rules | `(tactic| walk_at "call builtin:min") => `(tactic| (refine min_two_N (by assumption) (by assumption) (by assumption) ?_; intro h' tk' F' N'))
local macro_rules | `(tactic| walk_at "compareOp IsNot") => `(tactic| (refine Mine.isNot_none (by assumption) ?_))
local macro_rules | `(tactic| walk_at "exec For Tuple Name") => `(tactic| refine Mine.stop_ ?_)

local macro_rules | `(tactic| walk_at "eval Call Attribute") => `(tactic| ((with_reducible show wpAny _ _ (eval (Expr.Call (Expr.Attribute _ _ _) [] [] _) _) _ _ _); refine Mine.stop_ ?_))

theorem slice_full (x : Str) : Txt.slice x none (some (x.length : Int)) = x := by
  have h := eq_of_beq (slice_closes_toL (x := x) (j := x.length) (by omega) (Int.le_refl _))
  rw [h]
  have : (x.cps.toList.drop (0 : Int).toNat).take ((x.length : Int) - 0).toNat = x.cps.toList := by
    have e : x.length = x.cps.toList.length := by show x.cps.size = _; simp
    rw [e]; simp only [Int.sub_zero, Int.toNat_natCast, Int.toNat_zero, List.drop_zero]; exact List.take_of_length_le (Nat.le_refl _)
  rw [this]
theorem dict_cls {pg : Program} {w : World} {o : Obj} {kvs : List (Str × Value)} (h : o.IsDictOf (PySem.strKind pg w) kvs) : o.cls = .type "dict" := by obtain ⟨_, _, hx, _⟩ := h; exact hx.1
theorem stored_fresh {cs : List (Str × Value)} {k : Str} {v : Value} (h : ∀ e ∈ cs, e.1 ≠ k) : stored cs k v = cs ++ [(k, v)] := by
  unfold stored
  rw [if_neg]
  intro hany
  obtain ⟨e, he, hk⟩ := List.any_eq_true.mp hany
  exact h e he (by simpa using hk)
theorem key_fresh {α : Type} {os : List (Str × α)} {i : Nat} {q z : Str × α} (hn : (os.map (·.1)).Nodup) (hq : os[i]? = some q) (hz : z ∈ os.take i) : z.1 ≠ q.1 := by
  intro e
  obtain ⟨j, hj⟩ := List.getElem?_of_mem hz
  have hji : j < i := by
    have := (List.getElem?_eq_some_iff.mp hj).1
    rw [List.length_take] at this; omega
  rw [List.getElem?_take_of_lt hji] at hj
  have h2 := (List.getElem?_eq_some_iff.mp hj).1
  have e1 : (os.map (·.1))[i]? = some q.1 := by rw [List.getElem?_map, hq]; rfl
  have e2 : (os.map (·.1))[j]? = some q.1 := by rw [List.getElem?_map, hj, ← e]; rfl
  have := (List.getElem?_inj (by simpa using h2) hn).mp (e2.trans e1.symm)
  omega
def shrDJ (w : World) {α β : Type} (R' : Rl β) (any : α → Int → Bool) (part : β → α → Bool) (bare : β → Int) (h₀ : Heap) (os : List (Str × α)) (m : Int) (tm tb : Tok) (ps : Array Value) (acc : Addr) (tups : List (Addr × Obj)) (i : Nat) (mm : Str → Option Value) (news : List (Addr × Obj)) : Prop :=
  ∃ (tk : List (Str × β)) (cs : List (Str × Value)) (tot : Int) (tkt : Tok) (psc : Array Value) (oD : Obj) (ownC : List (Addr × Obj)), mm (Str.ofString "shrunk_dict") = some (.ref acc) ∧ mm (Str.ofString "total_weight") = some (.int tot tkt) ∧ mm (Str.ofString "max_weight") = some (.int m tm) ∧ mm (Str.ofString "balance_threshold") = some (.int 1 tb) ∧
    news = (44, tabObj psc) :: (acc, oD) :: ownC ∧ (∀ p ∈ ownC, p.1 ≠ acc ∧ p.1 ≠ 44) ∧ (∀ p ∈ tups, p ∈ ownC) ∧ TabStep ps psc ownC ∧ oD.IsDictOf (strKind prog w) cs ∧ Paired (fun (e : Str × Value) (p : Str × β) => e.1 = p.1 ∧ Via R' h₀ ownC e.2 p.2) cs tk ∧ DInv any part bare os m i tk tot
def shrDB (w : World) {α β : Type} (R' : Rl β) (any : α → Int → Bool) (part : β → α → Bool) (bare : β → Int) (h₀ : Heap) (os : List (Str × α)) (m : Int) (ps : Array Value) (acc : Addr) (mm : Str → Option Value) (news : List (Addr × Obj)) : Prop :=
  ∃ (tk : List (Str × β)) (cs : List (Str × Value)) (tot : Int) (tkt : Tok) (psc : Array Value) (oD : Obj) (ownC : List (Addr × Obj)), mm (Str.ofString "shrunk_dict") = some (.ref acc) ∧ mm (Str.ofString "total_weight") = some (.int tot tkt) ∧
    news = (44, tabObj psc) :: (acc, oD) :: ownC ∧ (∀ p ∈ ownC, p.1 ≠ acc ∧ p.1 ≠ 44) ∧ TabStep ps psc ownC ∧ oD.IsDictOf (strKind prog w) cs ∧ Paired (fun (e : Str × Value) (p : Str × β) => e.1 = p.1 ∧ Via R' h₀ ownC e.2 p.2) cs tk ∧ DEnd any part bare os m tk tot

set_option maxHeartbeats 4000000 in
theorem shr_dict {α β : Type} {S : Rl α} {R' : Rl β} {f : α → Int} {nb : β → Bool} {any : α → Int → Bool} {part : β → α → Bool} {bare : β → Int} {k : Nat} (hS : Mono S) (hnb : ∀ h v y, R' h v y → (nb y = true ∧ v = .none) ∨ (nb y = false ∧ Shape v))
    (ih : ShrOk w p loose mean mg mb S R' (PJ nb any part bare) k) (kvs : List (Str × α)) : ShrAt w p loose mean mg mb (StC w S f) (TContIs w R') (PJ isN (anyC any) (partC part f) (bareC bare)) (k + 5) (.dict kvs) := by
  intro A s v m tm tb ps h₀ fr E hA hF G C hk0 hn0 hf0 h4f h44 hT hx hm
  obtain ⟨Xs, Ts⟩ := G.keeps hk0
  have B := bas_of fr h4f s.heap
  have hgs : ∀ b o, (hideAll s.heap [44]).get? b = some o → s.heap.get? b = some o := fun b o e => of_hideAll _ e
  generalize hideAll s.heap [44] = g at B hgs
  have hkg := B.sub hk0 hn0 hf0
  obtain ⟨X, T⟩ := G.keeps hkg
  have Cg := C.keeps hkg
  have hTg := B.ok h44 hF.ns hT
  revert Xs X; k_fill; intro Xs X
  refine callFH (binds := [(Str.ofString "node_structure", v), (Str.ofString "max_weight", .int m tm), (Str.ofString "balance_threshold", .int 1 tb)]) (fun y => if y = Str.ofString "balance_threshold" then some (.int 1 tb) else if y = Str.ofString "max_weight" then some (.int m tm) else if y = Str.ofString "node_structure" then some v else none) hA.room (Xs 49 _ rfl) rfl Ts.nolimit (codeRec_of Xs (by rfl)) (BindsTo.of_eq rfl) (by rfl) rfl rfl rfl
    (fun _ => rfl) (fun _ => rfl) fun L h₁ tk F0 N0 => ?_
  have F := B.fr' hgs F0
  have N := B.news h44 F0
  have hL0 : ∀ b ∈ L :: fr, h₀.get? b = none := fun b hb => (List.mem_cons.mp hb).elim (fun e => e ▸ frame_new hk0 F0) (hf0 b)
  have hL4 : 44 ∉ L :: fr := fun hb => (List.mem_cons.mp hb).elim (fun e => (N _ (.head _)).2.1 e) h4f
  clear Xs Ts N0
  w_on
  have hh : A.handled = none := hA.hd
  obtain ⟨h3, hks, t, tk, a, es, rfl, ht, hsm, hd, hp⟩ := hx
  have htup : IsTup h₁ t _ := isTuple_keeps ht fun b o e => F.keep _ _ (hkg _ _ e)
  have hnd : (kvs.map (·.1)).Nodup := by
    obtain ⟨_, hat⟩ := hd.dictAt
    rw [← paired_keys hp]
    exact hat.nodup
  refine wpH_execs_consA ?_
  refine hideQ fun K hK => ?_
  k_steps
  refine Mine.go_ (hK _ _ (Mine.go_ ?_))
  clear hK K
  try dsimp only
  refine wpH_execs_cons ?_
  refine wpH_If ?_
  refine hideQ fun K hK => ?_
  k_steps
  refine Mine.go_ (hK _ _ (Mine.go_ ?_))
  clear hK K
  try dsimp only
  rw [if_neg (by decide)]
  refine wpH_execs_one ?_
  refine wpH_If ?_
  refine hideQ fun K hK => ?_
  k_steps
  refine Mine.go_ (hK _ _ (Mine.go_ ?_))
  clear hK K
  try dsimp only
  rw [if_pos (by decide)]
  refine wpH_execs_consA ?_
  refine hideQ fun K hK => ?_
  k_steps
  refine Mine.go_ (hK _ _ (Mine.go_ ?_))
  clear hK K
  try dsimp only
  refine wpH_execs_consA ?_
  refine hideQ fun K hK => ?_
  k_steps
  refine Mine.go_ (hK _ _ (Mine.go_ ?_))
  clear hK K
  try dsimp only
  refine wpH_execs_consA ?_
  refine hideQ fun K hK => ?_
  k_steps
  unfold Mine.Stop
  rename Fr _ _ _ _ => F2
  rename News _ _ _ _ => N2
  rename Addr => acc
  rename Obj => oD0
  rename Obj.IsDictOf (PySem.strKind _ _) _ _ => hs0
  rename (acc == sysModules) = false => lo0
  have hdg := (show Heap.DictOf (PySem.strKind prog w) _ a es from dictOf_keeps hd fun b o e => F2.keep _ _ (hkg _ _ e))
  refine wpAny_Call_items hsm hdg rfl rfl (fun Q' hq => by k_steps; exact hq) ?_
  have F3 := F2.push { cls := .type "dict_items", data := .fields #[.ref a] }
  have N3 := News.push F2 N2 { cls := .type "dict_items", data := .fields #[.ref a] }
  clear F2 N2
  dsimp only at F3 N3 ⊢
  generalize Heap.push _ { cls := .type "dict_items", data := .fields #[.ref a] } = hv1 at F3 N3 ⊢
  generalize Array.size (Heap.objs _) = vw at N3 ⊢
  k_steps
  unfold Mine.Stop
  have hcl0 := dict_cls hs0
  have ha44 : acc ≠ 44 := ne_of_obj N3 (.tail _ (.head _)) (.tail _ (.tail _ (.head _))) (by rintro rfl; cases hcl0)
  have hw44 : vw ≠ 44 := ne_of_obj N3 (.head _) (.tail _ (.tail _ (.head _))) (by intro e; cases e)
  have hwacc : vw ≠ acc := ne_of_obj N3 (.head _) (.tail _ (.head _)) (by rintro rfl; have h : Value.type _ = Value.type "dict" := hcl0; injection h with h; revert h; decide)
  have N4 : News g L hv1 ((44, tabObj ps) :: [(vw, { cls := .type "dict_items", data := .fields #[.ref a] }), (acc, _)]) := fun p hp => N3 p (by
    simp only [List.mem_cons, List.not_mem_nil, or_false] at hp ⊢
    rcases hp with hp | hp | hp
    · exact .inr (.inr hp)
    · exact .inl hp
    · exact .inr (.inl hp))
  refine kla_eval rfl ?_
  refine lam_make F3 N4 T Cg (fun q hq => by
    simp only [List.mem_cons, List.not_mem_nil, or_false] at hq
    rcases hq with hq | hq
    · rw [hq]; exact hw44
    · rw [hq]; exact ha44) rfl hTg rfl ?_
  clear F3 N3 N4
  intro fl c' ctv ps1 own1 h2 tk2 pm F3 N3 hst1 hown1 hrec1 hf44 hfo
  k_steps
  unfold Mine.Stop
  rename Fr _ _ _ _ => F4
  rename News _ _ _ _ => N4
  have hdg := (show Heap.DictOf (PySem.strKind prog w) _ a es from dictOf_keeps hd fun b o e => F4.keep _ _ (hkg _ _ e))
  obtain ⟨ep, hat⟩ := hdg.dictAt
  refine sorted_items (knd := PySem.strKind prog w) (kz := kvs.map fun q => (q.1.length : Int) + f q.2) (kvs := es) (ep := ep) hh F4 N4 ⟨_, (N4 _ (.tail _ (.tail _ (List.mem_append_right _ (.head _))))).1, rfl, rfl⟩ hat (by rw [List.length_map, hp.length]) (by rw [hp.length]; exact h3) (ksk_s2 _ _ _) (fun x => ksk_l2 _ _ _) (fun x => ksk_t2 _ _ _) ?_ ?_
  · intro i T' k key x n s' hi hn hkey F' N' hT'
    obtain ⟨q, hq, hkq, t', t1, t2, c, rfl, htt, hc⟩ := Paired.at' hp i (k, x) hi
    have htt' : IsTup s'.heap t' _ := isTuple_keeps htt fun b o e => F'.keep _ _ (hkg _ _ e)
    have hn' : (q.1.length : Int) + f q.2 = n := by rw [List.getElem?_map, hq] at hn; cases hn; rfl
    refine callLam1 (v := .ref T') (Str.ofString "x") ?_ (N' _ (.head _)).1 rfl (T.nolimit.keeps F'.keep) (hrec1 _ F'.keep fun p hp => (N' _ (.tail _ (.tail _ (List.mem_append_left _ hp)))).1) rfl rfl (by decide) rfl rfl rfl ?_
    · have := hA.dp; show A.depth + 1 < _; omega
    · intro L6 h6 tk6 F6 N6
      have htt6 : IsTup h6 t' _ := htt'.keeps F6.keep
      have hT6 : IsTup h6 T' _ := hT'.keeps F6.keep
      clear htt' hT'
      k_steps
      · exact ⟨_, _, rfl, F6.keep⟩
      · rw [hn']
  · intro D c h' tk' tups out es' F5 N5 htups hperm hout
    clear F4 N4 hat hdg
    obtain ⟨os, hos, hpo⟩ := paired_perm hperm.symm hp
    k_steps
    refine hK _ _ (Mine.go_ ?_)
    clear hK K
    try dsimp only
    rename Fr _ _ _ _ => F6
    rename News _ _ _ _ => N6
    have hD44 : D ≠ 44 := ne_of_obj N6 (.head _) (.tail _ (List.mem_append_right _ (.tail _ (.head _)))) (by intro e; cases e)
    have hDacc : D ≠ acc := ne_of_obj N6 (.head _) (.tail _ (List.mem_append_right _ (.tail _ (.tail _ (List.mem_append_right _ (.tail _ (.head _))))))) (by rintro rfl; have h : Value.type _ = Value.type "dict" := hcl0; injection h with h; revert h; decide)
    have hoacc : ∀ p ∈ own1, p.1 ≠ acc ∧ p.1 ≠ 44 := fun p hp => by
      obtain ⟨h4, vs0, hd0⟩ := hown1 p hp
      refine ⟨ne_of_obj N6 (.tail _ (List.mem_append_right _ (.tail _ (.tail _ (List.mem_append_left _ hp))))) (.tail _ (List.mem_append_right _ (.tail _ (.tail _ (List.mem_append_right _ (.tail _ (.head _))))))) (fun e => ?_), h4⟩
      obtain ⟨_, _, _, hdd, _⟩ := hs0
      rw [e, hdd] at hd0; cases hd0
    have htacc : ∀ p ∈ tups, p.1 ≠ acc ∧ p.1 ≠ 44 := fun p hp => by
      obtain ⟨key, x, e⟩ := htups p hp
      refine ⟨ne_of_obj N6 (.tail _ (List.mem_append_left _ hp)) (.tail _ (List.mem_append_right _ (.tail _ (.tail _ (List.mem_append_right _ (.tail _ (.head _))))))) (fun e2 => ?_), ne_of_obj N6 (.tail _ (List.mem_append_left _ hp)) (.tail _ (List.mem_append_right _ (.tail _ (.head _)))) (fun e2 => ?_)⟩
      · rw [e] at e2; rw [← e2] at hcl0; have h : Value.type _ = Value.type "dict" := hcl0; injection h with h; revert h; decide
      · rw [e] at e2; cases e2
    have hol : os.length ≤ 3 := by rw [hos.length_eq]; exact h3
    have hndo : (os.map (·.1)).Nodup := (hos.map _).nodup_iff.mpr hnd
    refine wpH_execs_cons ?_
    refine for_listH g hh ?_
    k_steps
    unfold Mine.Stop
    refine ⟨D, out, _, (44, tabObj ps1) :: (acc, oD0) :: (own1 ++ (tups ++ [(D, W.listOf (List.toArray out) c)])), fun i g' mm news' => Bas fr s.heap g' ∧ shrDJ w R' any part bare h₀ os m tm tb ps acc tups i mm news', fun g' mm news' => Bas fr s.heap g' ∧ shrDB w R' any part bare h₀ os m ps acc mm news', rfl, ⟨_, (N6 _ (.head _)).1, rfl, _, rfl⟩, (N6 _ (.head _)).2.1, (N6 _ (.head _)).2.2, F6, fun p hp => N6 p ?_, ?_, ?_, ?_⟩
    · simp only [List.mem_cons, List.mem_append, List.not_mem_nil, or_false] at hp ⊢
      rcases hp with hp | hp | hp | hp | hp
      · exact .inr (.inr (.inr (.inl hp)))
      · exact .inr (.inr (.inr (.inr (.inr (.inr hp)))))
      · exact .inr (.inr (.inr (.inr (.inl hp))))
      · exact .inr (.inl hp)
      · exact .inl hp
    · refine ⟨B, [], [], 0, _, ps1, _, _, rfl, rfl, rfl, rfl, rfl, fun p hp => ?_, fun p hp => List.mem_append_right _ (List.mem_append_left _ hp), hst1.sub fun p hp => List.mem_append_left _ hp, hs0, .nil, DInv.zero hm⟩
      rcases List.mem_append.mp hp with hp | hp
      · exact hoacc p hp
      · rcases List.mem_append.mp hp with hp | hp
        · exact htacc p hp
        · rw [List.mem_singleton.mp hp]; exact ⟨hDacc, hD44⟩
    · rintro g₁ i v' mm news₁ s₂ own hi ⟨B₁, tl, cs, tot, tkt, psc, oD, ownC, k1, k2, k3, k4, rfl, hca, htc, hstc, hD0, hpc, hI⟩ hnit hown F7 N7 hit
      clear X T hkg hTg Cg
      have hkg := B₁.sub hk0 hn0 hf0
      obtain ⟨X, T⟩ := G.keeps hkg
      have hTg := B₁.ok h44 hF.ns hT
      have hat1 := Paired.at' hout i v' hi
      obtain ⟨kv, hkv, T', key, hve, hkey, hTm⟩ := hat1
      subst hve
      have hat2 := Paired.at' hpo i kv hkv
      obtain ⟨⟨qk, qv⟩, hq, hkq, t', t1, t2, cst, ext, htt, hSy⟩ := hat2
      obtain ⟨kk0, vv0⟩ := kv
      dsimp only at hkq ext hkey hTm htt hSy
      subst ext hkq
      obtain ⟨tky, rfl⟩ : ∃ t, key = .str kk0 t := Value.isStrOf_shape hkey
      have htt7 : IsTup s₂.heap t' _ := isTuple_keeps htt fun b o e => F7.keep _ _ (hkg _ _ e)
      have hT7 : IsTup s₂.heap T' #[.str kk0 tky, .ref t'] := ⟨_, (N7 _ (List.mem_append_right _ (.tail _ (.tail _ (htc _ hTm))))).1, rfl, _, rfl⟩
      replace F7 : Fr g₁ L s₂.heap mm := F7
      replace N7 : News g₁ L s₂.heap _ := N7
      have F8 := know4 k1 k2 k3 k4 F7
      clear F7
      have hkl : kk0.cps.size ≤ 6 := hks (kk0, qv) (hos.mem_iff.mp (List.mem_of_getElem? hq))
      have hlo := hI.lo
      have hmin : (if m - tot < m * 1 then m - tot else m * 1) = m - tot := by
        split <;> omega
      have hnw0 : ∀ (o1 o2 : Obj) (p : Addr × Obj), p ∈ (44, o1) :: (acc, o2) :: ownC → p.1 ∉ [_] := fun o1 o2 p hp hm => by
        have hm := List.mem_singleton.mp hm
        simp only [List.mem_cons] at hp
        rcases hp with hp | hp | hp
        · rw [hp] at hm; exact hnit _ (.head _) hm
        · rw [hp] at hm; exact hnit _ (.tail _ (.head _)) hm
        · exact hnit _ (.tail _ (.tail _ hp)) hm
      k_steps
      rename Fr _ _ _ _ => Fa
      rename News _ _ _ _ => Na
      dsimp only
      refine unpackN_ (t := t') Fa Na (isTuple_keeps htt fun b o e => Fa.keep _ _ (hkg _ _ e)) hh (by rfl) (by rfl) ?_
      intro h9 F9 N9
      clear Fa Na htt7 hT7
      k_steps
      try unfold Mine.Stop
      refine wpH_execs_consA ?_
      refine hideQ fun K hK => ?_
      k_steps
      refine Mine.go_ (hK _ _ (Mine.go_ ?_))
      clear hK K
      try dsimp only
      refine wpH_execs_consA ?_
      refine hideQ fun K hK => ?_
      k_steps
      · rename _ ≤ (_ : Int) => hle
        rename Fr _ _ _ _ => FZ
        rename News _ _ _ _ => NZ
        rw [hmin] at hle
        exact Mine.go_ <| hK _ _ ⟨g₁, _, _, _, _, rfl, FZ, NZ, hnw0 _ _, B₁, tl, cs, tot, _, psc, oD, ownC, rfl, rfl, rfl, rfl, rfl, hca, htc, hstc, hD0, hpc, hI.skip hq (skip_key hle)⟩
      · rename ¬ _ ≤ (_ : Int) => hgt
        rw [hmin] at hgt
        refine Mine.go_ (hK _ _ (Mine.go_ ?_))
        clear hK K
        try dsimp only
        refine wpH_execs_consA ?_
        refine hideQ fun K hK => ?_
        k_steps
        refine Mine.go_ (hK _ _ (Mine.go_ ?_))
        clear hK K
        try dsimp only
        refine wpH_execs_cons ?_
        refine wpH_Assign ?_
        refine wpH_Call_def3 ?_
        refine hideQ fun K hK => ?_
        k_steps
        refine Mine.go_ (hK _ _ (Mine.go_ ⟨_, rfl, ?_⟩))
        clear hK K
        try dsimp only
        refine hideQ fun K hK => ?_
        k_steps
        refine Mine.go_ (hK _ _ (Mine.go_ ?_))
        clear hK K
        try dsimp only
        rename Fr _ _ _ _ => F9
        rename News _ _ _ _ => N9
        refine ⟨_, _, F9.keep _ _ (X 49 _ rfl), rfl, ?_⟩
        have N9' : News g₁ L _ ((44, tabObj psc) :: ((acc, oD) :: (own ++ ownC))) := fun p hp => N9 p (by
          simp only [List.mem_cons, List.mem_append] at hp ⊢
          rcases hp with hp | hp | hp | hp
          · exact .inr (.inl hp)
          · exact .inr (.inr (.inl hp))
          · exact .inl hp
          · exact .inr (.inr (.inr hp)))
        have hit44 : ∀ p ∈ own, p.1 ≠ 44 ∧ p.1 ≠ acc := fun p hp => by
          rcases hown p hp with e | e
          · rw [e]; exact ⟨(hnit _ (.head _)).symm, (hnit _ (.tail _ (.head _))).symm⟩
          · rw [e]; exact ⟨hD44, hDacc⟩
        have hrest44 : ∀ p ∈ (acc, oD) :: (own ++ ownC), p.1 ≠ 44 := fun p hp => by
          simp only [List.mem_cons, List.mem_append] at hp
          rcases hp with hp | hp | hp
          · rw [hp]; exact ha44
          · exact (hit44 p hp).1
          · exact (hca p hp).2
        have hTcur := TabStep.ok (hTg.mono F9.keep) hstc fun p hp => (N9' p (.tail _ (.tail _ (List.mem_append_right _ hp)))).1
        refine wpH_mono (ih qv _ _ _ ((if m - tot < m * 1 then m - tot else m * 1) - kk0.length) _ tb psc h₀ (L :: fr) _ ((hA.deeper _).less (by omega)) (hF.deeper B₁ F9 rfl (fun e => by cases e)) G C (fun b o e => F9.keep _ _ (hkg _ _ e)) hn0 hL0 hL4 (N9' _ (.head _)).1 hTcur hSy (by rw [hmin]; omega)) (fun r s₅ h₅ => ?_) fun _ _ e => e
        unfold Mine.Done at h₅
        obtain ⟨own', ps2, h5, tkk, t5, o5, c5, n5, tk5, k5, y5, rfl, kk, h544, hst2, hnew, rfl, hmem, hcls, hdat, hvia, hP⟩ := h₅
        rw [hmin] at hP
        obtain ⟨g₂, B₂, F10, hgn, _⟩ := B₁.step hF.ns F9 N9' kk
        obtain ⟨N10, hap44, hap⟩ := news44 B₁ hF.ns F9 N9' hgn kk h544 hrest44 hnew
        clear X T hkg
        have hkg := B₂.sub hk0 hn0 hf0
        obtain ⟨X, T⟩ := G.keeps hkg
        have N11 : News g₂ L h5 ((acc, oD) :: ((44, tabObj ps2) :: (own' ++ (own ++ ownC)))) := fun p hp => N10 p (by
          simp only [List.mem_cons, List.mem_append] at hp ⊢
          rcases hp with hp | hp | hp | hp | hp
          · exact .inr (.inr (.inl hp))
          · exact .inl hp
          · exact .inr (.inl hp)
          · exact .inr (.inr (.inr (.inl hp)))
          · exact .inr (.inr (.inr (.inr hp))))
        have hrest : ∀ p ∈ (44, tabObj ps2) :: (own' ++ (own ++ ownC)), p.1 ≠ acc := fun p hp => by
          simp only [List.mem_cons, List.mem_append] at hp
          rcases hp with hp | hp | hp | hp
          · rw [hp]; exact ha44.symm
          · exact hap p hp _ (.head _)
          · exact (hit44 p hp).2
          · exact (hca p hp).1
        have htup5 : IsTup h5 t5 #[c5, .int n5 tk5] := ⟨o5, (hnew _ hmem).1, hcls, _, hdat⟩
        have hv5 := hvia h5 (fun b o e => F10.keep _ _ (hkg _ _ e)) fun p hp => (hnew p hp).1
        clear F9 N9 N9' N10 htup
        have hil := (List.getElem?_eq_some_iff.mp hq).1
        have hsz : cs.length ≤ sizeLine := by rw [hpc.length, sizeLine_eq]; have := hI.len; omega
        obtain ⟨io, hio, hioc⟩ := hit
        have hni' : ∀ p ∈ own', p.1 ≠ _ := fun p hp => hap p hp _ (.tail _ (List.mem_append_left _ hio))
        have hnw2 : ∀ (lo : Obj) (p : Addr × Obj), p ∈ (44, tabObj ps2) :: (acc, lo) :: (ownC ++ own') → p.1 ∉ [_] := fun lo p hp hm => by
          have hm := List.mem_singleton.mp hm
          simp only [List.mem_append, List.mem_cons] at hp
          rcases hp with hp | hp | hp | hp
          · rw [hp] at hm; exact hnit _ (.head _) hm
          · rw [hp] at hm; exact hnit _ (.tail _ (.head _)) hm
          · exact hnit _ (.tail _ (.tail _ hp)) hm
          · exact hni' p hp hm
        have hord : ∀ (lo : Obj) (hZ : Heap), News g₂ L hZ ((acc, lo) :: ((44, tabObj ps2) :: (own' ++ (own ++ ownC)))) → News g₂ L hZ (own ++ ((44, tabObj ps2) :: (acc, lo) :: (ownC ++ own'))) := fun lo hZ NZ p hp => NZ p (by
          simp only [List.mem_cons, List.mem_append] at hp ⊢
          rcases hp with hp | hp | hp | hp | hp
          · exact .inr (.inr (.inr (.inl hp)))
          · exact .inr (.inl hp)
          · exact .inl hp
          · exact .inr (.inr (.inr (.inr hp)))
          · exact .inr (.inr (.inl hp)))
        have hca2 : ∀ p ∈ ownC ++ own', p.1 ≠ acc ∧ p.1 ≠ 44 := fun p hp => by
          rcases List.mem_append.mp hp with hp | hp
          · exact hca p hp
          · exact ⟨hap p hp _ (.head _), hap44 p hp⟩
        have hst3 : TabStep ps ps2 (ownC ++ own') := (hstc.sub fun p hp => List.mem_append_left _ hp).trans (hst2.sub fun p hp => List.mem_append_right _ hp)
        have hpc2 : Paired (fun (e : Str × Value) (p : Str × β) => e.1 = p.1 ∧ Via R' h₀ (ownC ++ own') e.2 p.2) cs tl := hpc.mono fun c z hz => ⟨hz.1, hz.2.sub fun p hp => List.mem_append_left _ hp⟩
        have htc2 : ∀ p ∈ tups, p ∈ ownC ++ own' := fun p hp => List.mem_append_left _ (htc p hp)
        rcases hnb _ _ _ hv5 with ⟨hb, rfl⟩ | ⟨hb, hc5⟩
        · refine hideQ fun K hK => ?_
          k_steps
          refine Mine.go_ (hK _ _ (Mine.go_ (wpH_of ?_)))
          clear hK K
          try dsimp only
          refine hideQ fun K hK => ?_
          k_steps
          rename Fr _ _ _ _ => FZ
          rename News _ _ _ _ => NZ
          exact Mine.go_ (hK _ _ ⟨g₂, _, _, _, _, rfl, FZ, hord _ _ NZ, hnw2 _, B₂, tl, cs, tot, _, ps2, oD, _, rfl, rfl, rfl, rfl, rfl, hca2, htc2, hst3, hD0, hpc2, hI.skip hq (skip_child hP hb)⟩)
        · refine hideQ fun K hK => ?_
          k_steps
          refine Mine.go_ (hK _ _ (Mine.go_ (wpH_of ?_)))
          clear hK K
          try dsimp only
          refine hideQ fun K hK => ?_
          k_steps
          rename Fr _ _ _ _ => FA
          rename News _ _ _ _ => NA
          rw [slice_full]
          refine kda_set (knd := PySem.strKind prog w) FA NA (.head hrest) hD0 (strKind_is prog w kk0 _) hsz ?_
          intro hZ oZ FZ NZ hDZ
          have hfresh : ∀ e ∈ cs, e.1 ≠ kk0 := fun e he => by
            obtain ⟨j, hj⟩ := List.getElem?_of_mem he
            obtain ⟨p, hp, e1, _⟩ := Paired.at' hpc j e hj
            obtain ⟨z, hz, e2, _⟩ := hI.part p (List.mem_of_getElem? hp)
            rw [e1, ← e2]
            exact key_fresh hndo hq hz
          rw [stored_fresh hfresh] at hDZ
          clear FA NA
          have hpc3 : Paired (fun (e : Str × Value) (p : Str × β) => e.1 = p.1 ∧ Via R' h₀ (ownC ++ own') e.2 p.2) (cs ++ [(kk0, c5)]) (tl ++ [(kk0, y5)]) := Paired.append hpc2 (.cons ⟨rfl, hvia.sub fun p hp => List.mem_append_right _ hp⟩ .nil)
          have hI2 := hI.keep hq hgt hP hb
          k_steps
          · rename m ≤ _ => hge
            rename Fr _ _ _ _ => FY
            rename News _ _ _ _ => NY
            exact Mine.go_ (hK _ _ ⟨g₂, _, _, _, _, rfl, FY, (hord _ _ NY).right, B₂, _, _, tot + (kk0.length + n5), _, ps2, oZ, _, rfl, rfl, rfl, hca2, hst3, hDZ, hpc3, hI2.stop hil hge (.inr (by simp))⟩)
          · rename Fr _ _ _ _ => FY
            rename News _ _ _ _ => NY
            exact Mine.go_ (hK _ _ ⟨g₂, _, _, _, _, rfl, FY, hord _ _ NY, hnw2 _, B₂, _, _, tot + (kk0.length + n5), _, ps2, oZ, _, rfl, rfl, rfl, rfl, rfl, hca2, htc2, hst3, hDZ, hpc3, hI2⟩)
    · intro g₁ h' tk' mm news' F7 N7 hJ
      replace F7 : Fr g₁ L h' mm := F7
      replace N7 : News g₁ L h' _ := N7
      have B₁ : Bas fr s.heap g₁ := hJ.elim (fun x => x.1) fun x => x.1
      clear X T hkg hTg Cg
      have hkg := B₁.sub hk0 hn0 hf0
      obtain ⟨X, T⟩ := G.keeps hkg
      change Mine.Stop _
      unfold Mine.Stop
      refine wpH_of ?_
      have hlen : out.length = os.length := by rw [hout.length, hpo.length]
      obtain ⟨tl, cs, tot, tkt, psc, oD, ownC, k1, k2, rfl, hca, hstc, hD0, hpc, hI⟩ : shrDB w R' any part bare h₀ os m ps acc mm news' := by
        rcases hJ with ⟨_, tl, cs, tot, tkt, psc, oD, ownC, k1, k2, k3, k4, rfl, hca, htc, hstc, hD0, hpc, hI⟩ | hJ
        · rw [hlen] at hI
          exact ⟨tl, cs, tot, tkt, psc, oD, ownC, k1, k2, rfl, hca, hstc, hD0, hpc, hI.done⟩
        · exact hJ.2
      have F8 := know2 k1 k2 F7
      clear F7
      k_steps
      have hdz : Heap.DictOf (PySem.strKind prog w) h' acc cs := Heap.dictOf_iff.mpr ⟨oD, (N7 _ (.tail _ (.head _))).1, hD0⟩
      have hcl : cs.length ≤ 3 := by rw [hpc.length]; have := hI.len; omega
      refine wpAny_truthy_dict lo0 hdz (by omega) ?_
      by_cases hys : tl = []
      · subst hys
        cases hpc
        k_steps
        rename Fr _ _ _ _ => FZ
        rename News _ _ _ _ => NZ
        show Mine.Done _
        unfold Mine.Done
        refine ⟨_, psc, _, _, _, _, _, _, _, _, .leaf .none, rfl, B₁.kept FZ, (NZ _ (.tail _ (.head _))).1, ?_, fin_own B₁ NZ (by intro e; cases e) ?_, rfl, .head _, rfl, rfl, fun _ _ _ => ⟨rfl, trivial⟩, dict_nil hos hI⟩
        · exact hstc.sub fun p hp => .tail _ (.tail _ hp)
        · intro p hp
          rcases List.mem_cons.mp hp with rfl | hp
          · exact ha44
          · exact (hca p hp).2
      · have hne : (!cs.isEmpty) = true := by
          cases hpc with
          | nil => exact absurd rfl hys
          | cons _ _ => rfl
        rw [hne]
        k_steps
        rename Fr _ _ _ _ => FZ
        rename News _ _ _ _ => NZ
        show Mine.Done _
        unfold Mine.Done
        refine ⟨_, psc, _, _, _, _, _, _, _, _, .dict tl, rfl, B₁.kept FZ, (NZ _ (.tail _ (.head _))).1, ?_, fin_own B₁ NZ (by intro e; cases e) ?_, rfl, .head _, rfl, rfl, fun hx hk hp => ⟨?_, ?_, acc, cs, rfl, lo0, Heap.dictOf_iff.mpr ⟨oD, hp _ (.tail _ (.head _)), hD0⟩, hpc.mono fun c y hv => ⟨hv.1, hv.2 hx hk fun p hp' => hp p (.tail _ (.tail _ hp'))⟩⟩, dict_end hnd hos hI hys⟩
        · exact hstc.sub fun p hp => .tail _ (.tail _ hp)
        · intro p hp
          rcases List.mem_cons.mp hp with rfl | hp
          · exact ha44
          · exact (hca p hp).2
        · have := hI.len; omega
        · intro p hp
          obtain ⟨z, hz, e, _⟩ := hI.part p hp
          rw [← e]
          exact hks z (hos.mem_iff.mp hz)
end Mine

end PartMShrD

section PartMCatch
open PySem PySem.W PyProof.Rows PySem.Calls
namespace Mine

/-! ## A refusal caught by an except clause -/
/-- what the frames' objects keep -/
structure Rdy (fr : List Addr) (h h' : Heap) : Prop where
  sz : h'.objs.size = h.objs.size
  up : ∀ b, b ∉ fr → h'.get? b = h.get? b
  fr : ∀ b o, h.get? b = some o → ∃ o', h'.get? b = some o' ∧ o'.data = o.data
theorem Rdy.refl (fr : List Addr) (h : Heap) : Rdy fr h h := ⟨rfl, fun _ _ => rfl, fun b o e => ⟨o, e, rfl⟩⟩
theorem Obj.mapFields_data {o : Obj} {vs : Array Value} {f : Array Value → Array Value} (hd : o.data = .fields vs) : (o.mapFields f).data = .fields (f vs) ∧ (o.mapFields f).cls = o.cls := by
  obtain ⟨c, d, dt, sl⟩ := o
  cases hd
  exact ⟨rfl, rfl⟩
section
variable {M : Model} {A : Around} {E : Value → Shared → Prop}
theorem wpAny_ready : ∀ (l : List Env) (fr : List Addr) (s : Shared) (Q : Unit → Shared → Prop), l.map (·.frame) = fr.map some → (∀ e ∈ l, e.scope.kind ≠ .module) → (∀ b ∈ fr, ∃ o, s.heap.get? b = some o) →
    (∀ h', Rdy fr s.heap h' → Q () { s with heap := h' }) → wpAny M A (readyFrames l) Q E s
  | [], _, s, Q, _, _, _, h => wpAny_pure (h s.heap (Rdy.refl _ _))
  | env :: l, [], s, Q, hf, _, _, _ => by cases hf
  | env :: l, L :: fr, s, Q, hf, hk, hal, h => by
    rw [List.map_cons, List.map_cons] at hf
    injection hf with hf1 hf2
    obtain ⟨o, ho⟩ := hal L (.head _)
    have hnf := (Heap.get?_some_iff.mp ho).2
    simp only [readyFrames, hf1]
    refine wpAny_bind (wpAny_load ho ?_)
    by_cases hr : ((o.slots.getD 3 none).isSome) = true
    · rw [if_pos hr]; exact wpAny_pure (h _ (Rdy.refl _ _))
    · rw [if_neg hr]
      refine wpAny_bind (wpAny_of_eq (a := false) (by simp [behindIsImport, hk env (.head _)]) ?_)
      have hback : wpAny M A (keptBack env false l) (fun _ s' => s' = s) E s := by
        cases l with
        | nil => exact wpAny_keptBack_nil fun _ => rfl
        | cons c l => exact wpAny_pure rfl
      refine wpAny_bind (wpAny_mono hback (fun back s' e => ?_) fun _ _ x => x)
      subst e
      refine wpAny_bind (wpAny_update ho ?_)
      have hup : ∀ b, b ≠ L → (s'.heap.update L fun o => { o with slots := #[some env.code, some (.ref env.globals), o.slots.getD 2 none, some back, o.slots.getD 4 none, env.func.map Value.ref, some (.ref env.builtins)] ++ (env.cells.map fun c => some (.ref c.2)).toArray }).get? b = s'.heap.get? b := fun b hb => Heap.get?_update_other _ _ (Ne.symm hb)
      have hself : (s'.heap.update L fun o => { o with slots := #[some env.code, some (.ref env.globals), o.slots.getD 2 none, some back, o.slots.getD 4 none, env.func.map Value.ref, some (.ref env.builtins)] ++ (env.cells.map fun c => some (.ref c.2)).toArray }).get? L = some { o with slots := #[some env.code, some (.ref env.globals), o.slots.getD 2 none, some back, o.slots.getD 4 none, env.func.map Value.ref, some (.ref env.builtins)] ++ (env.cells.map fun c => some (.ref c.2)).toArray } :=
        Heap.get?_update_self _ ho (by obtain ⟨c, d, dt, sl⟩ := o; cases dt <;> first | rfl | cases hnf)
      have hall : ∀ b o, s'.heap.get? b = some o → ∃ o', (s'.heap.update L fun o => { o with slots := #[some env.code, some (.ref env.globals), o.slots.getD 2 none, some back, o.slots.getD 4 none, env.func.map Value.ref, some (.ref env.builtins)] ++ (env.cells.map fun c => some (.ref c.2)).toArray }).get? b = some o' ∧ o'.data = o.data := fun b ob e => by
        by_cases hb : b = L
        · subst hb
          rw [ho] at e; cases e
          exact ⟨_, hself, rfl⟩
        · exact ⟨ob, (hup b hb).trans e, rfl⟩
      refine wpAny_ready l fr _ Q hf2 (fun e he => hk e (.tail _ he)) (fun b hb => ?_) fun h' R => ?_
      · obtain ⟨ob, eb⟩ := hal b (.tail _ hb)
        obtain ⟨o', e', _⟩ := hall b ob eb
        exact ⟨o', e'⟩
      · refine h h' ⟨R.sz.trans (Heap.size_after_update ..), fun b hb => ?_, fun b ob e => ?_⟩
        · exact (R.up b fun q => hb (.tail _ q)).trans (hup b fun q => hb (by rw [q]; exact .head _))
        · obtain ⟨o', e', hd'⟩ := hall b ob e
          obtain ⟨o2, e2, hd2⟩ := R.fr b o' e'
          exact ⟨o2, e2, hd2.trans hd'⟩

/-- a refusal that stands in the heap, with nothing behind it -/
structure Exc (h : Heap) (e : Addr) (ctx : Value) : Prop where
  at_ : ∃ o vs, h.get? e = some o ∧ o.cls = .type "ValueError" ∧ o.data = .fields vs ∧ vs[1]? = some .none ∧ vs[2]? = some ctx
/-- the refusal when it has landed -/
structure Landed (h : Heap) (e tb : Addr) (ctx : Value) : Prop where
  at_ : ∃ o vs otb tvs, h.get? e = some o ∧ o.cls = .type "ValueError" ∧ o.data = .fields vs ∧ vs[1]? = some (.ref tb) ∧ vs[2]? = some ctx ∧ h.get? tb = some otb ∧ otb.data = .fields tvs ∧ 3 < tvs.size ∧ tb ≠ e
/-- the heap but for the frames and the refusal -/
structure Off (fr : List Addr) (e : Addr) (h h' : Heap) : Prop where
  up : ∀ b o, b ∉ fr → b ≠ e → h.get? b = some o → h'.get? b = some o
  fr : ∀ b ∈ fr, ∀ o, h.get? b = some o → ∃ o', h'.get? b = some o' ∧ o'.data = o.data

theorem noted {s : Shared} {env : Env} {l : List Env} {L : Addr} {fr : List Addr} {e : Addr} {ctx : Value} {Q : Unit → Shared → Prop} (hfr : A.frames = some (env :: l)) (hf : env.frame = some L) (hl : l.map (·.frame) = fr.map some)
    (hk : ∀ x ∈ env :: l, x.scope.kind ≠ .module) (hal : ∀ b ∈ L :: fr, ∃ o, s.heap.get? b = some o) (he : Exc s.heap e ctx) (hne : e ∉ L :: fr)
    (h : ∀ h' tb, Off (L :: fr) e s.heap h' → s.heap.get? tb = none → Landed h' e tb ctx → Q () { s with heap := h' }) : wpAny M A (noteFrame (.ref e) env) Q E s := by
  obtain ⟨oe, vs, he1, hcls, hd, h1, h2⟩ := he.at_
  have hsz : 1 < vs.size := (Array.getElem?_eq_some_iff.mp h1).1
  unfold noteFrame
  simp only [hf]
  refine wpAny_bind (wpAny_field he1 hd h1 ?_)
  rw [if_neg (by decide)]
  unfold PySem.frameOf
  refine wpAny_bind (wpAny_bind (wpAny_frameEnvs hfr ?_))
  have hdw : ((env :: l).dropWhile fun x => x.frame != env.frame) = env :: l := by simp [List.dropWhile]
  rw [hdw]
  unfold frameObject
  refine wpAny_bind (wpAny_bind (wpAny_ready (env :: l) (L :: fr) s _ (by rw [List.map_cons, List.map_cons, hf, hl]) hk hal fun h₁ R => wpAny_pure ?_))
  rw [hf]
  refine wpAny_pure ?_
  refine wpAny_bind (wpAny_entryPlaceOf fun pl hpl => ?_)
  unfold EntryCells.newEntry newFields
  refine wpAny_bind (wpAny_newObj_type ?_ (hpl.sizeOk5 _ _ _ _ _))
  have he₁ : h₁.get? e = some oe := (R.up e hne).trans he1
  have he₂ := Heap.get?_push_of_some (h := h₁) { cls := .type "traceback", dict := none, data := .fields ([Value.none, .ref L, .none, rawInt L, .none] ++ (if pl.isEmpty then List.replicate 6 Value.none else pl)).toArray } he₁
  refine wpAny_setField he₂ hd hsz ?_
  have hTe : h₁.objs.size ≠ e := Nat.ne_of_gt (Heap.lt_size he₁)
  have hm := Obj.mapFields_data (f := (·.setIfInBounds 1 (Value.ref h₁.objs.size))) hd
  refine h _ h₁.objs.size ⟨fun b o hb hbe hbo => ?_, fun b hb o hbo => ?_⟩ (Heap.get?_none_of_le (by rw [R.sz]; exact Nat.le_refl _)) ⟨_, vs.setIfInBounds 1 (.ref h₁.objs.size), { cls := .type "traceback", dict := none, data := .fields ([Value.none, .ref L, .none, rawInt L, .none] ++ (if pl.isEmpty then List.replicate 6 Value.none else pl)).toArray }, _, Heap.get?_update_self _ he₂ (Obj.isFreed_of_fields hm.1), hm.2.trans hcls, hm.1, by simp [hsz], by rw [Array.getElem?_setIfInBounds_ne (by decide)]; exact h2, ?_, rfl, ?_, hTe⟩
  · rw [Heap.get?_update_other _ _ (Ne.symm hbe)]
    exact Heap.get?_push_of_some _ ((R.up b hb).trans hbo)
  · obtain ⟨o', e', hd'⟩ := R.fr b o hbo
    refine ⟨o', ?_, hd'⟩
    rw [Heap.get?_update_other _ _ (fun q => hne (by rw [q]; exact hb))]
    exact Heap.get?_push_of_some _ e'
  · rw [Heap.get?_update_other _ _ (Ne.symm hTe)]
    exact Heap.get?_push_size h₁ rfl
  · simp only [List.size_toArray, List.length_append, List.length_cons, List.length_nil]; omega

theorem landed {s : Shared} {e tb : Addr} {ctx : Value} {Q : Unit → Shared → Prop} (he : Landed s.heap e tb ctx)
    (h : ∀ h', (∀ b, b ≠ tb → h'.get? b = s.heap.get? b) → Landed h' e tb ctx → Q () { s with heap := h' }) : wpAny M A (setFlight (.ref e) none) Q E s := by
  obtain ⟨oe, vs, otb, tvs, e1, e2, e3, e4, e5, e6, e7, e8, e9⟩ := he.at_
  refine wpAny_setFlight_none e1 e3 e4 e6 e7 e8 ?_
  have hm := Obj.mapFields_data (f := (·.setIfInBounds 3 Value.none)) e7
  exact h _ (fun b hb => Heap.get?_update_other _ _ (Ne.symm hb)) ⟨oe, vs, _, _, (Heap.get?_update_other _ _ e9).trans e1, e2, e3, e4, e5, Heap.get?_update_self _ e6 (Obj.isFreed_of_fields hm.1), hm.1, by simpa using e8, e9⟩
end

/-- a refusal is caught by `except Exception:`; the base changes at the frames -/
theorem caught {w : World} {p : Program} {loose : List Str} {mean : ExcName → Option Value} {mg mb : Str → Option Value} {A : Around} {s : Shared} {env : Env} {l : List Env} {L : Addr} {fr : List Addr} {hE g : Heap} {e : Addr} {ctx : Value} {m : Str → Option Value} {o4 : Obj} {news : List (Addr × Obj)}
    {np pos : Pos} {b₀ : Stmt} {suite : List Stmt} {Q : Flow → Shared → Prop} {E : Value → Shared → Prop} (hfr : A.frames = some (env :: l)) (hf : env.frame = some L) (hl : l.map (·.frame) = fr.map some)
    (hk : ∀ x ∈ env :: l, x.scope.kind ≠ .module) (hns : ∀ b ∈ fr, ∃ m, hE.Ns b m) (B : Bas fr hE g) (G : ∀ g₂, Bas fr hE g₂ → Gd w p loose mean mg mb g₂) (F : Fr g L s.heap m) (N : News g L s.heap ((44, o4) :: news)) (hn44 : ∀ q ∈ news, q.1 ≠ 44) (he : Exc s.heap e ctx) (heg : g.get? e = none) (heL : e ≠ L) (heN : ∀ q ∈ (44, o4) :: news, q.1 ≠ e)
    (hgl : env.globals = mainGlobals) (hbl : env.builtins = builtinsNs) (hkf : env.scope.kind = .function) (hkx : env.kindOf (Str.ofString "Exception") = some .globalImplicit)
    (h : ∀ g₂ h' E', Bas fr hE g₂ → Fr g₂ L h' m → News g₂ L h' ((44, o4) :: news) → (∃ tb, Landed h' e tb ctx) → g₂.get? e = none → wpAny (model PySem.Challenge.rw_ez0045_01.row.prog w) (A.mark (some (.ref e))) (execs (b₀ :: suite) env) Q E' { s with heap := h' }) :
    wpAny (model PySem.Challenge.rw_ez0045_01.row.prog w) A (noteFrame (.ref e) env) (fun _ s₂ => wpAny (model PySem.Challenge.rw_ez0045_01.row.prog w) A (setFlight (.ref e) none) (fun _ s₃ => wpAny (model PySem.Challenge.rw_ez0045_01.row.prog w) A (handleBy (.ref e) env [.ExceptHandler (some (.Name (Str.ofString "Exception") np)) none (b₀ :: suite) pos]) Q E s₃) E s₂) E s := by
  have hfrg : ∀ b ∈ fr, ∃ o, g.get? b = some o := fun b hb => by
    obtain ⟨_, o, _, _, q, _⟩ := hns b hb
    obtain ⟨o', q', _⟩ := B.fr b hb o q
    exact ⟨o', q'⟩
  have hne : e ∉ L :: fr := fun hb => by
    rcases List.mem_cons.mp hb with q | q
    · exact heL q
    · obtain ⟨o, q'⟩ := hfrg e q
      rw [heg] at q'; cases q'
  refine noted hfr hf hl hk (fun b hb => ?_) he hne fun h1 tb O htb hL1 => ?_
  · rcases List.mem_cons.mp hb with rfl | hb
    · obtain ⟨o, _, _, q, _⟩ := F.ns; exact ⟨o, q⟩
    · obtain ⟨o, q⟩ := hfrg b hb; exact ⟨o, F.keep _ _ q⟩
  refine landed hL1 fun h2 k2 hL2 => ?_
  -- the heap without the refusal
  have key : ∀ h3 : Heap, (∀ b, b ≠ tb → h3.get? b = h1.get? b) → ∃ g₂, Bas fr hE g₂ ∧ Fr g₂ L h3 m ∧ News g₂ L h3 ((44, o4) :: news) ∧ g₂.get? e = none := by
    intro h3 k3
    have ktb : ∀ b o, s.heap.get? b = some o → b ≠ tb := fun b o q r => by rw [r, htb] at q; cases q
    have F' : Fr g L (s.heap.hide e) m := ⟨F.ns.at' fun o q => (Heap.hide_ne _ (Ne.symm heL)).trans q, fun b o q => (Heap.hide_ne _ fun r => by rw [r, heg] at q; cases q).trans (F.keep b o q), F.above⟩
    have N' : News g L (s.heap.hide e) ((44, o4) :: news) := fun q hq => ⟨(Heap.hide_ne _ (heN q hq)).trans (N q hq).1, (N q hq).2⟩
    have hid : ∀ b o, (s.heap.hide e).get? b = some o → s.heap.get? b = some o ∧ b ≠ e := fun b o q => ⟨Heap.of_hide q, fun r => by rw [r, Heap.hide_self] at q; cases q⟩
    have K : Kept (L :: fr) (s.heap.hide e) h3 := ⟨fun b o _ hb q => by
        obtain ⟨q1, q2⟩ := hid b o q
        exact (k3 b (ktb b o q1)).trans (O.up b o hb q2 q1), fun b hb o q => by
        obtain ⟨q1, q2⟩ := hid b o q
        obtain ⟨o', q3, q4⟩ := O.fr b hb o q1
        exact ⟨o', (k3 b (ktb b o q1)).trans q3, q4⟩⟩
    obtain ⟨g₂, B₂, F₂, hn, _⟩ := B.step hns F' N' K
    have h44 : h3.get? 44 = some o4 := by
      have q1 := N _ (.head _)
      refine (k3 _ (ktb _ _ q1.1)).trans (O.up _ _ (fun hb => ?_) (heN _ (.head _)) q1.1)
      rcases List.mem_cons.mp hb with r | r
      · exact q1.2.1 r
      · obtain ⟨o, r'⟩ := hfrg _ r
        rw [q1.2.2] at r'; cases r'
    obtain ⟨N₂, _, _⟩ := news44 (own' := []) B hns F' N' hn K h44 hn44 (by intro q hq; cases hq)
    exact ⟨g₂, B₂, F₂, N₂, hn _ heg⟩
  obtain ⟨g₂, B₂, F₂, N₂, hg₂⟩ := key h2 k2
  have G₂ := G g₂ B₂
  have hexc : isSubtype (.type "Exception") (.type "BaseException") = pure true := isSubtype_of_subB (by decide +kernel)
  have hnt : isSubtype (.type ((Manifest.find? "Exception").elim "type" fun x => x.metatype)) (.type "tuple") = pure false := isSubtype_of_subB (by decide +kernel)
  have hsub : isSubtype (.type "ValueError") (.type "Exception") = pure true := isSubtype_of_subB (by decide +kernel)
  refine wpAny_handleBy_builtin (b := true) hexc hnt hsub ?_
  refine Name_function_global hkf hkx (loadGlobal_builtin (env := env) (by rw [hgl]; exact G₂.T.g.keeps F₂.keep) (mg_none_of G₂.X G₂.T.g (by rfl)) (by rw [hbl]; exact G₂.T.b.keeps F₂.keep) ((G₂.T.builtins _ (by decide)).trans (by boot_by_name)) ?_) (by decide)
  refine ⟨rfl, ?_, ?_⟩
  · obtain ⟨oe, vs, otb, tvs, e1, e2, _⟩ := hL2.at_
    exact ⟨oe, e1, e2⟩
  · rw [if_pos rfl]
    refine landed hL2 fun h3 k3 hL3 => ?_
    obtain ⟨g₃, B₃, F₃, N₃, hg₃⟩ := key h3 fun b hb => (k3 b hb).trans (k2 b hb)
    exact h g₃ h3 _ B₃ F₃ N₃ ⟨tb, hL3⟩ hg₃
end Mine

end PartMCatch

section PartMHeld
open PySem PySem.W PyProof.Rows PySem.Calls
namespace Mine

/-! ## A refusal while another is handled -/
def ThrowsHeld (e1 : Addr) (E : Value → Shared → Prop) (s : Shared) : Prop :=
  ∀ h' tk e, (∀ b o, s.heap.get? b = some o → h'.get? b = some o) → s.heap.get? e = none → Exc h' e (.ref e1) → E (.ref e) { s with heap := h', toks := tk }
def Held (A : Around) (e1 : Addr) (h : Heap) : Prop := A.handled = some (.ref e1) ∧ ∃ o vs, h.get? e1 = some o ∧ o.data = .fields vs ∧ vs[2]? = some .none
theorem Held.keeps {A : Around} {e1 : Addr} {h h' : Heap} (x : Held A e1 h) (k : ∀ b o, h.get? b = some o → h'.get? b = some o) : Held A e1 h' := let ⟨a, o, vs, e, r⟩ := x; ⟨a, o, vs, k _ _ e, r⟩
theorem entry_unchain : entryFor table "proto.unchain" = some Builtin.«proto.unchain» := entryFor_of_tree (by kernel_rfl)
theorem unchain_none {prog : Program} {w : World} {A : Around} {E : Value → Shared → Prop} {s : Shared} {v : Value} {e1 : Addr} {Q : Value → Shared → Prop} (hx : ∃ o vs, s.heap.get? e1 = some o ∧ o.data = .fields vs ∧ vs[2]? = some .none) (h : Q .none s) :
    wpAny (model prog w) A (runValue (.builtin "proto.unchain" ⟨[v, .ref e1, .ref e1, .bool false], []⟩)) Q E s := by
  obtain ⟨o, vs, e, hd, h2⟩ := hx
  refine wpAny_runValue (codeAny_builtin entry_unchain ?_)
  unfold Builtin.«proto.unchain»
  refine wpAny_bind (wpAny_field e hd h2 ?_)
  rw [if_pos (by decide)]
  exact wpAny_pure h
theorem raiseNew_held {α : Type} {prog : Program} {w : World} {A : Around} {E : Value → Shared → Prop} {s : Shared} {e e1 : Addr} {Q : α → Shared → Prop} (hh : Held A e1 s.heap) (hne : e1 ≠ e) (he : Exc s.heap e .none)
    (h : ∀ h', (∀ b o, b ≠ e → s.heap.get? b = some o → h'.get? b = some o) → Exc h' e (.ref e1) → E (.ref e) { s with heap := h' }) : wpAny (model prog w) A (raiseNew (.ref e) : Sem α) Q E s := by
  unfold raiseNew
  refine wpAny_bind (wpAny_handled ?_)
  rw [hh.1]
  dsimp only
  obtain ⟨o, vs, e1', e2, e3, e4, e5⟩ := he.at_
  have hm := Obj.mapFields_data (f := (·.setIfInBounds 2 (Value.ref e1))) e3
  have hsz : 2 < vs.size := (Array.getElem?_eq_some_iff.mp e5).1
  have fin : wpAny (model prog w) A (updateField e 2 (.ref e1) >>= fun _ => (throw (.ref e) : Sem α)) Q E s := by
    refine wpAny_bind ?_
    show wpAny (model prog w) A (setField (.ref e) 2 (.ref e1)) _ E s
    refine wpAny_setField e1' e3 hsz ?_
    refine wpAny_throw (h _ (fun b o hb q => (Heap.get?_update_other _ _ (Ne.symm hb)).trans q) ⟨_, _, Heap.get?_update_self _ e1' (Obj.isFreed_of_fields hm.1), hm.2.trans e2, hm.1, ?_, ?_⟩)
    · rw [Array.getElem?_setIfInBounds_ne (by decide)]; exact e4
    · simp [hsz]
  have hn : ((Value.ref e1 != Value.ref e) = true) := by simp [hne]
  rw [if_pos hn]
  refine wpAny_bind (wpAny_holding (unchain_none hh.2 ?_))
  exact fin
theorem raise_held {α : Type} {prog : Program} {w : World} {A : Around} {E : Value → Shared → Prop} {s : Shared} {msg : String} {e1 : Addr} {Q : α → Shared → Prop} (hh : Held A e1 s.heap) (h : ThrowsHeld e1 E s) (hm : (msg : Str).length ≤ sizeLine) :
    wpAny (model prog w) A (raiseErrorMade "ValueError" msg : Sem α) Q E s := by
  unfold raiseErrorMade
  refine wpAny_bind (wpAny_mkStr (wpAny_bind (wpAny_newExc_plain plainExc_ValueError fun h' e hx => ?_)) hm)
  have hx' := hx.newExc
  have hk : ∀ b o, s.heap.get? b = some o → h'.get? b = some o := hx'.keeps
  have hne : e1 ≠ e := by
    rintro rfl
    obtain ⟨o, _, q, _⟩ := hh.2
    have := hx'.new
    rw [show s.heap.get? e1 = none from this] at q; cases q
  refine raiseNew_held (e := e) (e1 := e1) (hh.keeps hk) hne ?_ ?_
  · obtain ⟨ob, t, q1, q2, q3⟩ := hx'.there
    exact ⟨ob, _, q1, q2, q3, rfl, rfl⟩
  · intro h2 k2 he2
    obtain ⟨hp, g, d, tk, os⟩ := s
    exact h h2 _ e (fun b o q => k2 b o (fun r => by have := hx'.new; rw [r, show Heap.get? _ e = none from this] at q; cases q) (hk b o q)) hx'.new he2
theorem meets_float_held (x : Str) (u : Tok) (e1 : Addr) (hb : Num.parseText? x = none) (hsz : (reprText x).length + 40 ≤ sizeLine) :
    Meets (Builtin.«float.__new__» ⟨[.type "float", .str x u], []⟩) (fun A R s => Held A e1 s.heap ∧ ThrowsHeld e1 (fun e s' => R (.error e) s') s) :=
  Flt.meets_float_new_of _ fun prog w A R s hs => by
    unfold Num.parseText? at hb
    rw [Flt.toFloatObj_str, Flt.fromText_eq, hb]
    refine wpAny_bind (wpAny_rule (wpAny_bind (wpAny_pyRepr_str ?_ (by omega))))
    refine raise_held (A := A.in1) hs.1 hs.2 ?_
    have h1 : (Str.ofString (toString "could not convert string to float: " ++ toString (reprText x).toString)).length = 35 + (reprText x).length := by
      rw [PySem.ofString_length, String.length_append]
      have h2 : (toString (reprText x).toString).length = (reprText x).length := by
        show (reprText x).toString.length = _
        simp [Str.toString, Str.length]
      rw [h2]; rfl
    exact h1 ▸ (by omega)
theorem float_bad_held {prog : Program} {w : World} {A : Around} {E : Value → Shared → Prop} {s : Shared} {x : Str} {u : Tok} {e1 : Addr} {Q : Value → Shared → Prop} (hb : x.cps = #[] ∨ x.cps = #[45]) (hh : Held A e1 s.heap) (h : ThrowsHeld e1 E s) :
    wpAny (model prog w) A (call (.type "float") [.str x u]) Q E s := by
  have hp : Num.parseText? x = none := by
    obtain ⟨c⟩ := x
    rcases hb with e | e <;> (dsimp only at e; subst e; decide +kernel)
  have hl : (reprText x).length + 40 ≤ sizeLine := by
    obtain ⟨c⟩ := x
    have h3 : 1000 ≤ sizeLine := by decide
    have : (reprText ⟨c⟩).length ≤ 100 := by rcases hb with e | e <;> (dsimp only at e; subst e; decide +kernel)
    omega
  exact call_float_1 (meets_float_held x u e1 hp hl) ⟨hh, h⟩
end Mine

end PartMHeld

section PartMShrF
open PySem PySem.W PyProof.Rows PySem.Calls
local macro_rules | `(tactic| walk_at "eval ListComp") => `(tactic| refine Mine.stop_ ?_)
local macro_rules | `(tactic| walk_at "call builtin:len") => `(tactic| ((with_reducible show wpAny _ _ (call (Value.builtin "len") [Value.str _ _]) _ _ _); refine len_str (by assumption) ?_))
local macro_rules | `(tactic| walk_at "subscriptTail") => `(tactic| ((with_reducible show wpAny _ _ (subscriptTail _ _ (Value.ref _) (Value.str _ _)) _ _ _); refine Mine.item_dict (by assumption) (by assumption) ?_ (by with_unfolding_all rfl) (by intro _; with_unfolding_all rfl)))
local macro_rules | `(tactic| walk_at "call ref") => `(tactic| refine Mine.stop_ ?_)
local macro_rules | `(tactic| walk_at "eval Name") => `(tactic| ((with_reducible show wpAny _ _ (eval (Expr.Name _ _) (compEnvC _ _ _ _)) _ _ _); first
  | (refine Mine.cname_L (by assumption) (by assumption) ?_ (by rfl) (by rfl) (by decide))
  | (refine Mine.cname_C (by rfl) (by assumption) ?_ (by rfl) (by rfl) (by decide))
  | (refine Mine.cname_K (by assumption) (by rfl) ?_ (by rfl) (by rfl) (by rfl) (by decide))
  | (refine Mine.cname_B (by assumption) (by rfl) (by boot_by_name) (by decide) ?_ (by rfl) (by rfl) (by rfl) (by rfl) (by decide))))
local macro_rules | `(tactic| walk_at "call type:str") => `(tactic| ((with_reducible show wpAny _ _ (call (Value.type "str") [Value.int _ _]) _ _ _); refine Mine.stop_ ?_))
namespace Mine
variable {w : World} {p : Program} {loose : List Str} {mean : ExcName → Option Value} {mg mb : Str → Option Value}

local macro_rules | `(tactic| walk_at "assign Tuple") => `(tactic| ((with_reducible show wpAny _ _ (assign (Expr.Tuple _ _ _) _ (Value.ref _)) _ _ _); refine unpackN_ (by assumption) (by assumption) (by assumption) (by assumption) (by rfl) (by rfl) ?_; intro h' F' N'))
local macro_rules | `(tactic| walk_at "call type:float") => `(tactic| refine Mine.stop_ ?_)
local macro_rules | `(tactic| walk_at "eval Lambda") => `(tactic| refine Mine.stop_ ?_)
local macro_rules | `(tactic| walk_at "call builtin:sorted") => `(tactic| refine Mine.stop_ ?_)
local macro_rules | `(tactic| walk_at "call builtin:min") => `(tactic| (refine min_two_N (by assumption) (by assumption) (by assumption) ?_; intro h' tk' F' N'))
local macro_rules | `(tactic| walk_at "compareOp IsNot") => `(tactic| (refine Mine.isNot_none (by assumption) ?_))
local macro_rules | `(tactic| walk_at "exec For Tuple Name") => `(tactic| refine Mine.stop_ ?_)

local macro_rules | `(tactic| walk_at "eval Call Attribute") => `(tactic| ((with_reducible show wpAny _ _ (eval (Expr.Call (Expr.Attribute _ _ _) [] [] _) _) _ _ _); refine Mine.stop_ ?_))

theorem txt_small {i : Int} (h : LeafOk (.int i)) : (txt i).length ≤ 20 := by
  obtain ⟨h1, h2⟩ : -100 ≤ i ∧ i < 2900 := h
  by_cases h0 : 0 ≤ i
  · have h3 := KT.len_num (n := i) h0 (by omega)
    show (Str.ofString (toString i)).length ≤ 20
    omega
  · have h4 := len_text_negI (n := i) (by omega)
    have h3 := KT.len_num (n := 0 - i) (by omega) (by omega)
    show (Str.ofString (toString i)).length ≤ 20
    omega
theorem swap23 {g h : Heap} {L : Addr} {a b c : Addr × Obj} {r : List (Addr × Obj)} (N : News g L h (a :: b :: c :: r)) : News g L h (a :: c :: b :: r) := fun p hp => N p (by
  simp only [List.mem_cons] at hp ⊢
  rcases hp with hp | hp | hp | hp
  · exact .inl hp
  · exact .inr (.inr (.inl hp))
  · exact .inr (.inl hp)
  · exact .inr (.inr (.inr hp)))

set_option maxHeartbeats 4000000 in
theorem shr_leaf {α β : Type} {S : Rl α} {R' : Rl β} {f : α → Int} {nb : β → Bool} {any : α → Int → Bool} {part : β → α → Bool} {bare : β → Int} {k : Nat} (l : Leaf) : ShrAt w p loose mean mg mb (StC w S f) (TContIs w R') (PJ isN (anyC any) (partC part f) (bareC bare)) (k + 6) (.leaf l) := by
  intro A s v m tm tb ps h₀ fr E hA hF G C hk0 hn0 hf0 h4f h44 hT hx hm
  obtain ⟨Xs, Ts⟩ := G.keeps hk0
  have B := bas_of fr h4f s.heap
  have hgs : ∀ b o, (hideAll s.heap [44]).get? b = some o → s.heap.get? b = some o := fun b o e => of_hideAll _ e
  generalize hideAll s.heap [44] = g at B hgs
  have hkg := B.sub hk0 hn0 hf0
  obtain ⟨X, T⟩ := G.keeps hkg
  revert Xs X; k_fill; intro Xs X
  refine callFH (binds := [(Str.ofString "node_structure", v), (Str.ofString "max_weight", .int m tm), (Str.ofString "balance_threshold", .int 1 tb)]) (fun y => if y = Str.ofString "balance_threshold" then some (.int 1 tb) else if y = Str.ofString "max_weight" then some (.int m tm) else if y = Str.ofString "node_structure" then some v else none) hA.room (Xs 49 _ rfl) rfl Ts.nolimit (codeRec_of Xs (by rfl)) (BindsTo.of_eq rfl) (by rfl) rfl rfl rfl
    (fun _ => rfl) (fun _ => rfl) fun L h₁ tk F0 N0 => ?_
  have F := B.fr' hgs F0
  have N := B.news h44 F0
  clear Xs Ts N0
  w_on
  have hh : A.handled = none := hA.hd
  obtain ⟨t, tk, u, rfl, ht, hl, ho⟩ := hx
  have htup : IsTup h₁ t _ := isTuple_keeps ht fun b o e => F.keep _ _ (hkg _ _ e)
  have hc0 : CalcOk w p loose mean mg mb (Is w 0) (StIs w 0) (wt 0) 0 := fun _ _ _ x => x.elim
  have hcall : ∀ (F2h : Heap) (m2 : Str → Option Value) (s2 : Shared) (Q : Value → Shared → Prop), Fr g L s2.heap m2 → News g L s2.heap [(44, tabObj ps)] →
      (∀ own5 t5 h5 tkk tk5 c5, Fr g L h5 m2 → News g L h5 ((44, tabObj ps) :: own5) → (∀ p ∈ own5, p.1 ≠ 44) → IsTup h5 t5 #[.int (leafW l) tk5, c5] → Q (.ref t5) { s2 with heap := h5, toks := tkk }) →
      ∀ A', Am (k + 5) A' → wpAny (model PySem.Challenge.rw_ez0045_01.row.prog w) A' (call (.ref 42) [u]) Q (fun _ _ => False) s2 := by
    intro _ m2 s2 Q F2 N2 hQ A' hA'
    refine wpAny_mono (calc_leaf (mono_is w 0) hc0 _ _ _ l g _ (hA'.less (by omega)) (Gd.mk (X.keeps F2.keep) (T.keeps F2.keep)) F2.keep ⟨hl, ho⟩) (fun r s₅ h₅ => ?_) fun _ _ e => e
    unfold Mine.Done at h₅
    obtain ⟨own5, t5, o5, tk5, c5, n5, ⟨⟨h5, tkk, rfl, k5⟩, hnew⟩, rfl, hmem, hcls, hdat, hvia⟩ := h₅
    obtain ⟨N5, hap⟩ := news_left F2 N2 k5 hnew
    exact hQ own5 t5 h5 tkk tk5 c5 (F2.keeps k5) (fun p hp => N5 p (by
      rcases List.mem_cons.mp hp with rfl | hp
      · exact List.mem_append_right _ (.head _)
      · exact List.mem_append_left _ hp)) (fun p hp => hap p hp _ (.head _)) ⟨o5, (hnew _ hmem).1, hcls, _, hdat⟩
  cases l with
  | none =>
    have e : u = .none := hl
    subst e
    refine wpH_of ?_
    k_steps
    unfold Mine.Stop
    rename Fr _ _ _ _ => F2
    rename News _ _ _ _ => N2
    refine hcall h₁ _ _ _ F2 N2 ?_ _ (hA.deeper _)
    intro own5 t5 h5 tkk tk5 c5 F5 N5 h44o htup5
    clear F2 N2 htup
    replace htup5 : IsTup h5 t5 #[.int 1 tk5, c5] := htup5
    k_steps
    · rename Fr _ _ _ _ => FZ
      rename News _ _ _ _ => NZ
      show Mine.Done _
      unfold Mine.Done
      exact ⟨_, ps, _, _, _, _, _, _, _, _, .leaf .none, rfl, B.kept FZ, (NZ _ (.tail _ (.head _))).1, TabStep.refl hT.1 _, fin_own B NZ (by intro e; cases e) h44o, rfl, .head _, rfl, rfl, fun _ _ _ => ⟨rfl, trivial⟩, ⟨fun _ => rfl, fun e => (nomatch e)⟩⟩
    · rename Fr _ _ _ _ => FZ
      rename News _ _ _ _ => NZ
      have hne4 := ne_of_obj NZ (.tail _ (.head _)) (.tail _ (.tail _ (.head _))) (by intro e; cases e)
      have NY := swap23 NZ
      show Mine.Done _
      unfold Mine.Done
      exact ⟨_, ps, _, _, _, _, _, _, _, _, .leaf .none, rfl, B.kept FZ, (NY _ (.tail _ (.head _))).1, TabStep.refl hT.1 _, fin_own B NY (by intro e; cases e) (fun p hp => by
        rcases List.mem_cons.mp hp with e | hp
        · rw [e]; exact hne4
        · exact h44o p hp), rfl, .head _, rfl, rfl, fun _ _ _ => ⟨rfl, trivial⟩, ⟨fun _ => rfl, fun e => (nomatch e)⟩⟩
  | int i =>
    obtain ⟨tu, rfl⟩ := hl
    have hlog : i.natAbs.log2 < 1920 := smallLog ho
    have hfit : ¬ (((txt i).length : Int) ≥ 2 ^ 63) := txt_fit ho
    refine wpH_execs_consA ?_
    refine hideQ fun K hK => ?_
    k_steps
    refine Mine.go_ (hK _ _ (Mine.go_ ?_))
    clear hK K
    try dsimp only
    refine wpH_execs_cons ?_
    refine wpH_If ?_
    refine hideQ fun K hK => ?_
    k_steps
    refine Mine.go_ (hK _ _ (Mine.go_ ?_))
    clear hK K
    try dsimp only
    rw [if_pos (by decide)]
    refine wpH_execs_consA ?_
    refine hideQ fun K hK => ?_
    k_steps
    refine Mine.go_ (hK _ _ (Mine.go_ ?_))
    clear hK K
    try dsimp only
    refine wpH_execs_consA ?_
    refine hideQ fun K hK => ?_
    k_steps
    unfold Mine.Stop
    rename Fr _ _ _ _ => F2
    rename News _ _ _ _ => N2
    refine hcall h₁ _ _ _ F2 N2 ?_ _ (hA.deeper _)
    intro own5 t5 h5 tkk tk5 c5 F5 N5 h44o htup5
    clear F2 N2 htup
    replace htup5 : IsTup h5 t5 #[.int (txt i).length tk5, c5] := htup5
    k_steps
    refine hK _ _ (Mine.go_ ?_)
    clear hK K
    try dsimp only
    refine wpH_execs_one ?_
    refine wpH_If ?_
    refine hideQ fun K hK => ?_
    k_steps
    refine Mine.go_ (hK _ _ (Mine.go_ ?_))
    clear hK K
    try dsimp only
    by_cases hle : ((txt i).length : Int) ≤ m
    · rw [if_pos (decide_eq_true hle)]
      refine wpH_of ?_
      refine hideQ fun K hK => ?_
      k_steps
      rename Fr _ _ _ _ => FZ
      rename News _ _ _ _ => NZ
      refine Mine.go_ (hK _ _ ?_)
      show Mine.Done _
      unfold Mine.Done
      exact ⟨_, ps, _, _, _, _, _, _, _, _, .leaf (.int i), rfl, B.kept FZ, (NZ _ (.tail _ (.head _))).1, TabStep.refl hT.1 _, fin_own B NZ (by intro e; cases e) h44o, rfl, .head _, rfl, rfl, fun _ _ _ => ⟨⟨_, rfl⟩, ho⟩, ⟨fun e => (nomatch e), fun _ => ⟨rfl, by simp [partC, leafPart, eqLeaf], rfl, hle, Int.natCast_nonneg _⟩⟩⟩
    rw [if_neg (by rw [decide_eq_true_eq]; exact hle)]
    have hlt : m < (txt i).length := by omega
    refine wpH_execs_one ?_
    refine wpH_If ?_
    refine hideQ fun K hK => ?_
    k_steps
    refine Mine.go_ (hK _ _ (Mine.go_ ?_))
    clear hK K
    try dsimp only
    rw [if_neg (by decide)]
    refine wpH_execs_one ?_
    refine wpH_If ?_
    refine hideQ fun K hK => ?_
    k_steps
    refine Mine.go_ (hK _ _ (Mine.go_ ?_))
    clear hK K
    try dsimp only
    rw [if_pos (by decide)]
    refine wpH_execs_consA ?_
    refine hideQ fun K hK => ?_
    k_steps
    unfold Mine.Stop
    refine PySem.P.str_of_int hlog ?_
    k_steps
    refine Mine.go_ (hK _ _ (Mine.go_ ?_))
    clear hK K
    try dsimp only
    have hszl : (Str.ofString (toString i)).length ≤ sizeLine := by
      have h := len_str_of_int i
      obtain ⟨h1, h2⟩ : -100 ≤ i ∧ i < 2900 := ho
      rw [sizeLine_eq]
      omega
    refine wpH_execs_consA ?_
    refine hideQ fun K hK => ?_
    k_steps
    refine Mine.go_ (hK _ _ (Mine.go_ ?_))
    clear hK K
    try dsimp only
    rename Fr _ _ _ _ => FY
    rename News _ _ _ _ => NY0
    have NY : News g L _ ((44, tabObj ps) :: own5) := fun p hp => NY0 p (.tail _ hp)
    clear NY0
    have hcut := cut_int ho hm hlt
    have hlen : ((Txt.slice (txt i) none (some m)).length : Int) = m := by
      rw [slice_take (txt i) hm (by omega)]
      show (((txt i).cps.toList.take m.toNat).toArray.size : Int) = m
      have e : (txt i).length = (txt i).cps.toList.length := by show (txt i).cps.size = _; simp
      rw [List.size_toArray, List.length_take]
      omega
    have hpt : (Txt.slice (txt i) none (some ((Txt.slice (txt i) none (some m)).length : Int)) == Txt.slice (txt i) none (some m)) = true := by rw [hlen]; exact beq_self_eq_true _
    have hfit : ¬ (((Txt.slice (txt i) none (some m)).length : Int) ≥ 2 ^ 63) := by
      have := txt_fit ho; omega
    have hlt2 := txt_small ho
    change Fr g L _ (fun y => if y = Str.ofString "truncated_str" then some (Value.str (Txt.slice (txt i) none (some m)) _) else _) at FY
    generalize Txt.slice (txt i) none (some m) = cs at FY hcut hlen hpt hfit
    rcases hcut with ⟨hcs, hm0⟩ | ⟨hcs, hm0⟩ | ⟨j, hj1, hj2, hj3, hj4⟩
    rotate_left 2
    · refine wpH_execs_one ?_
      refine wpH_of ?_
      refine hideQ fun K hK => ?_
      k_steps
      rename Fr _ _ _ _ => FZ
      rename News _ _ _ _ => NZ
      refine Mine.go_ (hK _ _ ?_)
      show Mine.Done _
      unfold Mine.Done
      subst hj3
      exact ⟨_, ps, _, _, _, _, _, _, _, _, .leaf (.int j), rfl, B.kept FZ, (NZ _ (.tail _ (.head _))).1, TabStep.refl hT.1 _, fin_own B NZ (by intro e; cases e) h44o, rfl, .head _, rfl, rfl, fun _ _ _ => ⟨⟨_, rfl⟩, ⟨hj1, hj2⟩⟩, ⟨fun e => (nomatch e), fun _ => ⟨rfl, by show (_ || (Txt.slice (txt i) none (some ((txt j).length : Int)) == txt j)) = true; rw [hpt, Bool.or_true], rfl, by omega, Int.natCast_nonneg _⟩⟩⟩
    all_goals
      have hb : cs.cps = #[] ∨ cs.cps = #[45] := by first | (left; rw [hcs]; rfl) | (right; rw [hcs]; rfl)
      have hto : TLeafOk (.str cs) := by
        refine ⟨by rcases hb with e | e <;> (rw [e]; decide), fun e => ?_⟩
        rw [hcs] at e
        exact absurd e (by decide)
      clear hcs hm0
      refine wpH_execs_one ?_
      refine wpH_Try_raise ?_
      refine wpH_execs_one ?_
      refine wpH_Return_tuple_raise (by rfl) (wpH_false (by decide) (wpH_Call_type1 (T := "int") (hideQ fun K hK => ?_)))
      k_steps
      refine Mine.go_ (hK _ _ (Mine.go_ ⟨rfl, ?_⟩))
      clear hK K
      try dsimp only
      refine hideQ fun K hK => ?_
      k_steps
      refine Mine.go_ (hK _ _ (Mine.go_ ?_))
      clear hK K
      try dsimp only
      refine call_int_bad hA.hd hb ?_
      intro h6 tk6 e1 hx1
      have F6 := FY.keeps hx1.keeps
      have N6 := NY.grown hx1.keeps
      obtain ⟨⟨l, hl1, hl2, hl3⟩, hns⟩ := hF
      have hex1 : Exc h6 e1 .none := by obtain ⟨ob, t', q1, q2, q3⟩ := hx1.there; exact ⟨ob, _, q1, q2, q3, rfl, rfl⟩
      have hnew1 : Heap.get? _ e1 = none := hx1.new
      refine caught (l := l) (fr := fr) (ctx := .none) (hE := s.heap) (by show A.frames.map _ = _; rw [hl1]; rfl) rfl hl2 ?_ hns B (fun g₂ B₂ => G.keeps (B₂.sub hk0 hn0 hf0)) F6 N6 h44o hex1 ?_ ?_ ?_ rfl rfl rfl (by rfl) ?_
      · intro x hx
        rcases List.mem_cons.mp hx with hx | hx
        · rw [hx]; intro q; cases q
        · exact hl3 x hx
      · cases q : g.get? e1 with
        | none => rfl
        | some o => rw [FY.keep _ _ q] at hnew1; cases hnew1
      · rintro rfl
        obtain ⟨o, _, _, q, _⟩ := FY.ns
        rw [q] at hnew1; cases hnew1
      · intro q hq r
        have := (NY q hq).1
        rw [r, hnew1] at this; cases this
      intro g₂ h7 E' B₂ F7 N7 hL7 hge
      obtain ⟨tb1, hL7⟩ := hL7
      have hheld : ∀ h8 : Heap, (∀ b o, h7.get? b = some o → h8.get? b = some o) → ∃ o vs, h8.get? e1 = some o ∧ o.data = .fields vs ∧ vs[2]? = some Value.none := fun h8 k8 => by
        obtain ⟨oe, vs, _, _, q1, _, q3, _, q5, _⟩ := hL7.at_
        exact ⟨oe, vs, k8 _ _ q1, q3, q5⟩
      clear X T hkg FY NY F6 N6
      have hkg := B₂.sub hk0 hn0 hf0
      obtain ⟨X, T⟩ := G.keeps hkg
      refine hideQ fun K hK => ?_
      k_steps
      unfold Mine.Stop
      rename Fr _ _ _ _ => F8
      rename News _ _ _ _ => N8
      refine float_bad_held (e1 := e1) hb ⟨rfl, hheld _ ?_⟩ ?_
      · intro b o q; exact q
      intro h9 tk9 e2 k9 hn9 hx9
      have hn9' : Heap.get? _ e2 = none := hn9
      refine caught (l := l) (fr := fr) (ctx := .ref e1) (hE := s.heap) (by show A.frames.map _ = _; rw [hl1]; rfl) rfl hl2 ?_ hns B₂ (fun g₂ B₂ => G.keeps (B₂.sub hk0 hn0 hf0)) (F8.keeps k9) (N8.grown k9) h44o hx9 ?_ ?_ ?_ rfl rfl rfl (by rfl) ?_
      · intro x hx
        rcases List.mem_cons.mp hx with hx | hx
        · rw [hx]; intro q; cases q
        · exact hl3 x hx
      · cases q : g₂.get? e2 with
        | none => rfl
        | some o => rw [F8.keep _ _ q] at hn9'; cases hn9'
      · rintro rfl
        obtain ⟨o, _, _, q, _⟩ := F8.ns
        rw [q] at hn9'; cases hn9'
      · intro q hq r
        have := (N8 q hq).1
        rw [r, hn9'] at this; cases this
      intro g₃ h10 E'' B₃ F10 N10 _ _
      clear X T hkg F8 N8
      have hkg := B₃.sub hk0 hn0 hf0
      obtain ⟨X, T⟩ := G.keeps hkg
      k_steps
      rename Fr _ _ _ _ => FZ
      rename News _ _ _ _ => NZ
      refine Mine.go_ (hK _ _ ?_)
      show Mine.Done _
      unfold Mine.Done
      exact ⟨_, ps, _, _, _, _, _, _, _, _, .leaf (.str cs), rfl, B₃.kept FZ, (NZ _ (.tail _ (.head _))).1, TabStep.refl hT.1 _, fin_own B₃ NZ (by intro e; cases e) h44o, rfl, .head _, rfl, rfl, fun _ _ _ => ⟨⟨_, rfl⟩, hto⟩, ⟨fun e => (nomatch e), fun _ => ⟨rfl, by simp only [partC, leafPart, txtL]; rw [hpt, Bool.or_true], rfl, by omega, Int.natCast_nonneg _⟩⟩⟩
  | str x =>
    obtain ⟨tu, rfl⟩ := hl
    have hfit : ¬ ((x.length : Int) ≥ 2 ^ 63) := by have := ho.1; have e : x.length = x.cps.size := rfl; omega
    refine wpH_of ?_
    k_steps
    unfold Mine.Stop
    rename Fr _ _ _ _ => F2
    rename News _ _ _ _ => N2
    refine hcall h₁ _ _ _ F2 N2 ?_ _ (hA.deeper _)
    intro own5 t5 h5 tkk tk5 c5 F5 N5 h44o htup5
    clear F2 N2 htup
    replace htup5 : IsTup h5 t5 #[.int x.length tk5, c5] := htup5
    k_steps
    · rename (x.length : Int) ≤ m => hle
      rename Fr _ _ _ _ => FZ
      rename News _ _ _ _ => NZ
      show Mine.Done _
      unfold Mine.Done
      exact ⟨_, ps, _, _, _, _, _, _, _, _, .leaf (.str x), rfl, B.kept FZ, (NZ _ (.tail _ (.head _))).1, TabStep.refl hT.1 _, fin_own B NZ (by intro e; cases e) h44o, rfl, .head _, rfl, rfl, fun _ _ _ => ⟨⟨_, rfl⟩, ⟨ho.1, fun e => ho.2 46 (by rw [e]; decide) rfl⟩⟩, ⟨fun e => (nomatch e), fun _ => ⟨rfl, by simp [partC, leafPart, strPart], rfl, hle, Int.natCast_nonneg _⟩⟩⟩
    · rename ¬ (x.length : Int) ≤ m => hgt
      unfold Mine.Stop
      rename Fr _ _ _ _ => F6
      rename News _ _ _ _ => N6
      refine wpAny_mono (trunc_call ((hA.deeper _).less (by omega)) (Gd.mk (X.keeps F6.keep) (T.keeps F6.keep)) ho.1 hm (by omega)) (fun r s₅ h₅ => ?_) fun _ _ e => e
      obtain ⟨⟨h7, tk7, rfl, k7⟩, ut, rfl⟩ := h₅
      have F7 := F6.keeps k7
      have N7 := N6.grown k7
      have hlt : m < x.length := by omega
      have htl := trunc_len hm hlt
      have hto := trunc_ok ho hm hlt
      have htp := trunc_part hm hlt
      have hfit : ¬ (((truncS x m).length : Int) ≥ 2 ^ 63) := by have := ho.1; have e : x.length = x.cps.size := rfl; omega
      clear F6 N6
      k_steps
      rename Fr _ _ _ _ => FZ
      rename News _ _ _ _ => NZ
      show Mine.Done _
      unfold Mine.Done
      exact ⟨_, ps, _, _, _, _, _, _, _, _, .leaf (.str (truncS x m)), rfl, B.kept FZ, (NZ _ (.tail _ (.head _))).1, TabStep.refl hT.1 _, fin_own B NZ (by intro e; cases e) h44o, rfl, .head _, rfl, rfl, fun _ _ _ => ⟨⟨_, rfl⟩, hto⟩, ⟨fun e => (nomatch e), fun _ => ⟨rfl, htp, rfl, by omega, Int.natCast_nonneg _⟩⟩⟩
end Mine

end PartMShrF

section PartMShr
open PySem PySem.W PyProof.Rows PySem.Calls
namespace Mine
variable {w : World} {p : Program} {loose : List Str} {mean : ExcName → Option Value} {mg mb : Str → Option Value}
def nbT : (n : Nat) → T n → Bool
  | 0 => fun x => x.elim
  | _ + 1 => isN
def partT : (n : Nat) → T n → J n → Bool
  | 0 => fun _ x => x.elim
  | n + 1 => partC (partT n) (wt n)
theorem nb_tis {β : Type} {R' : Rl β} (h : Heap) (v : Value) (y : TCont β) (hy : TContIs w R' h v y) : (isN y = true ∧ v = .none) ∨ (isN y = false ∧ Shape v) := by
  cases y with
  | leaf l =>
    obtain ⟨hl, _⟩ := hy
    cases l with
    | none => exact .inl ⟨rfl, hl⟩
    | int i => obtain ⟨t, rfl⟩ := hl; exact .inr ⟨rfl, .inl ⟨_, _, rfl⟩⟩
    | str x => obtain ⟨t, rfl⟩ := hl; exact .inr ⟨rfl, .inr (.inl ⟨_, _, rfl⟩)⟩
  | list ys b => obtain ⟨_, a, _, _, rfl, _⟩ := hy; exact .inr ⟨rfl, .inr (.inr ⟨_, rfl⟩)⟩
  | dict kvs => obtain ⟨_, _, a, _, rfl, _⟩ := hy; exact .inr ⟨rfl, .inr (.inr ⟨_, rfl⟩)⟩
theorem nb_t : ∀ (n : Nat) (h : Heap) (v : Value) (y : T n), TIs w n h v y → (nbT n y = true ∧ v = .none) ∨ (nbT n y = false ∧ Shape v)
  | 0, _, _, y, _ => y.elim
  | n + 1, h, v, y, hy => nb_tis h v y hy
theorem ShrAt.less {α β : Type} {S : Rl α} {R' : Rl β} {P : α → Int → β → Int → Prop} {k k' : Nat} {x : α} (h : ShrAt w p loose mean mg mb S R' P k x) (hk : k ≤ k') : ShrAt w p loose mean mg mb S R' P k' x :=
  fun A s v m tm tb ps h₀ fr E hA => h A s v m tm tb ps h₀ fr E (hA.less hk)
theorem shr_all : ∀ n, ShrOk w p loose mean mg mb (StIs w n) (TIs w n) (PJ (nbT n) (anyJ n) (partT n) (bare n)) (6 * n)
  | 0 => fun x => x.elim
  | n + 1 => fun x => by
    have ih : ShrOk w p loose mean mg mb (StIs w n) (TIs w n) (PJ (nbT n) (anyJ n) (partT n) (bare n)) (6 * n) := shr_all n
    have e : 6 * (n + 1) = 6 * n + 6 := by omega
    rw [e]
    cases x with
    | leaf l => exact shr_leaf (S := StIs w n) (R' := TIs w n) (f := wt n) (nb := nbT n) (any := anyJ n) (part := partT n) (bare := bare n) l
    | list xs => exact (shr_list (mono_stIs w n) (nb_t n) ih xs).less (by omega)
    | dict kvs => exact (shr_dict (mono_stIs w n) (nb_t n) ih kvs).less (by omega)
end Mine

end PartMShr

section PartMGreedy
open PySem PySem.W PyProof.Rows PySem.Calls
local macro_rules | `(tactic| walk_at "eval ListComp") => `(tactic| refine Mine.stop_ ?_)
local macro_rules | `(tactic| walk_at "call builtin:len") => `(tactic| ((with_reducible show wpAny _ _ (call (Value.builtin "len") [Value.str _ _]) _ _ _); refine len_str (by assumption) ?_))
local macro_rules | `(tactic| walk_at "subscriptTail") => `(tactic| ((with_reducible show wpAny _ _ (subscriptTail _ _ (Value.ref _) (Value.str _ _)) _ _ _); refine Mine.item_dict (by assumption) (by assumption) ?_ (by with_unfolding_all rfl) (by intro _; with_unfolding_all rfl)))
local macro_rules | `(tactic| walk_at "call ref") => `(tactic| refine Mine.stop_ ?_)
local macro_rules | `(tactic| walk_at "eval Name") => `(tactic| ((with_reducible show wpAny _ _ (eval (Expr.Name _ _) (compEnvC _ _ _ _)) _ _ _); first
  | (refine Mine.cname_L (by assumption) (by assumption) ?_ (by rfl) (by rfl) (by decide))
  | (refine Mine.cname_C (by rfl) (by assumption) ?_ (by rfl) (by rfl) (by decide))
  | (refine Mine.cname_K (by assumption) (by rfl) ?_ (by rfl) (by rfl) (by rfl) (by decide))
  | (refine Mine.cname_B (by assumption) (by rfl) (by boot_by_name) (by decide) ?_ (by rfl) (by rfl) (by rfl) (by rfl) (by decide))))
namespace Mine
variable {w : World} {p : Program} {loose : List Str} {mean : ExcName → Option Value} {mg mb : Str → Option Value}

local macro_rules | `(tactic| walk_at "assign Tuple") => `(tactic| ((with_reducible show wpAny _ _ (assign (Expr.Tuple _ _ _) _ (Value.ref _)) _ _ _); refine unpackN_ (by assumption) (by assumption) (by assumption) (by assumption) (by rfl) (by rfl) ?_; intro h' F' N'))
local macro_rules | `(tactic| walk_at "call type:float") => `(tactic| refine Mine.stop_ ?_)
local macro_rules | `(tactic| walk_at "eval Lambda") => `(tactic| refine Mine.stop_ ?_)
local macro_rules | `(tactic| walk_at "call builtin:sorted") => `(tactic| refine Mine.stop_ ?_)
local macro_rules | `(tactic| walk_at "call builtin:min") => `(tactic| (refine min_two_N (by assumption) (by assumption) (by assumption) ?_; intro h' tk' F' N'))
local macro_rules | `(tactic| walk_at "compareOp IsNot") => `(tactic| (refine Mine.isNot_none (by assumption) ?_))
local macro_rules | `(tactic| walk_at "exec For Tuple Name") => `(tactic| refine Mine.stop_ ?_)

local macro_rules | `(tactic| walk_at "eval Call Attribute") => `(tactic| ((with_reducible show wpAny _ _ (eval (Expr.Call (Expr.Attribute _ _ _) [] [] _) _) _ _ _); refine Mine.stop_ ?_))


theorem hide_list : ∀ (l : List Addr) (h : Heap) (b : Addr), (hideAll h l).get? b = if b ∈ l then none else h.get? b := fun l h b => by
  by_cases hb : b ∈ l
  · rw [if_pos hb]; exact hideAll_none l hb
  · rw [if_neg hb]
    cases e : h.get? b with
    | some o => exact hideAll_get l e hb
    | none =>
      cases q : (hideAll h l).get? b with
      | none => rfl
      | some o => rw [of_hideAll l q] at e; cases e
theorem pick_heap {h₀ h : Heap} {own : List (Addr × Obj)} (k : ∀ b o, h₀.get? b = some o → h.get? b = some o) (ho : ∀ p ∈ own, h.get? p.1 = some p.2) :
    ∃ hp : Heap, (∀ b o, h₀.get? b = some o → hp.get? b = some o) ∧ (∀ p ∈ own, hp.get? p.1 = some p.2) ∧ ∀ b o, hp.get? b = some o → h.get? b = some o ∧ (h₀.get? b = some o ∨ (b, o) ∈ own) := by
  refine ⟨hideAll h ((List.range h.objs.size).filter fun b => (h₀.get? b).isNone && !(own.any fun p => p.1 == b)), fun b o e => ?_, fun p hp => ?_, fun b o e => ?_⟩
  · rw [hide_list, if_neg]
    · exact k b o e
    · intro hm
      have := (List.mem_filter.mp hm).2
      rw [e] at this; simp at this
  · rw [hide_list, if_neg]
    · exact ho p hp
    · intro hm
      have := (List.mem_filter.mp hm).2
      rw [Bool.and_eq_true] at this
      have h2 := this.2
      rw [show (own.any fun q => q.1 == p.1) = true from List.any_eq_true.mpr ⟨p, hp, beq_self_eq_true _⟩] at h2
      cases h2
  · rw [hide_list] at e
    split at e
    · cases e
    · rename_i hm
      refine ⟨e, ?_⟩
      have hlt := Heap.lt_size e
      have hn : ((h₀.get? b).isNone && !(own.any fun p => p.1 == b)) = false := by
        cases q : ((h₀.get? b).isNone && !(own.any fun p => p.1 == b)) with
        | false => rfl
        | true => exact absurd (List.mem_filter.mpr ⟨List.mem_range.mpr hlt, q⟩) hm
      rcases Bool.and_eq_false_iff.mp hn with q | q
      · cases q2 : h₀.get? b with
        | none => rw [q2] at q; cases q
        | some o2 => rw [k b o2 q2] at e; cases e; exact .inl rfl
      · have q3 : (own.any fun p => p.1 == b) = true := by simpa using q
        obtain ⟨p, hp, hpb⟩ := List.any_eq_true.mp q3
        have hpb : p.1 = b := by simpa using hpb
        have := ho p hp
        rw [hpb, e] at this; cases this
        exact .inr (by rw [← hpb]; exact hp)
theorem calc_all : ∀ n, CalcOk w p loose mean mg mb (Is w n) (StIs w n) (wt n) (5 * n)
  | 0 => fun _ _ _ x => x.elim
  | n + 1 => by
    have ih : CalcOk w p loose mean mg mb (Is w n) (StIs w n) (wt n) (5 * n) := calc_all n
    have e : 5 * (n + 1) = 5 * n + 5 := by omega
    rw [e]
    exact calc_step (mono_is w n) ih

set_option maxHeartbeats 4000000 in
theorem greedy_call {n : Nat} (hn3 : n ≤ 3) (x : J n) (A : Around) (s : Shared) (v : Value) (m : Int) (tm tb : Tok) (ps : Array Value) (h₀ : Heap) (fr : List Addr) (E : Value → Shared → Prop) (hA : Am 30 A) (hF : Frs A fr s.heap) (G : Gd w p loose mean mg mb h₀) (C : CodeHd h₀ 48 44)
    (hk0 : ∀ b o, h₀.get? b = some o → s.heap.get? b = some o) (hn0 : h₀.get? 44 = none) (hf0 : ∀ b ∈ fr, h₀.get? b = none) (h4f : 44 ∉ fr) (h44 : s.heap.get? 44 = some (tabObj ps)) (hT : TabOk s.heap ps) (hx : Is w n h₀ v x) (hm : 0 ≤ m) :
    wpH (model PySem.Challenge.rw_ez0045_01.row.prog w) A (call (.ref 57) [v, .int m tm, .int 1 tb]) (fun r s' => Mine.Done <| ∃ ps' h' tkk, s' = { s with heap := h', toks := tkk } ∧ Kept fr s.heap h' ∧ h'.get? 44 = some (tabObj ps') ∧
      ((wt n x ≤ m ∧ r = v) ∨ (¬ wt n x ≤ m ∧ ∃ y k, TIs w n (hideAll h' (44 :: fr)) r y ∧ PJ (nbT n) (anyJ n) (partT n) (bare n) x m y k))) E s := by
  obtain ⟨Xs, Ts⟩ := G.keeps hk0
  have B := bas_of fr h4f s.heap
  have hgs : ∀ b o, (hideAll s.heap [44]).get? b = some o → s.heap.get? b = some o := fun b o e => of_hideAll _ e
  generalize hideAll s.heap [44] = g at B hgs
  have hkg := B.sub hk0 hn0 hf0
  obtain ⟨X, T⟩ := G.keeps hkg
  have hTg := B.ok h44 hF.ns hT
  revert Xs X; k_fill; intro Xs X
  refine callFH (binds := [(Str.ofString "json_data", v), (Str.ofString "max_weight", .int m tm), (Str.ofString "balance_threshold", .int 1 tb)]) (fun y => if y = Str.ofString "balance_threshold" then some (.int 1 tb) else if y = Str.ofString "max_weight" then some (.int m tm) else if y = Str.ofString "json_data" then some v else none) hA.room (Xs 57 _ rfl) rfl Ts.nolimit (codeRec_of Xs (by rfl)) (binds_K Xs rfl (by rfl) rfl rfl rfl) (by rfl) rfl rfl rfl
    (fun _ => rfl) (fun _ => rfl) fun L h₁ tk F0 N0 => ?_
  have F := B.fr' hgs F0
  have N := B.news h44 F0
  have hL0 : ∀ b ∈ L :: fr, h₀.get? b = none := fun b hb => (List.mem_cons.mp hb).elim (fun e => e ▸ frame_new hk0 F0) (hf0 b)
  have hL4 : 44 ∉ L :: fr := fun hb => (List.mem_cons.mp hb).elim (fun e => (N _ (.head _)).2.1 e) h4f
  clear Xs Ts N0
  w_on
  have hh : A.handled = none := hA.hd
  refine wpH_execs_consA ?_
  refine hideQ fun K hK => ?_
  k_steps
  unfold Mine.Stop
  rename Fr _ _ _ _ => F2
  rename News _ _ _ _ => N2
  refine wpAny_mono (calc_all n _ _ _ x h₀ _ ((hA.deeper _).less (by omega)) (Gd.mk (X.keeps F2.keep) (T.keeps F2.keep)) (fun b o e => F2.keep _ _ (hkg _ _ e)) hx) (fun r s₅ h₅ => ?_) fun _ _ e => e
  unfold Mine.Done at h₅
  obtain ⟨own5, t5, o5, tk5, c5, n5, ⟨⟨h5, tkk, rfl, k5⟩, hnew⟩, rfl, hmem, hcls, hdat, hvia⟩ := h₅
  have F5 := F2.keeps k5
  obtain ⟨N5a, hap⟩ := news_left F2 N2 k5 hnew
  have N5 : News g L h5 ((44, tabObj ps) :: own5) := fun p hp => N5a p (by
    rcases List.mem_cons.mp hp with rfl | hp
    · exact List.mem_append_right _ (.head _)
    · exact List.mem_append_left _ hp)
  have h44o : ∀ p ∈ own5, p.1 ≠ 44 := fun p hp => hap p hp _ (.head _)
  have htup5 : IsTup h5 t5 #[.int (wt n x) tk5, c5] := ⟨o5, (hnew _ hmem).1, hcls, _, hdat⟩
  clear F2 N2 N5a hnew
  k_steps
  refine hK _ _ (Mine.go_ ?_)
  clear hK K
  try dsimp only
  refine wpH_execs_cons ?_
  refine wpH_If ?_
  refine hideQ fun K hK => ?_
  k_steps
  refine Mine.go_ (hK _ _ (Mine.go_ ?_))
  clear hK K
  try dsimp only
  by_cases hle : wt n x ≤ m
  · rw [if_pos (decide_eq_true hle)]
    refine wpH_of ?_
    refine hideQ fun K hK => ?_
    k_steps
    rename Fr _ _ _ _ => FZ
    rename News _ _ _ _ => NZ
    refine Mine.go_ (hK _ _ ?_)
    show Mine.Done _
    unfold Mine.Done
    exact ⟨ps, _, _, rfl, B.kept FZ, (NZ _ (.head _)).1, .inl ⟨hle, rfl⟩⟩
  rw [if_neg (by rw [decide_eq_true_eq]; exact hle)]
  refine wpH_of ?_
  refine wpAny_execs_nil ?_
  refine Mine.go_ ?_
  refine wpH_execs_cons ?_
  refine wpH_Assign ?_
  refine wpH_Call_def3 ?_
  refine hideQ fun K hK => ?_
  k_steps
  refine Mine.go_ (hK _ _ (Mine.go_ ⟨_, rfl, ?_⟩))
  clear hK K
  try dsimp only
  refine hideQ fun K hK => ?_
  k_steps
  refine Mine.go_ (hK _ _ (Mine.go_ ?_))
  clear hK K
  try dsimp only
  rename Fr _ _ _ _ => F9
  rename News _ _ _ _ => N9
  refine ⟨_, _, F9.keep _ _ (X 49 _ rfl), rfl, ?_⟩
  obtain ⟨hp, p1, p2, p3⟩ := pick_heap (h₀ := h₀) (own := own5) (fun b o e => F9.keep _ _ (hkg b o e)) (fun q hq => (N9 q (.tail _ hq)).1)
  have hfrg : ∀ b ∈ fr, ∃ o, g.get? b = some o := fun b hb => by
    obtain ⟨_, o, _, _, q, _⟩ := hF.ns b hb
    obtain ⟨o', q', _⟩ := B.fr b hb o q
    exact ⟨o', q'⟩
  have pn : ∀ b, h₀.get? b = none → (∀ q ∈ own5, q.1 ≠ b) → hp.get? b = none := fun b h1 h2 => by
    cases e : hp.get? b with
    | none => rfl
    | some o => rcases (p3 b o e).2 with e' | e'
                · rw [h1] at e'; cases e'
                · exact absurd rfl (h2 _ e')
  have hofr : ∀ q ∈ own5, q.1 ∉ fr := fun q hq hb => by
    obtain ⟨o, e⟩ := hfrg _ hb
    rw [(N9 q (.tail _ hq)).2.2] at e; cases e
  have hst := hvia hp p1 p2
  have hTcur : TabOk _ ps := hTg.mono F9.keep
  refine wpH_mono (shr_all n x _ _ c5 m tm tb ps hp (L :: fr) _ ((hA.deeper _).less (by omega)) (hF.deeper B F9 rfl (fun e => by cases e)) (G.keeps p1) (C.keeps p1) (fun b o e => (p3 b o e).1) (pn _ hn0 h44o) (fun b hb => pn b (hL0 b hb) fun q hq r => ?_) hL4 (N9 _ (.head _)).1 hTcur hst hm) (fun r s₆ h₆ => ?_) fun _ _ e => e
  · rcases List.mem_cons.mp hb with e | e
    · exact (N9 q (.tail _ hq)).2.1 (r.trans e)
    · exact hofr q hq (r ▸ e)
  unfold Mine.Done at h₆
  obtain ⟨own', ps2, h6, tkk6, t6, o6, c6, n6, tk6, k6, y6, rfl, kk, h644, hst2, hnew, rfl, hmem6, hcls6, hdat6, hvia6, hP⟩ := h₆
  obtain ⟨g₂, B₂, F10, hgn, _⟩ := B.step hF.ns F9 N9 kk
  obtain ⟨N10, hap44, hap6⟩ := news44 B hF.ns F9 N9 hgn kk h644 h44o hnew
  have htup6 : IsTup h6 t6 #[c6, .int n6 tk6] := ⟨o6, (hnew _ hmem6).1, hcls6, _, hdat6⟩
  clear X T hkg F9 N9 htup5
  have hkg := B₂.sub hk0 hn0 hf0
  obtain ⟨X, T⟩ := G.keeps hkg
  refine hideQ fun K hK => ?_
  k_steps
  refine Mine.go_ (hK _ _ (Mine.go_ (wpH_of ?_)))
  clear hK K
  try dsimp only
  refine hideQ fun K hK => ?_
  k_steps
  rename Fr _ _ _ _ => FZ
  rename News _ _ _ _ => NZ
  refine Mine.go_ (hK _ _ ?_)
  show Mine.Done _
  unfold Mine.Done
  have hfr2 : ∀ q ∈ own' ++ own5, q.1 ∉ 44 :: fr := fun q hq hb => by
    have h1 := (NZ q (.tail _ hq)).2.2
    rcases List.mem_cons.mp hb with e | hb
    · rcases List.mem_append.mp hq with hq | hq
      · exact hap44 q hq e
      · exact h44o q hq e
    · obtain ⟨_, o, _, _, e, _⟩ := hF.ns _ hb
      obtain ⟨o', e', _⟩ := B₂.fr _ hb o e
      rw [h1] at e'; cases e'
  refine ⟨ps2, _, _, rfl, B₂.kept FZ, (NZ _ (.head _)).1, .inr ⟨hle, y6, n6, hvia6 _ (fun b o e => ?_) (fun q hq => ?_), hP⟩⟩
  · rcases (p3 b o e).2 with e' | e'
    · refine hideAll_get _ (FZ.keep _ _ (hkg _ _ e')) fun hb => ?_
      rcases List.mem_cons.mp hb with q | q
      · rw [q, hn0] at e'; cases e'
      · rw [hf0 b q] at e'; cases e'
    · exact hideAll_get _ (NZ (b, o) (.tail _ (List.mem_append_right _ e'))).1 (hfr2 (b, o) (List.mem_append_right _ e'))
  · exact hideAll_get _ (NZ q (.tail _ (List.mem_append_left _ hq))).1 (hfr2 q (List.mem_append_left _ hq))
end Mine

end PartMGreedy

section PartMNext
open PySem PySem.W PyProof.Rows PySem.Calls
local macro_rules | `(tactic| walk_at "eval ListComp") => `(tactic| refine Mine.stop_ ?_)
local macro_rules | `(tactic| walk_at "call builtin:len") => `(tactic| ((with_reducible show wpAny _ _ (call (Value.builtin "len") [Value.str _ _]) _ _ _); refine len_str (by assumption) ?_))
local macro_rules | `(tactic| walk_at "subscriptTail") => `(tactic| ((with_reducible show wpAny _ _ (subscriptTail _ _ (Value.ref _) (Value.str _ _)) _ _ _); refine Mine.item_dict (by assumption) (by assumption) ?_ (by with_unfolding_all rfl) (by intro _; with_unfolding_all rfl)))
local macro_rules | `(tactic| walk_at "call ref") => `(tactic| refine Mine.stop_ ?_)
local macro_rules | `(tactic| walk_at "eval Name") => `(tactic| ((with_reducible show wpAny _ _ (eval (Expr.Name _ _) (compEnvC _ _ _ _)) _ _ _); first
  | (refine Mine.cname_L (by assumption) (by assumption) ?_ (by rfl) (by rfl) (by decide))
  | (refine Mine.cname_C (by rfl) (by assumption) ?_ (by rfl) (by rfl) (by decide))
  | (refine Mine.cname_K (by assumption) (by rfl) ?_ (by rfl) (by rfl) (by rfl) (by decide))
  | (refine Mine.cname_B (by assumption) (by rfl) (by boot_by_name) (by decide) ?_ (by rfl) (by rfl) (by rfl) (by rfl) (by decide))))
namespace Mine
variable {w : World} {p : Program} {loose : List Str} {mean : ExcName → Option Value} {mg mb : Str → Option Value}


def nextV (ns : List Int) (i : Nat) (lim : Int) : Int := match ns[i]? with
  | some z => z.fmod lim
  | none => 0
theorem nextV_range {ns : List Int} {i : Nat} {lim : Int} (h : 0 < lim) : 0 ≤ nextV ns i lim ∧ nextV ns i lim < lim := by
  unfold nextV
  split
  · exact ⟨Int.fmod_nonneg_of_pos _ h, Int.fmod_lt_of_pos _ h⟩
  · exact ⟨Int.le_refl _, h⟩

set_option maxHeartbeats 4000000 in
theorem next_call {A : Around} {s : Shared} {a sc : Addr} {vs : List Value} {ns : List Int} {i : Nat} {t tl : Tok} {n : Nat} {lim : Int} {h₀ : Heap} {E : Value → Shared → Prop} (hA : Am 2 A) (G : Gd w p loose mean mg mb h₀) (hk0 : ∀ b o, h₀.get? b = some o → s.heap.get? b = some o) (ha0 : h₀.get? a = none)
    (ha : s.heap.get? a = some (W.listOf #[.ref sc, .int i t] n)) (hsc : h₀.IsList sc (List.toArray vs)) (hI : IntsAre vs ns) (hl : ns.length ≤ 63) (hlim : 0 < lim) :
    wpAny (model PySem.Challenge.rw_ez0045_01.row.prog w) A (call (.ref 64) [.ref a, .int lim tl]) (fun r s' => Mine.Done <| ∃ h' tk t' tr, s' = { s with heap := h', toks := tk } ∧ r = .int (nextV ns i lim) tr ∧ h'.get? a = some (W.listOf #[.ref sc, .int (i + 1 : Nat) t'] n) ∧ ∀ b o, b ≠ a → s.heap.get? b = some o → h'.get? b = some o) E s := by
  obtain ⟨Xs, Ts⟩ := G.keeps hk0
  have hgs : ∀ b o, (hideAll s.heap [a]).get? b = some o → s.heap.get? b = some o := fun b o e => of_hideAll _ e
  have hup : ∀ b o, b ≠ a → s.heap.get? b = some o → (hideAll s.heap [a]).get? b = some o := fun b o hb e => hideAll_get _ e fun hm => hb (List.mem_singleton.mp hm)
  have hga : (hideAll s.heap [a]).get? a = none := hideAll_none _ (.head _)
  have hsz : (hideAll s.heap [a]).objs.size = s.heap.objs.size := hideAll_size _ _
  generalize hideAll s.heap [a] = g at hgs hup hga hsz
  have hkg : ∀ b o, h₀.get? b = some o → g.get? b = some o := fun b o e => hup b o (fun q => by rw [q, ha0] at e; cases e) (hk0 b o e)
  obtain ⟨X, T⟩ := G.keeps hkg
  revert Xs X; k_fill; intro Xs X
  refine callF' (binds := [(Str.ofString "state", .ref a), (Str.ofString "limit", .int lim tl)]) (fun y => if y = Str.ofString "limit" then some (.int lim tl) else if y = Str.ofString "state" then some (.ref a) else none) hA.room (Xs 64 _ rfl) rfl Ts.nolimit (codeRec_of Xs (by rfl)) (BindsTo.of_eq rfl) (by rfl) rfl rfl rfl
    (fun _ => rfl) (fun _ => rfl) fun L h₁ tk F0 N0 => ?_
  have F : Fr g L h₁ _ := ⟨F0.ns, fun b o e => F0.keep b o (hgs b o e), by rw [hsz]; exact F0.above⟩
  have N : News g L h₁ [(a, W.listOf #[.ref sc, .int i t] n)] := fun q hq => by
    rw [List.mem_singleton.mp hq]
    exact ⟨F0.keep _ _ ha, fun (e : a = L) => absurd (Heap.lt_size ha) (Nat.not_lt.mpr (by rw [e]; exact F0.above)), hga⟩
  clear Xs Ts N0 F0
  w_on
  have hh : A.handled = none := hA.hd
  have hsl : h₁.IsList sc (List.toArray vs) := isList_keeps hsc fun b o e => F.keep _ _ (hkg _ _ e)
  k_steps
  rename Fr _ _ _ _ => F2
  rename News _ _ _ _ => N2
  have hlen : vs.length = ns.length := IntsAre.length hI
  refine' PyProof.Rows.len_list ?k1 ?k2 ?_
  case k1 => exact isList_keeps hsc fun b o e => F2.keep _ _ (hkg _ _ e)
  case k2 => rw [List.size_toArray]; omega
  rw [List.size_toArray, hlen]
  k_steps
  · rename (_ : Int) < _ => hgt
    have hv : nextV ns i lim = 0 := by
      unfold nextV
      rw [List.getElem?_eq_none (by omega)]
    show Mine.Done _
    unfold Mine.Done
    rw [hv]
    exact ⟨_, _, _, _, rfl, rfl, (N2 _ (.head _)).1, fun b o hb e => F2.keep b o (hup b o hb e)⟩
  · rename ¬ (_ : Int) < _ => hgt
    have hi : i < ns.length := by omega
    refine' item_list_ints ?h1 hI ?h2 ?h3 ?h4 ?h5 ?h6 ?h7
    case h1 => exact isList_keeps hsc fun b o e => F2.keep _ _ (hkg _ _ e)
    case h2 => omega
    case h3 => omega
    case h4 => omega
    case h6 => with_unfolding_all rfl
    case h7 => intro _; with_unfolding_all rfl
    intro tz
    have hidx : ((i : Int) + 1 - 1).toNat = i := by omega
    have hv : nextV ns i lim = (ns.getD ((i : Int) + 1 - 1).toNat 0).fmod lim := by
      unfold nextV
      rw [hidx, List.getElem?_eq_getElem hi, List.getD_eq_getElem?_getD, List.getElem?_eq_getElem hi]
      rfl
    have hlz : lim ≠ 0 := by omega
    k_steps
    show Mine.Done _
    unfold Mine.Done
    rw [hv]
    exact ⟨_, _, _, _, rfl, rfl, (N2 _ (.head _)).1, fun b o hb e => F2.keep b o (hup b o hb e)⟩
end Mine

end PartMNext

section PartMDComp
open PySem PySem.W PyProof.Rows PySem.Calls
namespace Mine

/-! ## A dict comprehension over a range whose parts change what is new -/
abbrev apart3 (I C D : Addr) (l : List (Addr × Obj)) : Prop := ∀ p ∈ l, p.1 ≠ I ∧ p.1 ≠ C ∧ p.1 ≠ D
section
variable {w : World} {A : Around} {E : Value → Shared → Prop} {s : Shared} {h₀ : Heap} {L : Addr} {m : Str → Option Value} {env : Env}
theorem dict_loop {knd : KeyKind prog w Str} {kx vx iter : Expr} {x : Str} {px : Pos} {scope : Scope} {cl : List (Str × Addr)} {pos : Pos} {s₂ : Shared} {I D C : Addr} {n : Nat} {R : Result → Shared → Prop} {oD₀ : Obj} {m₀ : Str → Option Value} {news : List (Addr × Obj)}
    (hh : A.handled = none) (hsz : n ≤ sizeLine) (hkind : scope.kind = .function) (hx : scope.names.lookup x = some .local) (J : Nat → List (Str × Value) → List (Addr × Obj) → Prop)
    (hst : IsRangeIter s₂.heap I 0 n 1) (hIL : L ≠ I) (hI₀ : h₀.get? I = none) (hC₀ : h₀.get? C = none) (hD₀ : h₀.get? D = none) (hCL : C ≠ L) (hDL : D ≠ L) (hIC : I ≠ C) (hID : I ≠ D) (hCD : C ≠ D)
    (F : Fr h₀ L s₂.heap m) (hn : s₂.heap.Ns C m₀) (N : News h₀ L s₂.heap ((D, oD₀) :: news)) (hd : oD₀.IsDictOf knd []) (off : apart3 I C D news) (h0 : J 0 [] news)
    (step : ∀ i kvs news' oI oC oD m₂ h tk E', i < n → J i kvs news' → kvs.length ≤ i → apart3 I C D news' → (∃ es ep, oC.data = .dict es ep) → Fr h₀ L h m → News h₀ L h ((I, oI) :: (C, oC) :: (D, oD) :: news') → h.Ns C m₂ →
      wpAny (model prog w) A (eval kx (compEnvC scope cl C env)) (fun kv s₄ => ∃ k tkk h4 tk4 news4, kv = .str k tkk ∧ knd.is k kv = true ∧ s₄ = { s₂ with heap := h4, toks := tk4 } ∧ Fr h₀ L h4 m ∧ News h₀ L h4 ((I, oI) :: (C, oC) :: (D, oD) :: news4) ∧
        wpAny (model prog w) A (eval vx (compEnvC scope cl C env)) (fun y s₅ => ∃ h5 tk5 news5, s₅ = { s₂ with heap := h5, toks := tk5 } ∧ Fr h₀ L h5 m ∧ News h₀ L h5 ((I, oI) :: (C, oC) :: (D, oD) :: news5) ∧ apart3 I C D news5 ∧ J (i + 1) (stored kvs k y) news5) E' s₄) E' { s₂ with heap := h, toks := tk })
    (hR : ∀ oD h' tk kvs news' m', Fr h₀ L h' m → News h₀ L h' ((D, oD) :: news') → h'.Ns C m' → (∀ p ∈ (D, oD) :: news', p.1 ≠ C) → oD.IsDictOf knd kvs → J n kvs news' → R (.ok .next) { s₂ with heap := h', toks := tk }) :
    codeAny (model prog w) A (.compLoop (.DictComp kx vx [⟨.Name x px, iter, [], 0⟩] scope pos) 0 (.ref I) (.ref D) (compEnvC scope cl C env)) R s₂ := by
  refine codeAny_compLoop_testsD
    (fun k s' => ∃ h' tk i kvs m' news' oD, s' = { s₂ with heap := h', toks := tk } ∧ i ≤ n ∧ k = n + 1 - i ∧ IsRangeIter h' I (0 + (i : Nat) * 1) ((n : Int) - (i : Nat)) 1 ∧ Fr h₀ L h' m ∧ h'.Ns C m' ∧ News h₀ L h' ((D, oD) :: news') ∧ oD.IsDictOf knd kvs ∧ kvs.length ≤ i ∧ apart3 I C D news' ∧ J i kvs news') ?_ (n + 1)
    ⟨s₂.heap, s₂.toks, 0, [], _, news, oD₀, rfl, Nat.zero_le _, rfl, by simpa using hst, F, hn, N, hd, Nat.le_refl _, off, h0⟩
  rintro k s' ⟨h', tk, i, kvs, m', news', oD, rfl, hi, rfl, hst', F', hn', N', hd', hlen, off', hJ⟩
  have W : Walks prog w A I [I] [I] n (fun i v => ∃ t, v = .int (0 + (i : Int)) t) (fun i h => IsRangeIter h I (0 + (i : Nat) * 1) ((n : Int) - (i : Nat)) 1) := LCg.range_walks hh 0 n
  by_cases hlt : i < n
  · refine W.item i _ _ _ hlt hst' fun v h₂ tk₂ hPv hst₂ hk₂ => ?_
    refine wpAny_assign_Name (wpAny_storeName_local (lookup_relabel_local hx) (hn'.at' fun o e => hk₂ _ o (by simpa using Ne.symm hIC) e) (fun h₃ hn₃ hs₃ => ?_) (by simp [compEnvC, relabel, hkind]))
    refine wpAny_tests_nil ?_
    simp only [if_true]
    have heI : ∃ oI, h₃.get? I = some oI ∧ h₂.get? I = some oI := by
      have e : h₂.get? I = some _ := hst₂
      exact ⟨_, hs₃.extBut _ _ hIC e, e⟩
    obtain ⟨oI, heI, heI2⟩ := heI
    obtain ⟨oC, heC, hoC⟩ := LCg.ns_obj hn₃
    have F₃ : Fr h₀ L h₃ m := (LCg.fr_but F' hk₂ hIL hI₀).change hs₃ hCL hC₀
    have N₂ : News h₀ L h₂ ((D, oD) :: news') := LCg.news_but N' hk₂ fun p hp => by
      rcases List.mem_cons.mp hp with rfl | hp
      · exact Ne.symm hID
      · exact (off' p hp).1
    have N₃ : News h₀ L h₃ ((I, oI) :: (C, oC) :: (D, oD) :: news') := fun p hp => by
      rcases List.mem_cons.mp hp with rfl | hp
      · exact ⟨heI, Ne.symm hIL, hI₀⟩
      · rcases List.mem_cons.mp hp with rfl | hp
        · exact ⟨heC, hCL, hC₀⟩
        · have z := N₂ p hp
          refine ⟨hs₃.extBut _ _ ?_ z.1, z.2⟩
          rcases List.mem_cons.mp hp with rfl | hp
          · exact Ne.symm hCD
          · exact (off' p hp).2.1
    refine wpAny_mono (step i kvs news' oI oC oD _ h₃ _ _ hlt hJ hlen off' (let ⟨es, ep, e, _⟩ := hoC; ⟨es, ep, e⟩) F₃ N₃ hn₃) (fun kv s₄ h₄ => ?_) fun _ _ e => e
    obtain ⟨kk, tkk, h4, tk4, news4, rfl, hkk, rfl, F4, N4, hval⟩ := h₄
    refine wpAny_mono hval (fun y s₅ h₅ => ?_) fun _ _ e => e
    obtain ⟨h5, tk5, news5, rfl, F5, N5, off5, hJ5⟩ := h₅
    have zI := (N5 (I, oI) (.head _)).1
    have zC := (N5 (C, oC) (.tail _ (.head _))).1
    have zD := (N5 (D, oD) (.tail _ (.tail _ (.head _)))).1
    refine wpAny_dictSet_pairs (hsz := by omega) hkk (Heap.dictOf_iff.mpr ⟨oD, zD, hd'⟩) fun h₆ hl₆ hs₆ => ?_
    obtain ⟨oD6, eD6, hD6⟩ := Heap.dictOf_iff.mp hl₆
    refine ⟨n + 1 - (i + 1), by omega, h₆, _, i + 1, stored kvs kk y, _, news5, oD6, rfl, hlt, rfl, ?_, F5.change hs₆ hDL hD₀, (hoC.ns zC).sameBut hs₆ hCD, fun p hp => ?_, hD6, ?_, off5, hJ5⟩
    · have e1 : h₂.get? I = some _ := hst₂
      have e2 : h₆.get? I = some oI := hs₆.extBut _ _ hID zI
      show h₆.get? I = some _
      rw [e2, ← heI2]; exact e1
    · rcases List.mem_cons.mp hp with rfl | hp
      · exact ⟨eD6, hDL, hD₀⟩
      · have z := N5 p (.tail _ (.tail _ (.tail _ hp)))
        exact ⟨hs₆.extBut _ _ (off5 p hp).2.2 z.1, z.2⟩
    · have := stored_length_le kvs kk y; omega
  · obtain rfl : i = n := Nat.le_antisymm hi (Nat.not_lt.mp hlt)
    refine W.done _ _ _ hst' fun h₂ tk₂ hk₂ => ?_
    exact hR oD h₂ tk₂ kvs news' _ (LCg.fr_but F' hk₂ hIL hI₀) (LCg.news_but N' hk₂ fun p hp => by
      rcases List.mem_cons.mp hp with rfl | hp
      · exact Ne.symm hID
      · exact (off' p hp).1) (hn'.at' fun o e => hk₂ _ o (by simpa using Ne.symm hIC) e) (fun p hp => by
      rcases List.mem_cons.mp hp with rfl | hp
      · exact Ne.symm hCD
      · exact (off' p hp).2.1) hd' hJ

theorem dict_range {knd : KeyKind prog w Str} {kx vx iter : Expr} {x : Str} {px : Pos} {scope : Scope} {cl : List (Str × Addr)} {pos : Pos} {Q : Value → Shared → Prop}
    (hclos : closureFor scope env = pure cl) (hcell : ∀ y ∈ scope.names, y.2 ≠ .cell) (hkind : scope.kind = .function)
    (hnames : ∀ y ∈ scope.names, y.2 = .local → scope.names.lookup y.1 = some .local) (hx : scope.names.lookup x = some .local)
    (h : wpAny (model prog w) A (eval iter env) (fun xv s₁ => Mine.Stop (∃ r b t u v n news, ∃ J : Nat → List (Str × Value) → List (Addr × Obj) → Prop, xv = .ref r ∧ A.handled = none ∧ Fr h₀ L s₁.heap m ∧ News h₀ L s₁.heap news ∧ IsRange s₁.heap r 0 b 1 t u v ∧ Builtin.Range.small 0 b 1 = true ∧ Builtin.Range.rangeSize 0 b 1 = ((n : Nat) : Int) ∧ n ≤ sizeLine ∧ J 0 [] news ∧
      (∀ i kvs news' I C D oI oC oD m₂ h tk E', i < n → J i kvs news' → apart3 I C D news' → I ≠ C → I ≠ D → C ≠ D → (∃ es ep, oC.data = .dict es ep) → Fr h₀ L h m → News h₀ L h ((I, oI) :: (C, oC) :: (D, oD) :: news') → h.Ns C m₂ →
        wpAny (model prog w) A (eval kx (compEnvC scope cl C env)) (fun kv s₄ => ∃ k tkk h4 tk4 news4, kv = .str k tkk ∧ knd.is k kv = true ∧ s₄ = { s₁ with heap := h4, toks := tk4 } ∧ Fr h₀ L h4 m ∧ News h₀ L h4 ((I, oI) :: (C, oC) :: (D, oD) :: news4) ∧
          wpAny (model prog w) A (eval vx (compEnvC scope cl C env)) (fun y s₅ => ∃ h5 tk5 news5, s₅ = { s₁ with heap := h5, toks := tk5 } ∧ Fr h₀ L h5 m ∧ News h₀ L h5 ((I, oI) :: (C, oC) :: (D, oD) :: news5) ∧ apart3 I C D news5 ∧ J (i + 1) (stored kvs k y) news5) E' s₄) E' { s₁ with heap := h, toks := tk }) ∧
      ∀ D oD h' tk kvs news', (@LT.lt Nat _ L D) → Fr h₀ L h' m → News h₀ L h' ((D, oD) :: news') → oD.IsDictOf knd kvs → J n kvs news' → Q (.ref D) { s₁ with heap := h', toks := tk })) E s)
    (hs : ∀ x, foldedSetIterable iter env x = pure x := by intro _; rfl) :
    wpAny (model prog w) A (eval (.DictComp kx vx [⟨.Name x px, iter, [], 0⟩] scope pos) env) Q E s := by
  rw [arm_eval_DictComp]
  refine wpAny_comprehension_free (use := none) rfl hs hclos hkind hnames (wpAny_mono h (fun xv s₁ h₁ => ?_) fun _ _ e => e)
  obtain ⟨r, b, t, u, v, n, news, J, rfl, hh, F, N, hr, hsm, hrn, hsz, h0, hstep, hQ⟩ := h₁
  refine wpAny_pyIter_range hr hsm ?_
  have hIr : IsRangeIter (s₁.heap.push { cls := .type "range_iterator", data := .fields #[rawInt 0, rawInt (Builtin.Range.rangeSize 0 b 1), rawInt 1] }) s₁.heap.objs.size 0 n 1 := by
    show Heap.get? _ _ = some _
    rw [hrn]; simpa using Heap.get?_push_size _ rfl
  have F1 := F.keeps (h' := s₁.heap.push { cls := .type "range_iterator", data := .fields #[rawInt 0, rawInt (Builtin.Range.rangeSize 0 b 1), rawInt 1] }) fun _ _ e => Heap.get?_push_of_some _ e
  have N1 := N.grown (h' := s₁.heap.push { cls := .type "range_iterator", data := .fields #[rawInt 0, rawInt (Builtin.Range.rangeSize 0 b 1), rawInt 1] }) fun _ _ e => Heap.get?_push_of_some _ e
  have hIsz : (s₁.heap.push { cls := .type "range_iterator", data := .fields #[rawInt 0, rawInt (Builtin.Range.rangeSize 0 b 1), rawInt 1] }).objs.size = s₁.heap.objs.size + 1 := Heap.size_push ..
  generalize s₁.heap.push { cls := .type "range_iterator", data := .fields #[rawInt 0, rawInt (Builtin.Range.rangeSize 0 b 1), rawInt 1] } = H1 at hIr F1 N1 hIsz ⊢
  have hIlt : s₁.heap.objs.size < H1.objs.size := by omega
  have noff : ∀ p ∈ news, p.1 < s₁.heap.objs.size := fun p hp => Heap.lt_size (N p hp).1
  have hLlt : L < s₁.heap.objs.size := F.ns.lt
  have fresh₀ : ∀ a, s₁.heap.objs.size ≤ a → h₀.get? a = none := fun a ha => by
    cases e : h₀.get? a with
    | none => rfl
    | some o' => exact absurd (Heap.lt_size (F.keep a o' e)) (Nat.not_lt.mpr ha)
  refine wpAny_newObj_type (wpAny_newFunctionEnv hcell (by intro y hy; simp at hy) (fun h₁ hns₁ hsb₁ => ?_) hkind)
  dsimp only at hns₁ hsb₁ ⊢
  have hnew : (H1.push { cls := .type "dict", dict := none, data := .dict #[] }).DictOf knd H1.objs.size [] := Heap.DictOf.new H1
  generalize hH2 : H1.push { cls := .type "dict", dict := none, data := .dict #[] } = H2 at hns₁ hsb₁ hnew ⊢
  have hC : H2.objs.size = H1.objs.size + 1 := by rw [← hH2, Heap.size_push]
  have old : ∀ b o, H1.get? b = some o → h₁.get? b = some o := fun b o e => hsb₁.extBut b o (Nat.ne_of_lt (Nat.lt_trans (Heap.lt_size e) (by omega))) (Heap.get?_push_of_some _ (hH2 ▸ Heap.get?_push_of_some _ e))
  obtain ⟨oD₀, eD₀, hD₀'⟩ := Heap.dictOf_iff.mp hnew
  have hB : H1.objs.size < H2.objs.size := by omega
  have hDC : H1.objs.size ≠ H2.objs.size := Nat.ne_of_lt hB
  have LltD : @LT.lt Nat _ L H1.objs.size := Nat.lt_trans hLlt hIlt
  have LltC : @LT.lt Nat _ L H2.objs.size := Nat.lt_trans LltD hB
  have IltC : s₁.heap.objs.size < H2.objs.size := Nat.lt_trans hIlt hB
  have fD : h₀.get? H1.objs.size = none := fresh₀ _ (Nat.le_of_lt hIlt)
  have fC : h₀.get? H2.objs.size = none := fresh₀ _ (Nat.le_of_lt IltC)
  have eD1 : h₁.get? H1.objs.size = some oD₀ := hsb₁.extBut _ _ hDC (Heap.get?_push_of_some _ eD₀)
  have loop : ∀ s₃ : Shared, s₃ = { s₁ with heap := h₁, toks := s₁.toks + ([] : List (Str × Value)).length } →
      codeAny (model prog w) A (.compLoop (.DictComp kx vx [⟨.Name x px, iter, [], 0⟩] scope pos) 0 (.ref s₁.heap.objs.size) (.ref H1.objs.size) (compEnvC scope cl H2.objs.size env))
        (compPost (model prog w) A E none Q (.ref H1.objs.size) H2.objs.size) s₃ := by
    rintro s₃ rfl
    refine dict_loop (m := m) (news := news) (oD₀ := oD₀) (h₀ := h₀) (L := L) (knd := knd) hh hsz hkind hx J ?_ (Nat.ne_of_lt hLlt) (fresh₀ _ (Nat.le_refl _)) fC fD (Nat.ne_of_gt LltC) (Nat.ne_of_gt LltD) (Nat.ne_of_lt IltC) (Nat.ne_of_lt hIlt) (Nat.ne_of_gt hB) (F1.keeps old) hns₁ (fun p hp => ?_) hD₀' (fun p hp => ?_) h0 ?_ ?_
    · have e : H1.get? s₁.heap.objs.size = some _ := hIr
      exact old _ _ e
    · rcases List.mem_cons.mp hp with rfl | hp
      · exact ⟨eD1, Nat.ne_of_gt LltD, fD⟩
      · exact ⟨old _ _ (N1 p hp).1, (N1 p hp).2⟩
    · have := noff p hp
      exact ⟨Nat.ne_of_lt this, Nat.ne_of_lt (Nat.lt_trans this IltC), Nat.ne_of_lt (Nat.lt_trans this hIlt)⟩
    · intro i kvs news' oI oC oD m₂ h tk E' hi hJ _ hap hoC F' N' hn'
      exact hstep i kvs news' _ _ _ oI oC oD m₂ h tk E' hi hJ hap (Nat.ne_of_lt IltC) (Nat.ne_of_lt hIlt) (Nat.ne_of_gt hB) hoC F' N' hn'
    · intro oD h' tk kvs news' m' F' N' hn' hap hd' hJ
      refine ⟨m', hn', fun h'' hs'' => hQ _ oD h'' tk kvs news' LltD (F'.change hs'' (Nat.ne_of_gt LltC) fC) (fun p hp => ?_) hd' hJ⟩
      exact ⟨hs''.extBut _ _ (hap p hp) (N' p hp).1, (N' p hp).2⟩
  exact codeAny_compStart_dict (loop _ rfl) (wpAny_pyIter_rangeiter (x := 0) (left := n) (step := 1) (by have e : H1.get? s₁.heap.objs.size = some _ := hIr; exact old _ _ e) (loop _ rfl))
end
end Mine

end PartMDComp

section PartMTree
open PySem PySem.W PyProof.Rows PySem.Calls
local macro_rules | `(tactic| walk_at "eval ListComp") => `(tactic| refine Mine.stop_ ?_)
local macro_rules | `(tactic| walk_at "call builtin:len") => `(tactic| ((with_reducible show wpAny _ _ (call (Value.builtin "len") [Value.str _ _]) _ _ _); refine len_str (by with_reducible assumption) ?_))
local macro_rules | `(tactic| walk_at "subscriptTail") => `(tactic| ((with_reducible show wpAny _ _ (subscriptTail _ _ (Value.ref _) (Value.str _ _)) _ _ _); refine Mine.item_dict (by with_reducible assumption) (by with_reducible assumption) ?_ (by with_unfolding_all rfl) (by intro _; with_unfolding_all rfl)))
local macro_rules | `(tactic| walk_at "call ref") => `(tactic| refine Mine.stop_ ?_)
local macro_rules | `(tactic| walk_at "eval Name") => `(tactic| ((with_reducible show wpAny _ _ (eval (Expr.Name _ _) (compEnvC _ _ _ _)) _ _ _); first
  | (refine Mine.cname_L (by with_reducible assumption) (by with_reducible assumption) ?_ (by rfl) (by rfl) (by decide))
  | (refine Mine.cname_C (by rfl) (by with_reducible assumption) ?_ (by rfl) (by rfl) (by decide))
  | (refine Mine.cname_K (by with_reducible assumption) (by rfl) ?_ (by rfl) (by rfl) (by rfl) (by decide))
  | (refine Mine.cname_B (by with_reducible assumption) (by rfl) (by boot_by_name) (by decide) ?_ (by rfl) (by rfl) (by rfl) (by rfl) (by decide))))
namespace Mine
variable {w : World} {p : Program} {loose : List Str} {mean : ExcName → Option Value} {mg mb : Str → Option Value}


local macro_rules | `(tactic| walk_at "eval DictComp") => `(tactic| refine Mine.stop_ ?_)
def leafG (ns : List Int) (p : Int) (i : Nat) : Leaf × Nat := if p.fmod 4 = 3 then (.none, i) else if p.fmod 4 = 2 then (.int (nextV ns i 3000 - 100), i + 1) else (.str (Txt.slice (Str.ofString "abcdefghijklm") none (some (nextV ns i 14))), i + 1)
def keyG (k : Int) : Str := if k = 0 then Str.ofString "k" else if k = 1 then Str.ofString "key" else if k = 2 then Str.ofString "longer" else Str.ofString ""
theorem keyG_small (z : Int) : (keyG z).cps.size ≤ 6 := by
  unfold keyG
  split
  · decide
  split
  · decide
  split <;> decide
def put {α : Type} (kvs : List (Str × α)) (k : Str) (v : α) : List (Str × α) := if kvs.any (fun kv => kv.1 = k) then kvs.map (fun kv => if kv.1 = k then (kv.1, v) else kv) else kvs ++ [(k, v)]
def genL {α : Type} (f : Nat → α × Nat) : Nat → Nat → List α → List α × Nat
  | 0, i, acc => (acc, i)
  | c + 1, i, acc => genL f c (f i).2 (acc ++ [(f i).1])
def genD {α : Type} (ns : List Int) (f : Nat → α × Nat) : Nat → Nat → List (Str × α) → List (Str × α) × Nat
  | 0, i, acc => (acc, i)
  | c + 1, i, acc => genD ns f c (f (i + 1)).2 (put acc (keyG (nextV ns i 4)) (f (i + 1)).1)
def genTree (ns : List Int) : (d : Nat) → Nat → J (d + 1) × Nat
  | 0, i => let q := leafG ns (nextV ns i 8) (i + 1); (.leaf q.1, q.2)
  | d + 1, i =>
    if nextV ns i 8 < 4 then let q := leafG ns (nextV ns i 8) (i + 1); (.leaf q.1, q.2)
    else if nextV ns i 8 < 6 then let q := genL (genTree ns d) (nextV ns (i + 1) 4).toNat (i + 2) []; (.list q.1, q.2)
    else let q := genD ns (genTree ns d) (nextV ns (i + 1) 4).toNat (i + 2) []; (.dict q.1, q.2)

def TreeAt (w : World) (p : Program) (loose : List Str) (mean : ExcName → Option Value) (mg mb : Str → Option Value) (sc : Addr) (vs : List Value) (ns : List Int) (d k : Nat) : Prop :=
  ∀ (A : Around) (s : Shared) (a : Addr) (i : Nat) (t td : Tok) (n : Nat) (h₀ : Heap) (E : Value → Shared → Prop), Am k A → Gd w p loose mean mg mb h₀ → (∀ b o, h₀.get? b = some o → s.heap.get? b = some o) → h₀.get? a = none → s.heap.get? a = some (W.listOf #[.ref sc, .int i t] n) →
    h₀.IsList sc (List.toArray vs) → IntsAre vs ns → ns.length ≤ 63 →
    wpAny (model PySem.Challenge.rw_ez0045_01.row.prog w) A (call (.ref 69) [.ref a, .int d td]) (fun r s' => Mine.Done <| ∃ own h' tk t', s' = { s with heap := h', toks := tk } ∧ h'.get? a = some (W.listOf #[.ref sc, .int ((genTree ns d i).2 : Nat) t'] n) ∧ (∀ b o, b ≠ a → s.heap.get? b = some o → h'.get? b = some o) ∧
      (∀ q ∈ own, h'.get? q.1 = some q.2 ∧ s.heap.get? q.1 = none) ∧ Via (Is w (d + 1)) h₀ own r (genTree ns d i).1) E s

theorem swap12 {g h : Heap} {L : Addr} {x y : Addr × Obj} {r : List (Addr × Obj)} (N : News g L h (x :: y :: r)) : News g L h (y :: x :: r) := fun q hq => N q (by
  rcases List.mem_cons.mp hq with hq | hq
  · rw [hq]; exact .tail _ (.head _)
  · rcases List.mem_cons.mp hq with hq | hq
    · rw [hq]; exact .head _
    · exact .tail _ (.tail _ hq))
theorem next_at {A : Around} {s : Shared} {a sc L : Addr} {vs : List Value} {ns : List Int} {i : Nat} {t tl : Tok} {n : Nat} {lim : Int} {h₀ g : Heap} {m : Str → Option Value} {rest : List (Addr × Obj)} {Q E : Value → Shared → Prop} (hA : Am 2 A) (G : Gd w p loose mean mg mb h₀) (hkg : ∀ b o, h₀.get? b = some o → g.get? b = some o) (ha0 : h₀.get? a = none)
    (hsc : h₀.IsList sc (List.toArray vs)) (hI : IntsAre vs ns) (hl : ns.length ≤ 63) (hlim : 0 < lim) (F : Fr g L s.heap m) (N : News g L s.heap ((a, W.listOf #[.ref sc, .int i t] n) :: rest)) (hr : ∀ q ∈ rest, q.1 ≠ a)
    (h : ∀ h' tk t' tr, Fr g L h' m → News g L h' ((a, W.listOf #[.ref sc, .int (i + 1 : Nat) t'] n) :: rest) → (∀ b o, b ≠ a → s.heap.get? b = some o → h'.get? b = some o) → Q (.int (nextV ns i lim) tr) { s with heap := h', toks := tk }) :
    wpAny (model PySem.Challenge.rw_ez0045_01.row.prog w) A (call (.ref 64) [.ref a, .int lim tl]) Q E s := by
  have na := N _ (.head _)
  refine wpAny_mono (next_call hA G (fun b o e => F.keep _ _ (hkg _ _ e)) ha0 na.1 hsc hI hl hlim) (fun r s' hs => ?_) fun _ _ e => e
  unfold Mine.Done at hs
  obtain ⟨h', tk, t', tr, rfl, rfl, h1, h2⟩ := hs
  refine h h' tk t' tr ⟨F.ns.at' fun o e => h2 _ o (fun (q : L = a) => na.2.1 q.symm) e, fun b o e => h2 b o (fun q => by rw [q, na.2.2] at e; cases e) (F.keep b o e), F.above⟩ (fun q hq => ?_) h2
  rcases List.mem_cons.mp hq with rfl | hq
  · exact ⟨h1, na.2⟩
  · have := N q (.tail _ hq)
    exact ⟨h2 _ _ (hr q hq) this.1, this.2⟩

section
local macro_rules | `(tactic| walk_at "eval Name") => `(tactic| ((with_reducible show wpAny _ _ (eval (Expr.Name _ _) _) _ _ _); first
  | (refine wpAny_Name (wpAny_loadName_cell (by with_reducible assumption) (by with_reducible assumption) (by with_reducible assumption) (by with_reducible assumption) ?_) (by decide))
  | (refine Name_function_global (by with_reducible assumption) (by with_reducible assumption) (loadGlobal_global (by with_reducible assumption) (by with_reducible assumption) ?_) (by decide))))
theorem elt_call {A : Around} {ce : Env} {s : Shared} {a c1 c2 : Addr} {d : Int} {td : Tok} {p1 p2 p3 p4 p5 p6 : Pos} {k9 : Nat} {Q E : Value → Shared → Prop} {o : Obj} {fd : FuncData} {x1 x2 x3 : Str} (e1 : x1 = Str.ofString "_law_tree") (e2 : x2 = Str.ofString "state") (e3 : x3 = Str.ofString "deep") (hk : ce.scope.kind = .function) (h1 : ce.kindOf x1 = some .globalImplicit) (h2 : ce.kindOf x2 = some .cell) (h3 : ce.kindOf x3 = some .cell)
    (l2 : ce.cells.lookup x2 = some c1) (l3 : ce.cells.lookup x3 = some c2) (i1 : s.heap.IsCell c1 (some (.ref a))) (i2 : s.heap.IsCell c2 (some (.int d td))) (hg : s.heap.Ns ce.globals mg) (hm : mg x1 = some (.ref 69)) (ho : s.heap.get? 69 = some o) (hd : o.data = .func fd)
    (h : ∀ tk t, wpAny (model PySem.Challenge.rw_ez0045_01.row.prog w) A (call (.ref 69) [.ref a, .int (d - 1) t]) Q E { s with toks := tk }) :
    wpAny (model PySem.Challenge.rw_ez0045_01.row.prog w) A (eval (.Call (.Name x1 p1) [.Name x2 p2, .BinOp (.Name x3 p3) .Sub (.Constant (.int 1) k9 p4) p5] [] p6) ce) Q E s := by
  refine Call_Name (trees := _) rfl ?_
  refine Name_function_global hk h1 (loadGlobal_global hg hm ?_) (by subst e1; decide)
  refine callWith_function (o := o) (fd := fd) (evalArgs_plain ?_)
  show wpAny _ _ (spliced [(false, eval (.Name x2 p2) ce), (false, eval (.BinOp (.Name x3 p3) .Sub (.Constant (.int 1) k9 p4) p5) ce)]) _ _ _
  refine Calls.spliced_cons (wpAny_Name (wpAny_loadName_cell hk h2 l2 i1 ?_) (by subst e2; decide))
  refine Calls.spliced_cons (wpAny_BinOp (wpAny_Name (wpAny_loadName_cell hk h3 l3 i2 ?_) (by subst e3; decide)))
  refine wpAny_Constant_int ?_
  w_on
  k_steps
  refine Calls.spliced_nil ?_
  exact ⟨⟨ho, hd⟩, h _ _⟩
end
section
local macro_rules | `(tactic| walk_at "eval Name") => `(tactic| ((with_reducible show wpAny _ _ (eval (Expr.Name _ _) _) _ _ _); first
  | (refine wpAny_Name (wpAny_loadName_cell (by with_reducible assumption) (by with_reducible assumption) (by with_reducible assumption) (by with_reducible assumption) ?_) (by decide))
  | (refine Name_function_global (by with_reducible assumption) (by with_reducible assumption) (loadGlobal_global (by with_reducible assumption) (by with_reducible assumption) ?_) (by decide))))
theorem key_call {A : Around} {ce : Env} {s : Shared} {a c1 sc L : Addr} {vs : List Value} {ns : List Int} {i : Nat} {t : Tok} {n : Nat} {h₀ g : Heap} {m : Str → Option Value} {rest : List (Addr × Obj)} {p1 p2 p4 p6 p7 p8 q1 q2 q3 q4 : Pos} {k9 kk1 r1 r2 r3 r4 : Nat} {Q E : Value → Shared → Prop} {o : Obj} {fd : FuncData} (hA : Am 4 A) (G : Gd w p loose mean mg mb h₀) (hkg : ∀ b o, h₀.get? b = some o → g.get? b = some o) (ha0 : h₀.get? a = none)
    (hsc : h₀.IsList sc (List.toArray vs)) (hI : IntsAre vs ns) (hl : ns.length ≤ 63) (F : Fr g L s.heap m) (N : News g L s.heap ((a, W.listOf #[.ref sc, .int i t] n) :: rest)) (hr : ∀ q ∈ rest, q.1 ≠ a)
    (hk : ce.scope.kind = .function) (h1 : ce.kindOf (Str.ofString "_law_next") = some .globalImplicit) (h2 : ce.kindOf (Str.ofString "state") = some .cell) (l2 : ce.cells.lookup (Str.ofString "state") = some c1) {oc : Obj} (i1 : (c1, oc) ∈ rest) (i2 : oc.data = .cell (some (.ref a))) (hg : g.Ns ce.globals mg) (hm : mg (Str.ofString "_law_next") = some (.ref 64)) (ho : g.get? 64 = some o) (hd : o.data = .func fd)
    (h : ∀ h' tk t' tkk, Fr g L h' m → News g L h' ((a, W.listOf #[.ref sc, .int (i + 1 : Nat) t'] n) :: rest) → Q (.str (keyG (nextV ns i 4)) tkk) { s with heap := h', toks := tk }) :
    wpAny (model PySem.Challenge.rw_ez0045_01.row.prog w) A (eval (.Subscript (.Tuple [.Constant (.str (Str.ofString "k")) r1 q1, .Constant (.str (Str.ofString "key")) r2 q2, .Constant (.str (Str.ofString "longer")) r3 q3, .Constant (.str (Str.ofString "")) r4 q4] kk1 p7) (.Call (.Name (Str.ofString "_law_next") p1) [.Name (Str.ofString "state") p2, .Constant (.int 4) k9 p4] [] p6) p8) ce) Q E s := by
  w_on
  have hIw : Unit → IntsAre vs ns := fun _ => hI
  have hh : A.handled = none := hA.hd
  refine hideQ fun K hK => ?_
  k_steps
  rename Fr _ _ _ _ => F2
  rename News _ _ _ _ => N2
  refine Name_function_global hk h1 (loadGlobal_global (hg.keeps F2.keep) hm ?_) (by decide)
  refine callWith_function (o := o) (fd := fd) (evalArgs_plain ?_)
  show wpAny _ _ (spliced [(false, eval (.Name (Str.ofString "state") p2) ce), (false, eval (.Constant (.int 4) k9 p4) ce)]) _ _ _
  refine Calls.spliced_cons (wpAny_Name (wpAny_loadName_cell hk h2 l2 ⟨oc, (N2 _ (.tail _ (.tail _ i1))).1, i2⟩ ?_) (by decide))
  refine Calls.spliced_cons (wpAny_Constant_int ?_)
  refine Calls.spliced_nil ⟨⟨F2.keep _ _ ho, hd⟩, ?_⟩
  show wpAny _ _ (call (.ref 64) [.ref a, .int 4 _]) _ _ _
  have hta := ne_of_obj N2 (.head _) (.tail _ (.head _)) (fun e => by
    have h2 : Value.type "tuple" = Value.type "list" := congrArg Obj.cls e
    injection h2 with h2
    exact absurd h2 (by decide))
  have N3 := swap12 N2
  refine next_at (hA.less (by omega)) G hkg ha0 hsc (hIw ()) hl (by decide) F2 (rest := (_, _) :: rest) N3 (fun q hq => ?_) ?_
  · rcases List.mem_cons.mp hq with hq | hq
    · rw [hq]; exact hta
    · exact hr q hq
  intro h7 tk7 t7 tr7 F7 N7 k7
  have hcv := nextV_range (ns := ns) (i := i) (lim := 4) (by decide)
  have hkey : [Str.ofString "k", Str.ofString "key", Str.ofString "longer", Str.ofString ""].getD (nextV ns i 4).toNat Str.empty = keyG (nextV ns i 4) := by
    generalize nextV ns i 4 = cv at hcv
    obtain rfl | rfl | rfl | rfl : cv = 0 ∨ cv = 1 ∨ cv = 2 ∨ cv = 3 := by omega
    all_goals rfl

  k_steps
  have htp : IsTup h7 _ _ := ⟨_, (N7 _ (.tail _ (.head _))).1, rfl, _, rfl⟩
  refine kba_turn (value' := .Name (Str.ofString "_") p1) (fun _ => rfl) ?_
  refine' item_strsTu (l := [_, _, _, _]) (ys := [Str.ofString "k", Str.ofString "key", Str.ofString "longer", Str.ofString ""]) ?h1 ?h2 ?h3 ?h4 ?h5 ?h6 ?h7 ?h8
  case h1 => exact htp
  case h2 => exact .cons _ _ (.cons _ _ (.cons _ _ (.cons _ _ .nil)))
  case h3 => exact hcv.1
  case h4 => exact hcv.2
  case h5 => omega
  case h7 => with_unfolding_all rfl
  case h8 => intro _; with_unfolding_all rfl
  intro tz
  rw [hkey]
  refine Mine.go_ (hK _ _ ?_)
  exact h _ _ _ _ F7 (fun q hq => N7 q (by
    rcases List.mem_cons.mp hq with hq | hq
    · rw [hq]; exact .head _
    · exact .tail _ (.tail _ hq)))
end
theorem comp_rest {A : Around} {h₀ : Heap} {L : Addr} {m : Str → Option Value} {env : Env} {elt : Expr} {x : Str} {scope : Scope} {cl : List (Str × Addr)} {s : Shared} {S : List (Addr × Obj) → Prop} {P : Nat → Value → Prop} {Fin : List Value → List (Addr × Obj) → Prop} (Inv : Nat → List Value → List (Addr × Obj) → Prop)
    (step : ∀ j idx ys news v I oI C oC D m₂ h tk E', Inv (j + 1) ys news → P idx v → LCg.NsObj oC m₂ → m₂ x = some v → Fr h₀ L h m → News h₀ L h ((I, oI) :: (C, oC) :: (D, LCg.lst ys) :: news) → LCg.Off3 I C D news → ((@Ne Nat I C) ∧ (@Ne Nat I D) ∧ (@Ne Nat C D)) →
      wpAny (model prog w) A (eval elt (compEnvC scope cl C env)) (LCg.CompEnd h₀ L m { s with heap := h, toks := tk } I oI C oC D (LCg.lst ys) S (fun y news' => Inv j (ys ++ [y]) news')) E' { s with heap := h, toks := tk })
    (fin : ∀ ys news, Inv 0 ys news → Fin ys news) : ∀ j idx ys news, Inv j ys news → LCg.CompRest prog w A h₀ L m env elt x scope cl s S P Fin j idx ys news
  | 0, idx, ys, news, h => fin ys news h
  | j + 1, idx, ys, news, hi => LCg.CompRest.succ fun v I oI C oC D m₂ h tk E' h1 h2 h3 h4 h5 h6 h7 => wpAny_mono (step j idx ys news v I oI C oC D m₂ h tk E' hi h1 h2 h3 h4 h5 h6 h7)
      (fun y s₂ ⟨h', tk', news', e1, e2, e3, e4, e5, e6⟩ => ⟨h', tk', news', e1, e2, e3, e4, e5, comp_rest Inv step fin j (idx + 1) _ _ e6⟩) fun _ _ e => e
theorem tree_at {A : Around} {s : Shared} {a sc L : Addr} {vs : List Value} {ns : List Int} {i d k : Nat} {t td : Tok} {n : Nat} {h₀ g : Heap} {m : Str → Option Value} {rest : List (Addr × Obj)} {Q E : Value → Shared → Prop} (ih : TreeAt w p loose mean mg mb sc vs ns d k) (hA : Am k A) (G : Gd w p loose mean mg mb h₀) (hkg : ∀ b o, h₀.get? b = some o → g.get? b = some o) (ha0 : h₀.get? a = none)
    (hsc : h₀.IsList sc (List.toArray vs)) (hI : IntsAre vs ns) (hl : ns.length ≤ 63) (F : Fr g L s.heap m) (N : News g L s.heap ((a, W.listOf #[.ref sc, .int i t] n) :: rest)) (hr : ∀ q ∈ rest, q.1 ≠ a)
    (h : ∀ own h' tk t' r, Fr g L h' m → News g L h' ((a, W.listOf #[.ref sc, .int ((genTree ns d i).2 : Nat) t'] n) :: (own ++ rest)) → (∀ q ∈ own, s.heap.get? q.1 = none) → (∀ b o, b ≠ a → s.heap.get? b = some o → h'.get? b = some o) → Via (Is w (d + 1)) h₀ own r (genTree ns d i).1 → Q r { s with heap := h', toks := tk }) :
    wpAny (model PySem.Challenge.rw_ez0045_01.row.prog w) A (call (.ref 69) [.ref a, .int d td]) Q E s := by
  have na := N _ (.head _)
  refine wpAny_mono (ih _ _ _ _ _ _ _ h₀ _ hA G (fun b o e => F.keep _ _ (hkg _ _ e)) ha0 na.1 hsc hI hl) (fun r s' hs => ?_) fun _ _ e => e
  unfold Mine.Done at hs
  obtain ⟨own, h', tk, t', rfl, h1, h2, h3, hv⟩ := hs
  refine h own h' tk t' r ⟨F.ns.at' fun o e => h2 _ o (fun (q : L = a) => na.2.1 q.symm) e, fun b o e => h2 b o (fun q => by rw [q, na.2.2] at e; cases e) (F.keep b o e), F.above⟩ (fun q hq => ?_) (fun q hq => (h3 q hq).2) h2 hv
  rcases List.mem_cons.mp hq with rfl | hq
  · exact ⟨h1, na.2⟩
  rcases List.mem_append.mp hq with hq | hq
  · obtain ⟨e1, e2⟩ := h3 q hq
    refine ⟨e1, fun e => ?_, ?_⟩
    · obtain ⟨o, _, _, hoL, _⟩ := F.ns
      rw [e, hoL] at e2; cases e2
    · cases e : g.get? q.1 with
      | none => rfl
      | some o => rw [F.keep _ _ e] at e2; cases e2
  · have := N q (.tail _ hq)
    exact ⟨h2 _ _ (hr q hq) this.1, this.2⟩
theorem abc_ok {m : Int} (h0 : 0 ≤ m) (h1 : m < 14) : LeafOk (.str (Txt.slice (Str.ofString "abcdefghijklm") none (some m))) := by
  have key : (List.range 14).all (fun k => decide ((Txt.slice (Str.ofString "abcdefghijklm") none (some (k : Int))).cps.size ≤ 13) && (Txt.slice (Str.ofString "abcdefghijklm") none (some (k : Int))).cps.toList.all fun c => decide (c ≠ 46)) = true := by decide +kernel
  have h := List.all_eq_true.mp key m.toNat (List.mem_range.mpr (by omega))
  have e : ((m.toNat : Nat) : Int) = m := by omega
  rw [e, Bool.and_eq_true] at h
  exact ⟨of_decide_eq_true h.1, fun c hc => of_decide_eq_true (List.all_eq_true.mp h.2 c hc)⟩
theorem stored_put {α : Type} {F : Value → α → Prop} {k : Str} {v : Value} {x : α} (hv : F v x) : ∀ {kvs : List (Str × Value)} {xs : List (Str × α)}, Paired (fun (e : Str × Value) (q : Str × α) => e.1 = q.1 ∧ F e.2 q.2) kvs xs → Paired (fun (e : Str × Value) (q : Str × α) => e.1 = q.1 ∧ F e.2 q.2) (stored kvs k v) (put xs k x) := by
  intro kvs xs hp
  have hany : kvs.any (fun kv => kv.1 = k) = xs.any (fun kv => kv.1 = k) := by
    induction hp with
    | nil => rfl
    | cons h _ ih => rw [List.any_cons, List.any_cons, ih, h.1]
  unfold stored put
  rw [hany]
  split
  · rename_i hb
    clear hb hany
    induction hp with
    | nil => exact .nil
    | @cons e q _ _ h _ ih =>
      refine .cons ?_ ih
      dsimp only
      by_cases hk : q.1 = k
      · rw [if_pos (h.1.trans hk), if_pos hk]; exact ⟨h.1, hv⟩
      · rw [if_neg (fun r => hk (h.1.symm.trans r)), if_neg hk]; exact h
  · exact Paired.append hp (.cons ⟨rfl, hv⟩ .nil)
theorem put_length {α : Type} (xs : List (Str × α)) (k : Str) (x : α) : (put xs k x).length ≤ xs.length + 1 := by
  unfold put
  split
  · rw [List.length_map]; omega
  · rw [List.length_append, List.length_singleton]; omega
theorem put_keys {α : Type} {P : Str → Prop} {xs : List (Str × α)} {k : Str} {x : α} (h : ∀ q ∈ xs, P q.1) (hk : P k) : ∀ q ∈ put xs k x, P q.1 := by
  unfold put
  split
  · intro q hq
    obtain ⟨r, hr, rfl⟩ := List.mem_map.mp hq
    split
    · exact h r hr
    · exact h r hr
  · intro q hq
    rcases List.mem_append.mp hq with hq | hq
    · exact h q hq
    · rw [List.mem_singleton.mp hq]; exact hk
theorem gen_leaf {ns : List Int} {d i : Nat} (h : nextV ns i 8 < 4 ∨ d = 0) : genTree ns d i = (.leaf (leafG ns (nextV ns i 8) (i + 1)).1, (leafG ns (nextV ns i 8) (i + 1)).2) := by
  cases d with
  | zero => rfl
  | succ d =>
    have h1 : nextV ns i 8 < 4 := h.resolve_right (by omega)
    show (if nextV ns i 8 < 4 then _ else _) = _
    rw [if_pos h1]
theorem via_leaf {n : Nat} {h₀ : Heap} {own : List (Addr × Obj)} {v : Value} {l : Leaf} (h1 : LeafIs v l) (h2 : LeafOk l) : Via (Is w (n + 1)) h₀ own v (.leaf l : Cont (J n)) := fun _ _ _ => ⟨h1, h2⟩

set_option maxHeartbeats 4000000 in
theorem tree_call {sc : Addr} {vs : List Value} {ns : List Int} {d k : Nat} (ih : ∀ d', d = d' + 1 → TreeAt w p loose mean mg mb sc vs ns d' k) : TreeAt w p loose mean mg mb sc vs ns d (k + 5) := by
  intro A s a i t td n h₀ E hA G hk0 ha0 ha hsc hI hl
  have hIw : Unit → IntsAre vs ns := fun _ => hI
  obtain ⟨Xs, Ts⟩ := G.keeps hk0
  have hgs : ∀ b o, (hideAll s.heap [a]).get? b = some o → s.heap.get? b = some o := fun b o e => of_hideAll _ e
  have hup : ∀ b o, b ≠ a → s.heap.get? b = some o → (hideAll s.heap [a]).get? b = some o := fun b o hb e => hideAll_get _ e fun hm => hb (List.mem_singleton.mp hm)
  have hga : (hideAll s.heap [a]).get? a = none := hideAll_none _ (.head _)
  have hsz : (hideAll s.heap [a]).objs.size = s.heap.objs.size := hideAll_size _ _
  generalize hideAll s.heap [a] = g at hgs hup hga hsz
  have hkg : ∀ b o, h₀.get? b = some o → g.get? b = some o := fun b o e => hup b o (fun q => by rw [q, ha0] at e; cases e) (hk0 b o e)
  obtain ⟨X, T⟩ := G.keeps hkg
  revert Xs X; k_fill; intro Xs X
  refine callC' (binds := [(Str.ofString "state", .ref a), (Str.ofString "deep", .int d td)]) (fun L => [(Str.ofString "deep", L + 2), (Str.ofString "state", L + 1)]) (fun _ => none) (fun y => if y = Str.ofString "deep" then some (.int d td) else if y = Str.ofString "state" then some (.ref a) else none) hA.room (Xs 69 _ rfl) rfl Ts.nolimit (codeRec_of Xs (by rfl)) (BindsTo.of_eq rfl) (by rfl) (by decide) rfl rfl rfl
    (fun _ => rfl) (fun _ => rfl) (fun _ => rfl) fun L h₁ tk cells F0 N0 Y => ?_
  obtain ⟨om, ot, rfl, hom, hot⟩ := Y.two
  replace hom : om.data = .cell (some (.int d td)) := hom
  replace hot : ot.data = .cell (some (.ref a)) := hot
  clear Y
  have F : Fr g L h₁ _ := ⟨F0.ns, fun b o e => F0.keep b o (hgs b o e), by rw [hsz]; exact F0.above⟩
  have hLa : @LT.lt Nat _ a L := Nat.lt_of_lt_of_le (Heap.lt_size ha) F0.above
  have N : News g L h₁ [(a, W.listOf #[.ref sc, .int i t] n), (L + 2, om), (L + 1, ot)] := fun q hq => by
    rcases List.mem_cons.mp hq with rfl | hq
    · exact ⟨F0.keep _ _ ha, Nat.ne_of_lt hLa, hga⟩
    · have := N0 q hq
      refine ⟨this.1, this.2.1, ?_⟩
      cases e : g.get? q.1 with
      | none => rfl
      | some o => rw [hgs _ _ e] at this; exact absurd this.2.2 (by nofun)
  have hr2 : ∀ q ∈ [(L + 2, om), (L + 1, ot)], q.1 ≠ a := fun q hq => by
    simp only [List.mem_cons, List.not_mem_nil, or_false] at hq
    rcases hq with rfl | rfl
    · exact Nat.ne_of_gt (Nat.lt_of_lt_of_le hLa (Nat.le_add_right _ _))
    · exact Nat.ne_of_gt (Nat.lt_of_lt_of_le hLa (Nat.le_add_right _ _))
  clear Xs Ts N0 F0
  w_on
  have hh : A.handled = none := hA.hd
  have hcm : h₁.IsCell (L + 2) (some (.int d td)) := ⟨om, (N _ (.tail _ (.head _))).1, hom⟩
  have hct : h₁.IsCell (L + 1) (some (.ref a)) := ⟨ot, (N _ (.tail _ (.tail _ (.head _)))).1, hot⟩
  k_steps
  unfold Mine.Stop
  rename Fr _ _ _ _ => F2
  rename News _ _ _ _ => N2
  refine next_at ((hA.deeper _).less (by omega)) G hkg ha0 hsc (hIw ()) hl (by decide) F2 N2 hr2 ?_
  intro h2 tk2 t2 tr2 F3 N3 k2
  clear F2 N2
  replace hcm : h2.IsCell (L + 2) (some (.int d td)) := ⟨om, (N3 _ (.tail _ (.head _))).1, hom⟩
  replace hct : h2.IsCell (L + 1) (some (.ref a)) := ⟨ot, (N3 _ (.tail _ (.tail _ (.head _)))).1, hot⟩
  k_steps
  · have hlf : nextV ns i 8 < 4 ∨ d = 0 := by first | (left; with_reducible assumption) | (right; omega)
    rename (nextV ns i 8).fmod 4 = 3 => h3
    have hg : leafG ns (nextV ns i 8) (i + 1) = (.none, i + 1) := by unfold leafG; rw [if_pos h3]
    rename Fr _ _ _ _ => FZ
    rename News _ _ _ _ => NZ
    show Mine.Done _
    unfold Mine.Done
    rw [gen_leaf hlf, hg]
    exact ⟨[], _, _, _, rfl, (NZ _ (.head _)).1, fun b o hb e => FZ.keep b o (hup b o hb e), fun q hq => absurd hq List.not_mem_nil, via_leaf rfl trivial⟩
  · have hlf : nextV ns i 8 < 4 ∨ d = 0 := by first | (left; with_reducible assumption) | (right; omega)
    rename ¬ (nextV ns i 8).fmod 4 = 3 => h3
    rename (nextV ns i 8).fmod 4 = 2 => h4
    have hg : leafG ns (nextV ns i 8) (i + 1) = (.int (nextV ns (i + 1) 3000 - 100), i + 1 + 1) := by unfold leafG; rw [if_neg h3, if_pos h4]
    unfold Mine.Stop
    rename Fr _ _ _ _ => F5
    rename News _ _ _ _ => N5
    refine next_at ((hA.deeper _).less (by omega)) G hkg ha0 hsc (hIw ()) hl (by decide) F5 N5 hr2 ?_
    intro h6 tk6 t6 tr6 F6 N6 k6
    clear F5 N5
    k_steps
    rename Fr _ _ _ _ => FZ
    rename News _ _ _ _ => NZ
    unfold Mine.Done
    rw [gen_leaf hlf, hg]
    have hz := nextV_range (ns := ns) (i := i + 1) (lim := 3000) (by decide)
    exact ⟨[], _, _, _, rfl, (NZ _ (.head _)).1, fun b o hb e => FZ.keep b o (hup b o hb e), fun q hq => absurd hq List.not_mem_nil, via_leaf ⟨_, rfl⟩ (show -100 ≤ _ ∧ _ < 2900 by omega)⟩
  · have hlf : nextV ns i 8 < 4 ∨ d = 0 := by first | (left; with_reducible assumption) | (right; omega)
    rename ¬ (nextV ns i 8).fmod 4 = 3 => h3
    rename ¬ (nextV ns i 8).fmod 4 = 2 => h4
    have hg : leafG ns (nextV ns i 8) (i + 1) = (.str (Txt.slice (Str.ofString "abcdefghijklm") none (some (nextV ns (i + 1) 14))), i + 1 + 1) := by unfold leafG; rw [if_neg h3, if_neg h4]
    unfold Mine.Stop
    rename Fr _ _ _ _ => F5
    rename News _ _ _ _ => N5
    refine next_at ((hA.deeper _).less (by omega)) G hkg ha0 hsc (hIw ()) hl (by decide) F5 N5 hr2 ?_
    intro h6 tk6 t6 tr6 F6 N6 k6
    clear F5 N5
    k_steps
    rename Fr _ _ _ _ => FZ
    rename News _ _ _ _ => NZ
    unfold Mine.Done
    rw [gen_leaf hlf, hg]
    have hz := nextV_range (ns := ns) (i := i + 1) (lim := 14) (by decide)
    exact ⟨[], _, _, _, rfl, (NZ _ (.head _)).1, fun b o hb e => FZ.keep b o (hup b o hb e), fun q hq => absurd hq List.not_mem_nil, via_leaf ⟨_, rfl⟩ (abc_ok hz.1 hz.2)⟩
  · have hlf : nextV ns i 8 < 4 ∨ d = 0 := by first | (left; with_reducible assumption) | (right; omega)
    rename (nextV ns i 8).fmod 4 = 3 => h3
    have hg : leafG ns (nextV ns i 8) (i + 1) = (.none, i + 1) := by unfold leafG; rw [if_pos h3]
    rename Fr _ _ _ _ => FZ
    rename News _ _ _ _ => NZ
    show Mine.Done _
    unfold Mine.Done
    rw [gen_leaf hlf, hg]
    exact ⟨[], _, _, _, rfl, (NZ _ (.head _)).1, fun b o hb e => FZ.keep b o (hup b o hb e), fun q hq => absurd hq List.not_mem_nil, via_leaf rfl trivial⟩
  · have hlf : nextV ns i 8 < 4 ∨ d = 0 := by first | (left; with_reducible assumption) | (right; omega)
    rename ¬ (nextV ns i 8).fmod 4 = 3 => h3
    rename (nextV ns i 8).fmod 4 = 2 => h4
    have hg : leafG ns (nextV ns i 8) (i + 1) = (.int (nextV ns (i + 1) 3000 - 100), i + 1 + 1) := by unfold leafG; rw [if_neg h3, if_pos h4]
    unfold Mine.Stop
    rename Fr _ _ _ _ => F5
    rename News _ _ _ _ => N5
    refine next_at ((hA.deeper _).less (by omega)) G hkg ha0 hsc (hIw ()) hl (by decide) F5 N5 hr2 ?_
    intro h6 tk6 t6 tr6 F6 N6 k6
    clear F5 N5
    k_steps
    rename Fr _ _ _ _ => FZ
    rename News _ _ _ _ => NZ
    unfold Mine.Done
    rw [gen_leaf hlf, hg]
    have hz := nextV_range (ns := ns) (i := i + 1) (lim := 3000) (by decide)
    exact ⟨[], _, _, _, rfl, (NZ _ (.head _)).1, fun b o hb e => FZ.keep b o (hup b o hb e), fun q hq => absurd hq List.not_mem_nil, via_leaf ⟨_, rfl⟩ (show -100 ≤ _ ∧ _ < 2900 by omega)⟩
  · have hlf : nextV ns i 8 < 4 ∨ d = 0 := by first | (left; with_reducible assumption) | (right; omega)
    rename ¬ (nextV ns i 8).fmod 4 = 3 => h3
    rename ¬ (nextV ns i 8).fmod 4 = 2 => h4
    have hg : leafG ns (nextV ns i 8) (i + 1) = (.str (Txt.slice (Str.ofString "abcdefghijklm") none (some (nextV ns (i + 1) 14))), i + 1 + 1) := by unfold leafG; rw [if_neg h3, if_neg h4]
    unfold Mine.Stop
    rename Fr _ _ _ _ => F5
    rename News _ _ _ _ => N5
    refine next_at ((hA.deeper _).less (by omega)) G hkg ha0 hsc (hIw ()) hl (by decide) F5 N5 hr2 ?_
    intro h6 tk6 t6 tr6 F6 N6 k6
    clear F5 N5
    k_steps
    rename Fr _ _ _ _ => FZ
    rename News _ _ _ _ => NZ
    unfold Mine.Done
    rw [gen_leaf hlf, hg]
    have hz := nextV_range (ns := ns) (i := i + 1) (lim := 14) (by decide)
    exact ⟨[], _, _, _, rfl, (NZ _ (.head _)).1, fun b o hb e => FZ.keep b o (hup b o hb e), fun q hq => absurd hq List.not_mem_nil, via_leaf ⟨_, rfl⟩ (abc_ok hz.1 hz.2)⟩
  · rename nextV ns i 8 < 6 => h6
    rename ¬ nextV ns i 8 < 4 => h4
    obtain ⟨d', rfl⟩ : ∃ d', d = d' + 1 := ⟨d - 1, by omega⟩
    have ih' := ih d' rfl
    unfold Mine.Stop
    rename Fr _ _ _ _ => F5
    rename News _ _ _ _ => N5
    refine LCg.ListComp_U F5 (by rfl) (by decide) rfl (by decide) rfl (hideQ fun K hK => ?_)
    k_steps
    unfold Mine.Stop
    refine next_at ((hA.deeper _).less (by omega)) G hkg ha0 hsc (hIw ()) hl (by decide) F5 N5 hr2 ?_
    intro h7 tk7 t7 tr7 F7 N7 k7
    clear F5 N5
    have hcv := nextV_range (ns := ns) (i := i + 1) (lim := 4) (by decide)
    k_steps
    rename IsRange _ _ _ _ _ _ _ _ => hrg
    rename Fr _ _ _ _ => F8
    rename News _ _ _ _ => N8
    refine hK _ _ ?_
    clear hK K
    try dsimp only
    obtain ⟨c, hc⟩ : ∃ c : Nat, nextV ns (i + 1) 4 = c := ⟨(nextV ns (i + 1) 4).toNat, by omega⟩
    have hc4 : c < 4 := by omega
    rw [hc] at hrg
    refine LCg.CompSrc.range (n := c) hA.hd F8 N8 hrg ?_ ?_ ?_ (fun gg => ?_)
    · obtain rfl | rfl | rfl | rfl : c = 0 ∨ c = 1 ∨ c = 2 ∨ c = 3 := by omega
      all_goals decide +kernel
    · obtain rfl | rfl | rfl | rfl : c = 0 ∨ c = 1 ∨ c = 2 ∨ c = 3 := by omega
      all_goals decide +kernel
    · rw [sizeLine_eq]; omega
    refine comp_rest (fun j ys news => ∃ xs cur t' own, news = (a, W.listOf #[.ref sc, .int ((cur : Nat) : Int) t'] n) :: (own ++ [(L + 2, om), (L + 1, ot)]) ∧ (∀ q ∈ own, q.1 ≠ a) ∧ genL (genTree ns d') j cur xs = genL (genTree ns d') c (i + 2) [] ∧ xs.length + j = c ∧ Paired (fun v x => Via (Is w (d' + 1)) h₀ own v x) ys xs) ?_ ?_ c 0 [] _ ⟨[], i + 2, t7, [], rfl, fun q hq => absurd hq List.not_mem_nil, rfl, by simp, .nil⟩
    · rintro j idx ys news v I oI C oC D m₂ h tk E' ⟨xs, cur, t', own, rfl, hoa, hgen, hlen, hpp⟩ hv hoC hm₂ F9 N9 off9 hne
      have hcm9 : h.IsCell (L + 2) (some (.int (d' + 1 : Nat) td)) := ⟨om, (N9 _ (.tail _ (.tail _ (.tail _ (.tail _ (List.mem_append_right _ (.head _))))))).1, hom⟩
      have hct9 : h.IsCell (L + 1) (some (.ref a)) := ⟨ot, (N9 _ (.tail _ (.tail _ (.tail _ (.tail _ (List.mem_append_right _ (.tail _ (.head _)))))))).1, hot⟩
      have G9 : Gd w p loose mean mg mb h := ⟨X.keeps F9.keep, T.keeps F9.keep⟩
      have hoff := LCg.Off3.mem off9
      have N10 : News g L h ((a, W.listOf #[.ref sc, .int ((cur : Nat) : Int) t'] n) :: ((I, oI) :: (C, oC) :: (D, LCg.lst ys) :: (own ++ [(L + 2, om), (L + 1, ot)]))) := fun q hq => N9 q (by
        simp only [List.mem_cons] at hq ⊢
        rcases hq with hq | hq | hq | hq | hq
        · exact .inr (.inr (.inr (.inl hq)))
        · exact .inl hq
        · exact .inr (.inl hq)
        · exact .inr (.inr (.inl hq))
        · exact .inr (.inr (.inr (.inr hq))))
      refine hideQ fun K hK => ?_
      refine elt_call (mg := mg) (a := a) (c1 := L + 1) (c2 := L + 2) (d := ((d' + 1 : Nat) : Int)) (td := td) rfl rfl rfl (by rfl) (by rfl) (by rfl) (by rfl) (by rfl) (by rfl) hct9 hcm9 G9.T.g (mg_of G9.X G9.T.g (by rfl)) (G9.X 69 _ rfl) rfl fun tk9 tz9 => ?_
      try dsimp only
      have hd1 : ((d' + 1 : Nat) : Int) - 1 = (d' : Nat) := by omega
      rw [hd1]
      refine tree_at ih' (((hA.deeper _).less (by omega))) G hkg ha0 hsc (hIw ()) hl F9 N10 (fun q hq => ?_) ?_
      · have ha3 := hoff _ (.head _)
        simp only [List.mem_cons] at hq
        rcases hq with rfl | rfl | rfl | hq
        · exact Ne.symm ha3.1
        · exact Ne.symm ha3.2.1
        · exact Ne.symm ha3.2.2
        · rcases List.mem_append.mp hq with hq | hq
          · exact hoa q hq
          · exact hr2 q hq
      intro own' h10 tk10 t10 r10 F10 N11 hnew k10 hvia
      have hnI : ∀ q ∈ own', ∀ b o, h.get? b = some o → q.1 ≠ b := fun q hq b o e r => by have := hnew q hq; rw [r, e] at this; cases this
      refine Mine.go_ <| hK _ _ ⟨h10, tk10, (a, W.listOf #[.ref sc, .int ((genTree ns d' cur).2 : Nat) t10] n) :: ((own' ++ own) ++ [(L + 2, om), (L + 1, ot)]), rfl, F10, fun q hq => N11 q ?_, LCg.Off3.of fun q hq => ?_, trivial, xs ++ [(genTree ns d' cur).1], (genTree ns d' cur).2, t10, own' ++ own, rfl, fun q hq => ?_, hgen, by rw [List.length_append, List.length_singleton]; omega, Paired.append (hpp.mono fun v x hv => hv.sub fun q hq => List.mem_append_right _ hq) (.cons (hvia.sub fun q hq => List.mem_append_left _ hq) .nil)⟩
      · simp only [List.mem_cons, List.mem_append, List.not_mem_nil, or_false] at hq ⊢
        rcases hq with hq | hq | hq | hq | (hq | hq) | hq | hq
        · exact .inr (.inr (.inl hq))
        · exact .inr (.inr (.inr (.inl hq)))
        · exact .inr (.inr (.inr (.inr (.inl hq))))
        · exact .inl hq
        · exact .inr (.inl hq)
        · exact .inr (.inr (.inr (.inr (.inr (.inl hq)))))
        · exact .inr (.inr (.inr (.inr (.inr (.inr (.inl hq))))))
        · exact .inr (.inr (.inr (.inr (.inr (.inr (.inr hq))))))
      · rcases List.mem_cons.mp hq with rfl | hq
        · exact hoff (a, W.listOf #[.ref sc, .int ((cur : Nat) : Int) t'] n) (.head _)
        · rcases List.mem_append.mp hq with hq | hq
          · rcases List.mem_append.mp hq with hq | hq
            · exact ⟨hnI q hq _ _ (N9 _ (.head _)).1, hnI q hq _ _ (N9 _ (.tail _ (.head _))).1, hnI q hq _ _ (N9 _ (.tail _ (.tail _ (.head _)))).1⟩
            · exact hoff q (.tail _ (List.mem_append_left _ hq))
          · exact hoff q (.tail _ (List.mem_append_right _ hq))
      · rcases List.mem_append.mp hq with hq | hq
        · exact hnI q hq _ _ (N10 _ (.head _)).1
        · exact hoa q hq
    · rintro ys news ⟨xs, cur, t', own, rfl, hoa, hgen, hlen, hpp⟩
      intro D h tk F9 N9 hof
      show Mine.Done _
      unfold Mine.Done
      have hgt : genTree ns (d' + 1) i = (.list xs, cur) := by
        show (if nextV ns i 8 < 4 then _ else if nextV ns i 8 < 6 then _ else _) = _
        rw [if_neg h4, if_pos h6, hc]
        show (Cont.list (genL (genTree ns d') c (i + 2) []).1, (genL (genTree ns d') c (i + 2) []).2) = _
        rw [← hgen]; rfl
      rw [hgt]
      refine ⟨(D, LCg.lst ys) :: own, _, _, t', rfl, (N9 _ (.tail _ (.head _))).1, fun b o hb e => F9.keep b o (hup b o hb e), fun q hq => ?_, fun h' kk hp => ⟨by omega, D, ys, rfl, ⟨_, hp _ (.head _), rfl, _, rfl⟩, hpp.mono fun v x hv => hv h' kk fun q hq => hp q (.tail _ hq)⟩⟩
      have hq1 : q ∈ (D, LCg.lst ys) :: (a, W.listOf #[.ref sc, .int ((cur : Nat) : Int) t'] n) :: (own ++ [(L + 2, om), (L + 1, ot)]) := by
        rcases List.mem_cons.mp hq with rfl | hq
        · exact .head _
        · exact .tail _ (.tail _ (List.mem_append_left _ hq))
      have hqa : q.1 ≠ a := by
        rcases List.mem_cons.mp hq with rfl | hq
        · exact Ne.symm hof.1
        · exact hoa q hq
      have z := N9 q hq1
      refine ⟨z.1, ?_⟩
      cases e : s.heap.get? q.1 with
      | none => rfl
      | some o => rw [hup _ _ hqa e] at z; exact absurd z.2.2 (fun q => by cases q)
  · rename ¬ nextV ns i 8 < 6 => h6
    rename ¬ nextV ns i 8 < 4 => h4
    obtain ⟨d', rfl⟩ : ∃ d', d = d' + 1 := ⟨d - 1, by omega⟩
    have ih' := ih d' rfl
    unfold Mine.Stop
    rename Fr _ _ _ _ => F5
    rename News _ _ _ _ => N5
    refine dict_range (h₀ := g) (L := L) (m := fun y => if y = Str.ofString "pick" then some (Value.int (nextV ns i 8) tr2) else none) (knd := PySem.strKind prog w) (by rfl) (by decide) rfl (by decide) rfl (hideQ fun K hK => ?_)
    k_steps
    unfold Mine.Stop
    refine next_at ((hA.deeper _).less (by omega)) G hkg ha0 hsc (hIw ()) hl (by decide) F5 N5 hr2 ?_
    intro h7 tk7 t7 tr7 F7 N7 k7
    clear F5 N5
    have hcv := nextV_range (ns := ns) (i := i + 1) (lim := 4) (by decide)
    k_steps
    rename IsRange _ _ _ _ _ _ _ _ => hrg
    rename Fr _ _ _ _ => F8
    rename News _ _ _ _ => N8
    refine hK _ _ (Mine.go_ ?_)
    clear hK K
    try dsimp only
    obtain ⟨c, hc⟩ : ∃ c : Nat, nextV ns (i + 1) 4 = c := ⟨(nextV ns (i + 1) 4).toNat, by omega⟩
    have hc4 : c < 4 := by omega
    rw [hc] at hrg
    refine ⟨_, _, _, _, _, c, _, fun j kvs news => ∃ xs cur t' own, news = (a, W.listOf #[.ref sc, .int ((cur : Nat) : Int) t'] n) :: (own ++ [(L + 2, om), (L + 1, ot)]) ∧ (∀ q ∈ own, q.1 ≠ a) ∧ j ≤ c ∧ genD ns (genTree ns d') (c - j) cur xs = genD ns (genTree ns d') c (i + 2) [] ∧ xs.length ≤ j ∧ (∀ q ∈ xs, q.1.cps.size ≤ 6) ∧ Paired (fun (e : Str × Value) (q : Str × J (d' + 1)) => e.1 = q.1 ∧ Via (Is w (d' + 1)) h₀ own e.2 q.2) kvs xs, rfl, hA.hd, F8, N8, hrg, ?_, ?_, ?_, ⟨[], i + 2, t7, [], rfl, fun q hq => absurd hq List.not_mem_nil, Nat.zero_le _, rfl, Nat.le_refl _, fun q hq => absurd hq List.not_mem_nil, .nil⟩, ?_, ?_⟩
    · obtain rfl | rfl | rfl | rfl : c = 0 ∨ c = 1 ∨ c = 2 ∨ c = 3 := by omega
      all_goals decide +kernel
    · obtain rfl | rfl | rfl | rfl : c = 0 ∨ c = 1 ∨ c = 2 ∨ c = 3 := by omega
      all_goals decide +kernel
    · rw [sizeLine_eq]; omega
    · rintro j kvs news I C D oI oC oD m₂ h tk E' hj ⟨xs, cur, t', own, rfl, hoa, hjc, hgen, hlen, hkey, hpp⟩ hoff hIC hID hCD hoC F9 N9 hn9
      have ha3 := hoff (a, W.listOf #[.ref sc, .int ((cur : Nat) : Int) t'] n) (.head _)
      have N10 : News g L h ((a, W.listOf #[.ref sc, .int ((cur : Nat) : Int) t'] n) :: ((I, oI) :: (C, oC) :: (D, oD) :: (own ++ [(L + 2, om), (L + 1, ot)]))) := fun q hq => N9 q (by
        simp only [List.mem_cons] at hq ⊢
        rcases hq with hq | hq | hq | hq | hq
        · exact .inr (.inr (.inr (.inl hq)))
        · exact .inl hq
        · exact .inr (.inl hq)
        · exact .inr (.inr (.inl hq))
        · exact .inr (.inr (.inr (.inr hq))))
      have hrr : ∀ q ∈ (I, oI) :: (C, oC) :: (D, oD) :: (own ++ [(L + 2, om), (L + 1, ot)]), q.1 ≠ a := fun q hq => by
        simp only [List.mem_cons] at hq
        rcases hq with rfl | rfl | rfl | hq
        · exact Ne.symm ha3.1
        · exact Ne.symm ha3.2.1
        · exact Ne.symm ha3.2.2
        · rcases List.mem_append.mp hq with hq | hq
          · exact hoa q hq
          · exact hr2 q hq
      refine key_call (mg := mg) (c1 := L + 1) (oc := ot) ((hA.deeper _).less (by omega)) G hkg ha0 hsc (hIw ()) hl F9 N10 hrr (by rfl) (by rfl) (by rfl) (by rfl) (.tail _ (.tail _ (.tail _ (List.mem_append_right _ (.tail _ (.head _)))))) hot T.g (mg_of X T.g (by rfl)) (X 64 _ rfl) rfl ?_
      intro h11 tk11 t11 tkk11 F11 N11
      refine ⟨keyG (nextV ns cur 4), tkk11, h11, tk11, (a, W.listOf #[.ref sc, .int ((cur + 1 : Nat) : Int) t11] n) :: (own ++ [(L + 2, om), (L + 1, ot)]), rfl, strKind_is prog w _ _, rfl, F11, fun q hq => N11 q (by
        simp only [List.mem_cons] at hq ⊢
        rcases hq with hq | hq | hq | hq | hq
        · exact .inr (.inl hq)
        · exact .inr (.inr (.inl hq))
        · exact .inr (.inr (.inr (.inl hq)))
        · exact .inl hq
        · exact .inr (.inr (.inr (.inr hq)))), ?_⟩
      have hcm9 : h11.IsCell (L + 2) (some (.int (d' + 1 : Nat) td)) := ⟨om, (N11 _ (.tail _ (.tail _ (.tail _ (.tail _ (List.mem_append_right _ (.head _))))))).1, hom⟩
      have hct9 : h11.IsCell (L + 1) (some (.ref a)) := ⟨ot, (N11 _ (.tail _ (.tail _ (.tail _ (.tail _ (List.mem_append_right _ (.tail _ (.head _)))))))).1, hot⟩
      have G9 : Gd w p loose mean mg mb h11 := ⟨X.keeps F11.keep, T.keeps F11.keep⟩
      refine elt_call (mg := mg) (a := a) (c1 := L + 1) (c2 := L + 2) (d := ((d' + 1 : Nat) : Int)) (td := td) rfl rfl rfl (by rfl) (by rfl) (by rfl) (by rfl) (by rfl) (by rfl) hct9 hcm9 G9.T.g (mg_of G9.X G9.T.g (by rfl)) (G9.X 69 _ rfl) rfl fun tk9 tz9 => ?_
      try dsimp only
      have hd1 : ((d' + 1 : Nat) : Int) - 1 = (d' : Nat) := by omega
      rw [hd1]
      refine tree_at ih' (((hA.deeper _).less (by omega))) G hkg ha0 hsc (hIw ()) hl F11 N11 hrr ?_
      intro own' h10 tk10 t10 r10 F10 N12 hnew k10 hvia
      have hnI : ∀ q ∈ own', ∀ b o, h11.get? b = some o → q.1 ≠ b := fun q hq b o e r => by have := hnew q hq; rw [r, e] at this; cases this
      refine ⟨h10, tk10, (a, W.listOf #[.ref sc, .int ((genTree ns d' (cur + 1)).2 : Nat) t10] n) :: ((own' ++ own) ++ [(L + 2, om), (L + 1, ot)]), rfl, F10, fun q hq => N12 q ?_, fun q hq => ?_, put xs (keyG (nextV ns cur 4)) (genTree ns d' (cur + 1)).1, (genTree ns d' (cur + 1)).2, t10, own' ++ own, rfl, fun q hq => ?_, hj, ?_, Nat.le_trans (put_length _ _ _) (Nat.succ_le_succ hlen), put_keys (P := fun k => k.cps.size ≤ 6) hkey (keyG_small _), stored_put (F := fun v x => Via (Is w (d' + 1)) h₀ (own' ++ own) v x) (hvia.sub fun q hq => List.mem_append_left _ hq) (hpp.mono fun e q hv => ⟨hv.1, hv.2.sub fun r hr => List.mem_append_right _ hr⟩)⟩
      · simp only [List.mem_cons, List.mem_append, List.not_mem_nil, or_false] at hq ⊢
        rcases hq with hq | hq | hq | hq | (hq | hq) | hq | hq
        · exact .inr (.inr (.inl hq))
        · exact .inr (.inr (.inr (.inl hq)))
        · exact .inr (.inr (.inr (.inr (.inl hq))))
        · exact .inl hq
        · exact .inr (.inl hq)
        · exact .inr (.inr (.inr (.inr (.inr (.inl hq)))))
        · exact .inr (.inr (.inr (.inr (.inr (.inr (.inl hq))))))
        · exact .inr (.inr (.inr (.inr (.inr (.inr (.inr hq))))))
      · rcases List.mem_cons.mp hq with rfl | hq
        · exact ha3
        · rcases List.mem_append.mp hq with hq | hq
          · rcases List.mem_append.mp hq with hq | hq
            · exact ⟨hnI q hq _ _ (N11 _ (.tail _ (.head _))).1, hnI q hq _ _ (N11 _ (.tail _ (.tail _ (.head _)))).1, hnI q hq _ _ (N11 _ (.tail _ (.tail _ (.tail _ (.head _))))).1⟩
            · exact hoff q (.tail _ (List.mem_append_left _ hq))
          · exact hoff q (.tail _ (List.mem_append_right _ hq))
      · rcases List.mem_append.mp hq with hq | hq
        · exact hnI q hq _ _ (N11 _ (.head _)).1
        · exact hoa q hq
      · rw [← hgen, show c - j = (c - (j + 1)) + 1 by omega]
        rfl
    · rintro D oD h tk kvs news hLD F9 N9 hd9 ⟨xs, cur, t', own, rfl, hoa, hjc, hgen, hlen, hkey, hpp⟩
      show Mine.Done _
      unfold Mine.Done
      have hgt : genTree ns (d' + 1) i = (.dict xs, cur) := by
        show (if nextV ns i 8 < 4 then _ else if nextV ns i 8 < 6 then _ else _) = _
        rw [if_neg h4, if_neg h6, hc]
        show (Cont.dict (genD ns (genTree ns d') c (i + 2) []).1, (genD ns (genTree ns d') c (i + 2) []).2) = _
        rw [← hgen, Nat.sub_self]; rfl
      rw [hgt]
      have hDa : D ≠ a := ne_of_obj N9 (.head _) (.tail _ (.head _)) (fun e => by
        have h1 := dict_cls hd9
        rw [e] at h1
        have h2 : Value.type "list" = Value.type "dict" := h1
        injection h2 with h2
        revert h2; decide)
      have hDs : (D == sysModules) = false := by
        have h2 := Heap.lt_size (X 2 _ rfl)
        have h3 : @LE.le Nat _ g.objs.size L := F9.above
        refine beq_eq_false_iff_ne.mpr fun e => ?_
        have h4 : @LT.lt Nat _ 2 D := Nat.lt_of_lt_of_le h2 (Nat.le_of_lt (Nat.lt_of_le_of_lt h3 hLD))
        rw [e] at h4
        exact absurd h4 (by decide)
      refine ⟨(D, oD) :: own, _, _, t', rfl, (N9 _ (.tail _ (.head _))).1, fun b o hb e => F9.keep b o (hup b o hb e), fun q hq => ?_, fun h' kk hp => ⟨by omega, hkey, D, kvs, rfl, hDs, Heap.dictOf_iff.mpr ⟨oD, hp _ (.head _), hd9⟩, hpp.mono fun e q hv => ⟨hv.1, hv.2 h' kk fun r hr => hp r (.tail _ hr)⟩⟩⟩
      have hq1 : q ∈ (D, oD) :: (a, W.listOf #[.ref sc, .int ((cur : Nat) : Int) t'] n) :: (own ++ [(L + 2, om), (L + 1, ot)]) := by
        rcases List.mem_cons.mp hq with rfl | hq
        · exact .head _
        · exact .tail _ (.tail _ (List.mem_append_left _ hq))
      have hqa : q.1 ≠ a := by
        rcases List.mem_cons.mp hq with rfl | hq
        · exact hDa
        · exact hoa q hq
      have z := N9 q hq1
      refine ⟨z.1, ?_⟩
      cases e : s.heap.get? q.1 with
      | none => rfl
      | some o => rw [hup _ _ hqa e] at z; exact absurd z.2.2 (fun q => by cases q)
theorem tree_all {sc : Addr} {vs : List Value} {ns : List Int} : ∀ d, TreeAt w p loose mean mg mb sc vs ns d (5 * (d + 1))
  | 0 => tree_call (k := 0) (fun d' h => by omega)
  | d + 1 => tree_call (k := 5 * (d + 1)) (fun d' h => by
      obtain rfl : d' = d := by omega
      exact tree_all d')
end Mine

end PartMTree

section PartMAll
open PySem PySem.W PyProof.Rows PySem.Calls
namespace Mine
variable {w : World} {p : Program} {loose : List Str} {mean : ExcName → Option Value} {mg mb : Str → Option Value}
theorem weight_all : ∀ n, WeightOk w p loose mean mg mb (Is w n) (wt n) (5 * n)
  | 0 => fun _ _ _ x => x.elim
  | n + 1 => by
    have ih : WeightOk w p loose mean mg mb (Is w n) (wt n) (5 * n) := weight_all n
    exact weight_step (mono_is w n) (fun_is w n) ih
theorem any_all : ∀ n, AnyOk w p loose mean mg mb (Is w n) (anyJ n) (5 * n)
  | 0 => fun _ _ _ x => x.elim
  | n + 1 => by
    have ih : AnyOk w p loose mean mg mb (Is w n) (anyJ n) (5 * n) := any_all n
    exact any_step (mono_is w n) (fun_is w n) ih
theorem bare_all : ∀ n, BareOk w p loose mean mg mb (TIs w n) (bare n) (5 * n)
  | 0 => fun _ _ _ x => x.elim
  | n + 1 => by
    have ih : BareOk w p loose mean mg mb (TIs w n) (bare n) (5 * n) := bare_all n
    exact bare_step (mono_tis w n) (fun_tis w n) (itemNe_tis w n) ih
end Mine

end PartMAll

section PartMEq3
open PySem PySem.W PyProof.Rows PySem.Calls
namespace Mine
variable {w : World}
theorem paired_get {α β : Type} {F : α → β → Prop} {l₁ l₂ : List α} {l : List β} (h1 : Paired F l₁ l) (h2 : Paired F l₂ l) {i : Nat} {a : α} (e : l₁[i]? = some a) : ∃ b x, l₂[i]? = some b ∧ l[i]? = some x ∧ F a x ∧ F b x := by
  obtain ⟨x, hx, hF⟩ := Paired.at' h1 i a e
  have hlt : i < l₂.length := by rw [h2.length]; exact (List.getElem?_eq_some_iff.mp hx).1
  obtain ⟨y, hy, hG⟩ := Paired.at' h2 i _ (List.getElem?_eq_getElem hlt)
  rw [hx] at hy; cases hy
  exact ⟨_, x, List.getElem?_eq_getElem hlt, hx, hF, hG⟩
theorem eqT_is : ∀ (n : Nat) (A : Around) (s : Shared) (v u : Value) (x : J n), A.units + n < cLine → Is w n s.heap v x → Is w n s.heap u x → EqT w A s v u
  | 0, _, _, _, _, x, _, _, _ => x.elim
  | n + 1, A, s, v, u, .leaf .none, hu, h1, h2 => by
    obtain ⟨e1, _⟩ := h1
    obtain ⟨e2, _⟩ := h2
    rw [show v = .none from e1, show u = .none from e2]; exact eqT_same _
  | n + 1, A, s, v, u, .leaf (.int i), hu, h1, h2 => by
    obtain ⟨⟨t, rfl⟩, _⟩ := h1
    obtain ⟨⟨t', rfl⟩, _⟩ := h2
    intro E Q h
    exact SeqAt.EqAt.int_int i t i t' prog w E Q (by rw [show (i == i) = true from beq_self_eq_true _]; exact h)
  | n + 1, A, s, v, u, .leaf (.str i), hu, h1, h2 => by
    obtain ⟨⟨t, rfl⟩, _⟩ := h1
    obtain ⟨⟨t', rfl⟩, _⟩ := h2
    intro E Q h
    exact SeqAt.EqAt.str_str i t i t' prog w E Q (by rw [show (i == i) = true from beq_self_eq_true _]; exact h)
  | n + 1, A, s, v, u, .list xs, hu, h1, h2 => by
    obtain ⟨_, a, vs, rfl, hv, hp⟩ := h1
    obtain ⟨_, b, us, rfl, hv2, hp2⟩ := h2
    refine eqT_of fun _ => listsT hv hv2 (by simp only [List.size_toArray]; rw [hp.length, hp2.length]) (by omega) false fun j j1 j2 => ?_
    have e1 : vs[j]? = some ((List.toArray vs)[j]) := by simp
    obtain ⟨c, y, e2, _, r1, r2⟩ := paired_get hp hp2 e1
    have e3 : (List.toArray us)[j] = c := by
      have : us[j]? = some ((List.toArray us)[j]) := by simp
      rw [e2] at this; exact (Option.some.inj this).symm
    rw [e3]
    exact eqT_is n A.in1 s _ _ y (by show A.units + 1 + n < cLine; omega) r1 r2
  | n + 1, A, s, v, u, .dict kvs, hu, h1, h2 => by
    obtain ⟨_, _, a, es, rfl, ha, hd, hp⟩ := h1
    obtain ⟨_, _, b, fs, rfl, hb, hd2, hp2⟩ := h2
    refine eqT_of fun _ => dictsT ha hb hd hd2 (by rw [hp.length, hp2.length]) (by omega) false fun j k v e => ?_
    obtain ⟨c, y, e2, _, r1, r2⟩ := paired_get hp hp2 e
    obtain ⟨k2, u⟩ := c
    have hk : k2 = k := r2.1.trans r1.1.symm
    subst hk
    have hn : (fs.map (·.1)).Nodup := by obtain ⟨_, hat⟩ := hd2.dictAt; exact hat.nodup
    exact ⟨u, valueAt_of_get hn e2, eqT_is n A.in1 s _ _ y.2 (by show A.units + 1 + n < cLine; omega) r1.2 r2.2⟩
theorem ne_is {n : Nat} {A : Around} {s : Shared} {a b : Addr} {x : J n} (hu : A.units + n < cLine) (h1 : Is w n s.heap (.ref a) x) (h2 : Is w n s.heap (.ref b) x) (ne : Bool) : CmpT w A s ne (.ref a) (.ref b) := by
  cases n with
  | zero => exact x.elim
  | succ n =>
    cases x with
    | leaf l =>
      obtain ⟨e1, _⟩ := h1
      cases l with
      | none => cases (show Value.ref a = .none from e1)
      | int i => obtain ⟨t, e⟩ := e1; cases e
      | str i => obtain ⟨t, e⟩ := e1; cases e
    | list xs =>
      obtain ⟨_, a', vs, e1, hv, hp⟩ := h1
      obtain ⟨_, b', us, e2, hv2, hp2⟩ := h2
      cases e1; cases e2
      refine listsT hv hv2 (by simp only [List.size_toArray]; rw [hp.length, hp2.length]) (by omega) ne fun j j1 j2 => ?_
      have e1 : vs[j]? = some ((List.toArray vs)[j]) := by simp
      obtain ⟨c, y, e2, _, r1, r2⟩ := paired_get hp hp2 e1
      have e3 : (List.toArray us)[j] = c := by
        have : us[j]? = some ((List.toArray us)[j]) := by simp
        rw [e2] at this; exact (Option.some.inj this).symm
      rw [e3]
      exact eqT_is n A.in1 s _ _ y (by show A.units + 1 + n < cLine; omega) r1 r2
    | dict kvs =>
      obtain ⟨_, _, a', es, e1, ha, hd, hp⟩ := h1
      obtain ⟨_, _, b', fs, e2, hb, hd2, hp2⟩ := h2
      cases e1; cases e2
      refine dictsT ha hb hd hd2 (by rw [hp.length, hp2.length]) (by omega) ne fun j k v e => ?_
      obtain ⟨c, y, e2, _, r1, r2⟩ := paired_get hp hp2 e
      obtain ⟨k2, u⟩ := c
      have hk : k2 = k := r2.1.trans r1.1.symm
      subst hk
      have hn : (fs.map (·.1)).Nodup := by obtain ⟨_, hat⟩ := hd2.dictAt; exact hat.nodup
      exact ⟨u, valueAt_of_get hn e2, eqT_is n A.in1 s _ _ y.2 (by show A.units + 1 + n < cLine; omega) r1.2 r2.2⟩
end Mine

end PartMEq3

section PartMLaw0
open PySem PySem.W PyProof.Rows PySem.Calls
namespace Mine
variable {w : World} {p : Program} {loose : List Str} {mean : ExcName → Option Value} {mg mb : Str → Option Value}

/-! ## The tree that is built can be shown -/
theorem partT_low : ∀ (n : Nat) (y : T n) (x : J n), partT n y x = true → lowJ n x → lowTJ n y
  | 0, y, _, _, _ => y.elim
  | n + 1, y, x, h, hx => partC_low (partT_low n) h hx
theorem leafG_low (ns : List Int) (q : Int) (i : Nat) : lowL (leafG ns q i).1 := by
  unfold leafG
  split
  · trivial
  split
  · trivial
  · show lowS _
    refine slice_low ?_
    have : ∀ c ∈ (Str.ofString "abcdefghijklm").cps.toList, c < 16 ^ 8 := by decide
    exact this
theorem keyG_low (z : Int) : lowS (keyG z) := by
  unfold keyG
  have h1 : ∀ c ∈ (Str.ofString "k").cps.toList, c < 16 ^ 8 := by decide
  have h2 : ∀ c ∈ (Str.ofString "key").cps.toList, c < 16 ^ 8 := by decide
  have h3 : ∀ c ∈ (Str.ofString "longer").cps.toList, c < 16 ^ 8 := by decide
  have h4 : ∀ c ∈ (Str.ofString "").cps.toList, c < 16 ^ 8 := by decide
  split
  · exact h1
  split
  · exact h2
  split
  · exact h3
  · exact h4
theorem put_all {α : Type} {P : Str × α → Prop} {kvs : List (Str × α)} {k : Str} {v : α} (h : ∀ q ∈ kvs, P q) (hk : ∀ q : Str × α, q.1 = k → P (q.1, v)) : ∀ q ∈ put kvs k v, P q := by
  intro q hq
  unfold put at hq
  split at hq
  · obtain ⟨r, hr, rfl⟩ := List.mem_map.mp hq
    split
    · rename_i e; exact hk r e
    · exact h r hr
  · rcases List.mem_append.mp hq with hq | hq
    · exact h q hq
    · rw [List.mem_singleton.mp hq]; exact hk (k, v) rfl
theorem genL_all {α : Type} {P : α → Prop} {f : Nat → α × Nat} (hf : ∀ i, P (f i).1) : ∀ (c i : Nat) (acc : List α), (∀ x ∈ acc, P x) → ∀ x ∈ (genL f c i acc).1, P x
  | 0, _, _, h => h
  | c + 1, i, acc, h => genL_all hf c _ _ fun x hx => by
    rcases List.mem_append.mp hx with hx | hx
    · exact h x hx
    · rw [List.mem_singleton.mp hx]; exact hf i
theorem genD_all {α : Type} {P : Str × α → Prop} {ns : List Int} {f : Nat → α × Nat} (hf : ∀ z i, P (keyG z, (f i).1)) : ∀ (c i : Nat) (acc : List (Str × α)), (∀ x ∈ acc, P x) → ∀ x ∈ (genD ns f c i acc).1, P x
  | 0, _, _, h => h
  | c + 1, i, acc, h => genD_all hf c _ _ (put_all h fun q e => by rw [e]; exact hf _ _)
/-- the signs of the tree -/
def sgnC {α : Type} (low : α → Prop) : Cont α → Prop
  | .leaf l => lowL l
  | .list xs => ∀ x ∈ xs, low x
  | .dict kvs => ∀ q ∈ kvs, lowS q.1 ∧ low q.2
def sgnJ : (n : Nat) → J n → Prop
  | 0 => fun x => x.elim
  | n + 1 => sgnC (sgnJ n)
theorem genTree_sgn (ns : List Int) : ∀ (d i : Nat), sgnJ (d + 1) (genTree ns d i).1
  | 0, i => leafG_low _ _ _
  | d + 1, i => by
    unfold genTree
    split
    · exact leafG_low _ _ _
    split
    · exact genL_all (P := sgnJ (d + 1)) (genTree_sgn ns d) _ _ _ fun x hx => (List.not_mem_nil hx).elim
    · exact genD_all (P := fun q => lowS q.1 ∧ sgnJ (d + 1) q.2) (fun z i => ⟨keyG_low z, genTree_sgn ns d i⟩) _ _ _ fun x hx => (List.not_mem_nil hx).elim
theorem low_of : ∀ (n : Nat) (h : Heap) (v : Value) (x : J n), Is w n h v x → sgnJ n x → lowJ n x
  | 0, _, _, x, _, _ => x.elim
  | n + 1, h, v, .leaf l, hx, hs => ⟨hs, hx.2⟩
  | n + 1, h, v, .list xs, hx, hs => fun x hm => by
    obtain ⟨_, a, vs, _, _, hp⟩ := hx
    obtain ⟨u, _, hu⟩ := paired_mem (Paired.swap hp) hm
    exact low_of n h u x hu (hs x hm)
  | n + 1, h, v, .dict kvs, hx, hs => fun q hm => by
    obtain ⟨_, _, a, es, _, _, _, hp⟩ := hx
    obtain ⟨u, _, _, hu⟩ := paired_mem (Paired.swap hp) hm
    exact ⟨(hs q hm).1, low_of n h _ q.2 hu (hs q hm).2⟩
/-! ## _law_part at every depth -/
theorem part_all : ∀ n, n ≤ 3 → PartOk w p loose mean mg mb (TIs w n) (Is w n) (lowTJ n) (partT n) (5 * n)
  | 0, _ => fun _ _ _ _ x => x.elim
  | n + 1, hn => by
    have ih : PartOk w p loose mean mg mb (TIs w n) (Is w n) (lowTJ n) (partT n) (5 * n) := part_all n (by omega)
    have hB : 6 * BB n + 100 ≤ sizeLine := by
      rw [sizeLine_eq]
      have : n = 0 ∨ n = 1 ∨ n = 2 := by omega
      rcases this with rfl | rfl | rfl <;> decide
    exact part_step (mono_is w n) (mono_tis w n) (itemNe_tis w n) (rd_all w n) (bb_ge n) hB (by omega) (weight_all n) ih
/-! ## Two trees of one shape compared -/
theorem cmp_tree {n : Nat} {A : Around} {s : Shared} {v u : Value} {x : J n} {E Q : Value → Shared → Prop} (hu : A.units + n < cLine) (h1 : Is w n s.heap v x) (h2 : Is w n s.heap u x) (ne : Bool) (h : Q (.bool (!ne)) s) : wpAny (model prog w) A (richCompare (if ne then .NotEq else .Eq) v u) Q E s := by
  cases n with
  | zero => exact x.elim
  | succ n =>
    cases x with
    | leaf l =>
      cases l with
      | none =>
        cases (show v = .none from h1.1)
        cases (show u = .none from h2.1)
        cases ne
        · exact SeqAt.RcAt.none_none prog w E Q h
        · exact SeqAt.RcNeAt.none_none prog w E Q h
      | int i =>
        obtain ⟨⟨t, rfl⟩, _⟩ := h1
        obtain ⟨⟨t', rfl⟩, _⟩ := h2
        cases ne
        · exact SeqAt.RcAt.int_int i t i t' prog w E Q (by rw [show (i == i) = true from beq_self_eq_true _]; exact h)
        · exact SeqAt.RcNeAt.int_int i t i t' prog w E Q (by rw [show (i == i) = true from beq_self_eq_true _]; exact h)
      | str i =>
        obtain ⟨⟨t, rfl⟩, _⟩ := h1
        obtain ⟨⟨t', rfl⟩, _⟩ := h2
        cases ne
        · exact SeqAt.RcAt.str_str i t i t' prog w E Q (by rw [show (i == i) = true from beq_self_eq_true _]; exact h)
        · exact SeqAt.RcNeAt.str_str i t i t' prog w E Q (by rw [show (i == i) = true from beq_self_eq_true _]; exact h)
    | list xs =>
      obtain ⟨_, a, vs, rfl, _⟩ := id h1
      obtain ⟨_, b, us, rfl, _⟩ := id h2
      exact ne_is hu h1 h2 ne E Q h
    | dict kvs =>
      obtain ⟨_, _, a, vs, rfl, _⟩ := id h1
      obtain ⟨_, _, b, us, rfl, _⟩ := id h2
      exact ne_is hu h1 h2 ne E Q h
/-! ## One object made anew, all else kept -/
theorem upd_news {g h h' : Heap} {L a : Addr} {m : Str → Option Value} {o o' : Obj} {rest : List (Addr × Obj)} (F : Fr g L h m) (N : News g L h ((a, o) :: rest)) (hr : ∀ q ∈ rest, q.1 ≠ a) (h1 : h'.get? a = some o') (h2 : ∀ b o, b ≠ a → h.get? b = some o → h'.get? b = some o) :
    Fr g L h' m ∧ News g L h' ((a, o') :: rest) := by
  have na := N _ (.head _)
  refine ⟨⟨F.ns.at' fun o e => h2 _ o (fun (q : L = a) => na.2.1 q.symm) e, fun b o e => h2 b o (fun q => by rw [q, na.2.2] at e; cases e) (F.keep b o e), F.above⟩, fun q hq => ?_⟩
  rcases List.mem_cons.mp hq with rfl | hq
  · exact ⟨h1, na.2⟩
  · have := N q (.tail _ hq)
    exact ⟨h2 _ _ (hr q hq) this.1, this.2⟩
/-- all that stands beside the base -/
theorem told_news {g h : Heap} {L : Addr} {m : Str → Option Value} {o4 : Obj} {rest : List (Addr × Obj)} (F : Fr g L h m) (N : News g L h ((44, o4) :: rest)) (h44r : ∀ q ∈ rest, q.1 ≠ 44) :
    ∃ own, News g L h ((44, o4) :: own) ∧ (∀ q ∈ rest, q ∈ own) ∧ ∀ {h' : Heap} {m' : Str → Option Value} {news' : List (Addr × Obj)}, Fr g L h' m' → News g L h' news' → (∀ q ∈ own, q ∈ news') → ∀ b o, (hideAll h [44, L]).get? b = some o → h'.get? b = some o := by
  obtain ⟨own, key⟩ : ∃ own : List (Addr × Obj), ∀ b o, (b, o) ∈ own ↔ (b ≠ 44 ∧ b ≠ L ∧ g.get? b = none ∧ h.get? b = some o) := by
    refine ⟨(List.range h.objs.size).filterMap fun b => if b = 44 ∨ b = L ∨ (g.get? b).isSome = true then none else (h.get? b).map fun o => (b, o), ?_⟩
    intro b o
    rw [List.mem_filterMap]
    constructor
    · rintro ⟨c, _, hc⟩
      split at hc
      · cases hc
      · rename_i hn
        cases e : h.get? c with
        | none => rw [e] at hc; cases hc
        | some o2 =>
          rw [e] at hc
          obtain ⟨rfl, rfl⟩ := Prod.mk.inj (Option.some.inj hc)
          refine ⟨fun q => hn (.inl q), fun q => hn (.inr (.inl q)), ?_, e⟩
          cases e3 : g.get? c with
          | none => rfl
          | some o3 => exact absurd (show (g.get? c).isSome = true by rw [e3]; rfl) fun q => hn (.inr (.inr q))
    · rintro ⟨h1, h2, h3, h4⟩
      refine ⟨b, List.mem_range.mpr (Heap.lt_size h4), ?_⟩
      have hn : ¬ (b = 44 ∨ b = L ∨ (g.get? b).isSome = true) := by
        rintro (q | q | q)
        · exact h1 q
        · exact h2 q
        · rw [h3] at q; cases q
      rw [if_neg hn, h4]
      rfl
  refine ⟨own, fun q hq => ?_, fun q hq => ?_, fun {h' m' news'} F' N' hs b o e => ?_⟩
  · rcases List.mem_cons.mp hq with rfl | hq
    · exact N _ (.head _)
    · obtain ⟨b, o⟩ := q
      obtain ⟨_, h2, h3, h4⟩ := (key b o).mp hq
      exact ⟨h4, h2, h3⟩
  · have hN := N q (.tail _ hq)
    exact (key q.1 q.2).mpr ⟨h44r q hq, hN.2.1, hN.2.2, hN.1⟩
  · have e2 := of_hideAll _ e
    have hb : b ∉ [44, L] := fun hm => by rw [hideAll_none _ hm] at e; cases e
    have hb1 : b ≠ 44 := fun q => hb (by rw [q]; exact .head _)
    have hb2 : b ≠ L := fun q => hb (by rw [q]; exact .tail _ (.head _))
    cases e3 : g.get? b with
    | none => exact (N' _ (hs _ ((key b o).mpr ⟨hb1, hb2, e3, e2⟩))).1
    | some o2 =>
      have := F.keep _ _ e3
      rw [e2] at this; cases this
      exact F'.keep _ _ e3
/-- calculate_weights(..), its weight alone -/
theorem calc_w {n : Nat} {A : Around} {s : Shared} {v : Value} {x : J n} {E : Value → Shared → Prop} (hA : Am (5 * n) A) (G : Gd w p loose mean mg mb s.heap) (hx : Is w n s.heap v x) :
    wpAny (model PySem.Challenge.rw_ez0045_01.row.prog w) A (call (.ref 42) [v]) (fun r s' => Mine.Done <| ∃ h' tk t tk' c, s' = { s with heap := h', toks := tk } ∧ (∀ b o, s.heap.get? b = some o → h'.get? b = some o) ∧ r = .ref t ∧ IsTup h' t #[.int (wt n x) tk', c]) E s := by
  refine wpAny_mono (calc_all n A s v x s.heap E hA G (fun _ _ e => e) hx) (fun r s' h => ?_) fun _ _ e => e
  unfold Mine.Done at h ⊢
  obtain ⟨own, t, o, tk, c, n, ⟨⟨h', tkk, rfl, k⟩, hnew⟩, rfl, hmem, hcls, hdat, _⟩ := h
  exact ⟨h', tkk, t, tk, c, rfl, k, rfl, ⟨o, (hnew _ hmem).1, hcls, _, hdat⟩⟩
theorem wt_row (x : J 3) : wt 4 (show J 4 from Cont.list [x]) = wt 3 x := by
  show ([x].map (wt 3)).sum = _
  rw [List.map_cons, List.map_nil, List.sum_cons, List.sum_nil]; omega
theorem wt_tab (x : J 3) : wt 4 (show J 4 from Cont.dict [(Str.ofString "key", x)]) = wt 3 x + 3 := by
  show ([(Str.ofString "key", x)].map fun p => (p.1.length : Int) + wt 3 p.2).sum = _
  rw [List.map_cons, List.map_nil, List.sum_cons, List.sum_nil]
  have e : (Str.ofString "key").length = 3 := by decide
  show ((Str.ofString "key").length : Int) + wt 3 x + 0 = _
  rw [e]; omega
theorem allLt_get {d : Nat} : ∀ {l : List (Addr × Obj)}, AllLt d l → ∀ q ∈ l, @LT.lt Nat _ q.1 d
  | [], _, q, hq => (List.not_mem_nil hq).elim
  | p :: l, h, q, hq => by
    rcases List.mem_cons.mp hq with e | hq
    · rw [e]; exact h.1
    · exact allLt_get h.2 q hq
theorem upd_own {g h h' : Heap} {L a : Addr} {m : Str → Option Value} {o o' : Obj} {rest own : List (Addr × Obj)} (F : Fr g L h m) (N : News g L h ((a, o) :: rest)) (hr : ∀ q ∈ rest, q.1 ≠ a) (h1 : h'.get? a = some o') (h2 : ∀ b o, b ≠ a → h.get? b = some o → h'.get? b = some o)
    (hnew : ∀ q ∈ own, h'.get? q.1 = some q.2 ∧ h.get? q.1 = none) : Fr g L h' m ∧ News g L h' ((a, o') :: (own ++ rest)) ∧ (∀ q ∈ own, q.1 ≠ a) ∧ ∀ q ∈ own, ∀ r ∈ rest, q.1 ≠ r.1 := by
  obtain ⟨F', N'⟩ := upd_news F N hr h1 h2
  refine ⟨F', fun q hq => ?_, fun q hq e => ?_, fun q hq r hr' e => ?_⟩
  · rcases List.mem_cons.mp hq with rfl | hq
    · exact N' _ (.head _)
    · rcases List.mem_append.mp hq with hq | hq
      · obtain ⟨e1, e2⟩ := hnew q hq
        refine ⟨e1, fun e => ?_, ?_⟩
        · obtain ⟨oL, _, _, hoL, _⟩ := F.ns
          rw [e, hoL] at e2; cases e2
        · cases e : g.get? q.1 with
          | none => rfl
          | some o => rw [F.keep _ _ e] at e2; cases e2
      · exact N' q (.tail _ hq)
  · have := (hnew q hq).2
    rw [e, (N _ (.head _)).1] at this; cases this
  · have := (hnew q hq).2
    rw [e, (N r (.tail _ hr')).1] at this; cases this
end Mine

end PartMLaw0

section PartMLaw3
open PySem PySem.W PyProof.Rows PySem.Calls
local macro_rules | `(tactic| walk_at "eval ListComp") => `(tactic| refine Mine.stop_ ?_)
local macro_rules | `(tactic| walk_at "call builtin:len") => `(tactic| ((with_reducible show wpAny _ _ (call (Value.builtin "len") [Value.str _ _]) _ _ _); refine len_str (by assumption) ?_))
local macro_rules | `(tactic| walk_at "subscriptTail") => `(tactic| ((with_reducible show wpAny _ _ (subscriptTail _ _ (Value.ref _) (Value.str _ _)) _ _ _); refine Mine.item_dict (by assumption) (by assumption) ?_ (by with_unfolding_all rfl) (by intro _; with_unfolding_all rfl)))
local macro_rules | `(tactic| walk_at "call ref") => `(tactic| refine Mine.stop_ ?_)
local macro_rules | `(tactic| walk_at "eval Name") => `(tactic| ((with_reducible show wpAny _ _ (eval (Expr.Name _ _) (compEnvC _ _ _ _)) _ _ _); first
  | (refine Mine.cname_L (by assumption) (by assumption) ?_ (by rfl) (by rfl) (by decide))
  | (refine Mine.cname_C (by rfl) (by assumption) ?_ (by rfl) (by rfl) (by decide))
  | (refine Mine.cname_K (by assumption) (by rfl) ?_ (by rfl) (by rfl) (by rfl) (by decide))
  | (refine Mine.cname_B (by assumption) (by rfl) (by boot_by_name) (by decide) ?_ (by rfl) (by rfl) (by rfl) (by rfl) (by decide))))
local macro_rules | `(tactic| walk_at "eval Dict") => `(tactic| refine Mine.stop_ ?_)
namespace Mine
variable {w : World} {p : Program} {loose : List Str} {mean : ExcName → Option Value} {mg mb : Str → Option Value}

local macro_rules | `(tactic| walk_at "assign Tuple") => `(tactic| ((with_reducible show wpAny _ _ (assign (Expr.Tuple _ _ _) _ (Value.ref _)) _ _ _); refine unpackN_ (by assumption) (by assumption) (by assumption) (by assumption) (by rfl) (by rfl) ?_; intro h' F' N'))
local macro_rules | `(tactic| walk_at "call type:float") => `(tactic| refine Mine.stop_ ?_)
local macro_rules | `(tactic| walk_at "eval Lambda") => `(tactic| refine Mine.stop_ ?_)
local macro_rules | `(tactic| walk_at "call builtin:sorted") => `(tactic| refine Mine.stop_ ?_)
local macro_rules | `(tactic| walk_at "call builtin:min") => `(tactic| (refine min_two_N (by assumption) (by assumption) (by assumption) ?_; intro h' tk' F' N'))
local macro_rules | `(tactic| walk_at "compareOp IsNot") => `(tactic| (refine Mine.isNot_none (by assumption) ?_))
local macro_rules | `(tactic| walk_at "exec For Tuple Name") => `(tactic| refine Mine.stop_ ?_)

local macro_rules | `(tactic| walk_at "eval Call Attribute") => `(tactic| ((with_reducible show wpAny _ _ (eval (Expr.Call (Expr.Attribute _ _ _) [] [] _) _) _ _ _); refine Mine.stop_ ?_))




/-- what the law leaves behind -/
def LawEnd (s : Shared) (r : Value) (s' : Shared) : Prop := ∃ ps h' tk, s' = { s with heap := h', toks := tk } ∧ r = .bool true ∧ (∀ b o, b ≠ 44 → s.heap.get? b = some o → h'.get? b = some o) ∧ h'.get? 44 = some (tabObj ps)
/-- the law's own text, read off the written part -/
noncomputable def lawFn (w : World) : Option FuncData := match (Mine.hd.heap_39 w.params).lookup 96 with
  | some o => match o.data with
    | .func fd => some fd
    | _ => none
  | none => none
noncomputable def lawBody (w : World) : List Stmt := match lawFn w with
  | some fd => match fd.body with
    | .stmts b => b
    | _ => []
  | none => []
noncomputable def lawScope (w : World) : Scope := match lawFn w with
  | some fd => fd.scope
  | none => default

theorem is_none_shape {M : Model} {A : Around} {E Q : Value → Shared → Prop} {s : Shared} {v : Value} (h : Shape v) (hq : Q (.bool false) s) : wpAny M A (compareOp .Is v .none) Q E s := by
  rcases h with ⟨i, t, rfl⟩ | ⟨x, t, rfl⟩ | ⟨a, rfl⟩
  · exact wpAny_is_other rfl (by intro e; cases e) hq
  · exact wpAny_is_other rfl (by intro e; cases e) hq
  · exact wpAny_is_other rfl (by intro e; cases e) hq
set_option maxHeartbeats 4000000 in
theorem law_told {A : Around} {s : Shared} {L : Addr} {h g hq : Heap} {tk : Nat} {m : Str → Option Value} {rest : List (Addr × Obj)} {r r8 : Value} {x : J 3} {most : Int} {tm tw : Tok} (hA : Am 60 A) (hF : Frs A [] s.heap) (B : Bas [] s.heap g) (Gg : Gd w p loose mean mg mb g) (F : Fr g L h m) (N : News g L h ((44, tabObj #[]) :: rest)) (h44r : ∀ q ∈ rest, q.1 ≠ 44)
    (k1 : m (Str.ofString "tree") = some r) (k2 : m (Str.ofString "again") = some r8) (k3 : m (Str.ofString "most") = some (.int most tm)) (k4 : m (Str.ofString "weight") = some (.int (wt 3 x) tw))
    (Gq : Gd w p loose mean mg mb hq) (Cq : CodeHd hq 48 44) (hsy : ∃ m, hq.Ns sysModules m) (hq44 : hq.get? 44 = none) (hqL : hq.get? L = none) (hqg : ∀ b, b ∉ rest.map (·.1) → ∀ o, hq.get? b = some o → g.get? b = some o) (hqr : ∀ q ∈ rest, ∀ o, hq.get? q.1 = some o → o = q.2)
    (hx : Is w 3 hq r x) (hx8 : Is w 3 hq r8 x) (hlow : lowJ 3 x) (hm0 : 0 ≤ most) :
    wpH (model PySem.Challenge.rw_ez0045_01.row.prog w) (A.deeper (envX (Str.ofString "law") (lawScope w) L 96 (.ref 95) [])) (execs ((lawBody w).drop 7) (envX (Str.ofString "law") (lawScope w) L 96 (.ref 95) [])) (fun fl s' => LawEnd s (match fl with | .ret v => v | _ => .none) s') (fun _ _ => False) { s with heap := h, toks := tk } := by
  have hsc : lawScope w = lawScope w := rfl
  conv at hsc => rhs; whnf
  rw [hsc]
  clear hsc
  conv => arg 3; arg 1; whnf
  obtain ⟨X, T⟩ := Gg
  have hh : A.handled = none := hA.hd
  have hqk : ∀ {h' : Heap} {m : Str → Option Value} {news : List (Addr × Obj)}, Fr g L h' m → News g L h' news → (∀ q ∈ rest, q ∈ news) → ∀ b o, hq.get? b = some o → h'.get? b = some o := fun F N hs b o e => by
    by_cases hb : b ∈ rest.map (·.1)
    · obtain ⟨q, hm, rfl⟩ := List.mem_map.mp hb
      rw [hqr q hm o e]
      exact (N _ (hs _ hm)).1
    · exact F.keep _ _ (hqg b hb o e)
  have hk0 := hqk F N (fun q hq => .tail _ hq)
  revert X; k_fill; intro X
  w_on
  replace F := know4 k1 k2 k3 k4 F
  refine wpH_execs_cons ?_
  refine wpH_Assign ?_
  refine wpH_Call_def3 ?_
  refine hideQ fun K hK => ?_
  k_steps
  refine Mine.go_ (hK _ _ (Mine.go_ ⟨_, rfl, ?_⟩))
  clear hK K
  try dsimp only
  refine hideQ fun K hK => ?_
  k_steps
  refine Mine.go_ (hK _ _ (Mine.go_ ?_))
  clear hK K
  try dsimp only
  have hLf : 44 ∉ [L] := fun hb => (N _ (.head _)).2.1 (List.mem_singleton.mp hb)
  refine ⟨_, _, F.keep _ _ (X 57 _ rfl), rfl, ?_⟩
  refine wpH_mono (greedy_call (n := 3) (by omega) x _ _ r most tm _ #[] hq [L] _ ((hA.deeper _).less (by omega)) (hF.deeper B F rfl (fun e => by cases e)) Gq Cq hk0 hq44 (fun b hb => List.mem_singleton.mp hb ▸ hqL) hLf (N _ (.head _)).1 ⟨trivial, fun _ _ e => by cases e⟩ hx hm0) (fun r9 s9 hg => ?_) fun _ _ e => e
  unfold Mine.Done at hg
  obtain ⟨ps9, h9, tk9, rfl, kk9, h944, hres⟩ := hg
  have hnsE : ∀ b ∈ ([] : List Addr), ∃ m, s.heap.Ns b m := fun b hb => (List.not_mem_nil hb).elim
  obtain ⟨g₂, B₂, F9, hgn, hgg⟩ := B.step hnsE F N kk9
  obtain ⟨N9, -, -⟩ := news44 (own' := []) B hnsE F N hgn kk9 h944 h44r (fun q hq => (List.not_mem_nil hq).elim)
  replace N9 : News g₂ L h9 ((44, tabObj ps9) :: rest) := N9
  obtain ⟨own, N10, hro, htold⟩ := told_news F9 N9 h44r
  have hqk2 : ∀ {h' : Heap} {m : Str → Option Value} {news : List (Addr × Obj)}, Fr g₂ L h' m → News g₂ L h' news → (∀ q ∈ own, q ∈ news) → ∀ b o, hq.get? b = some o → h'.get? b = some o := fun F N hs b o e => by
    by_cases hb : b ∈ rest.map (·.1)
    · obtain ⟨q, hm, rfl⟩ := List.mem_map.mp hb
      rw [hqr q hm o e]
      exact (N _ (hs _ (hro _ hm))).1
    · exact F.keep _ _ (hgg _ _ List.not_mem_nil (hqg b hb o e))
  have G2 := (Gd.mk X T).keeps fun b o e => hgg b o List.not_mem_nil e
  clear X T
  obtain ⟨X, T⟩ := G2
  clear F N N9 hk0 hqk kk9 h944 hgn hgg
  refine hideQ fun K hK => ?_
  k_steps
  refine Mine.go_ (hK _ _ (Mine.go_ ?_))
  clear hK K
  try dsimp only
  have hun : A.units + 3 + 3 < cLine := by have := hA.un; omega
  rename Fr _ _ _ _ => F11
  rename News _ _ _ _ => N11
  have hk11 := hqk2 F11 N11 (fun q hq => .tail _ hq)
  refine wpH_execs_cons ?_
  refine wpH_If ?_
  refine hideQ fun K hK => ?_
  k_steps
  refine cmp_tree (n := 3) (x := x) (ne := true) hun (mono_is w 3 _ _ _ _ hk11 hx) (mono_is w 3 _ _ _ _ hk11 hx8) ?_
  k_steps
  refine Mine.go_ (hK _ _ (Mine.go_ ?_))
  clear hK K
  try dsimp only
  rw [if_neg (by decide)]
  refine wpH_of ?_
  refine wpAny_execs_nil ?_
  refine Mine.go_ ?_
  refine wpH_execs_cons ?_
  refine wpH_If ?_
  refine hideQ fun K hK => ?_
  k_steps
  refine Mine.go_ (hK _ _ (Mine.go_ ?_))
  clear hK K
  try dsimp only
  by_cases hle : wt 3 x ≤ most
  · rw [if_pos (decide_eq_true hle)]
    have hr : r9 = r := hres.elim (fun e => e.2) fun e => absurd hle e.1
    subst hr
    refine wpH_of ?_
    k_steps
    rename Fr _ _ _ _ => F12
    rename News _ _ _ _ => N12
    have hk12 := hqk2 F12 N12 (fun q hq => .tail _ hq)
    refine cmp_tree (n := 3) (x := x) (ne := false) hun (mono_is w 3 _ _ _ _ hk12 hx) (mono_is w 3 _ _ _ _ hk12 hx) ?_
    k_steps
    show LawEnd s (Value.bool true) _
    exact ⟨ps9, _, _, rfl, rfl, fun b o hb e => F12.keep _ _ (B₂.up b o hb List.not_mem_nil e), (N12 _ (.head _)).1⟩
  rw [if_neg (by rw [decide_eq_true_eq]; exact hle)]
  refine wpH_of ?_
  refine wpAny_execs_nil ?_
  refine Mine.go_ ?_
  obtain ⟨y, kk, hty, hPJ⟩ : ∃ y k, TIs w 3 (hideAll h9 [44, L]) r9 y ∧ PJ (nbT 3) (anyJ 3) (partT 3) (bare 3) x most y k := hres.elim (fun e => absurd e.1 hle) fun e => e.2
  rcases nb_t 3 _ _ _ hty with ⟨hb, rfl⟩ | ⟨hb, hsh⟩
  · refine wpH_of ?_
    k_steps
    refine Mine.go_ ?_
    rename Fr _ _ _ _ => F12
    rename News _ _ _ _ => N12
    have hk12 := hqk2 F12 N12 (fun q hq => .tail _ hq)
    refine wpAny_mono (any_all 3 _ _ r x most tm _ ((hA.deeper _).less (by omega)) (Gq.keeps hk12) (mono_is w 3 _ _ _ _ hk12 hx)) (fun r' s' hc => ?_) fun _ _ e => e
    obtain ⟨⟨h13, tk13, rfl, k13⟩, rfl⟩ := hc
    have F13 := F12.keeps k13
    have N13 := N12.grown k13
    clear F12 N12
    rw [hPJ.1 hb]
    k_steps
    show LawEnd s (Value.bool true) _
    exact ⟨ps9, _, _, rfl, rfl, fun b o hb e => F13.keep _ _ (B₂.up b o hb List.not_mem_nil e), (N13 _ (.head _)).1⟩
  · obtain ⟨hany, hpart, hbare, hkm, hk0⟩ := hPJ.2 hb
    have hlt := partT_low 3 y x hpart hlow
    refine wpH_of ?_
    k_steps
    refine is_none_shape hsh ?_
    k_steps
    refine Mine.go_ ?_
    rename Fr _ _ _ _ => F12
    rename News _ _ _ _ => N12
    have hk12 := hqk2 F12 N12 (fun q hq => .tail _ hq)
    refine wpAny_mono (any_all 3 _ _ r x most tm _ ((hA.deeper _).less (by omega)) (Gq.keeps hk12) (mono_is w 3 _ _ _ _ hk12 hx)) (fun r' s' hc => ?_) fun _ _ e => e
    obtain ⟨⟨h13, tk13, rfl, k13⟩, rfl⟩ := hc
    have F13 := F12.keeps k13
    have N13 := N12.grown k13
    clear F12 N12 hk12
    rw [hany]
    k_steps
    refine Mine.go_ ?_
    have hk13 := hqk2 F13 N13 (fun q hq => .tail _ hq)
    refine wpAny_mono (part_all 3 (Nat.le_refl _) _ _ r9 r y x _ ((hA.deeper _).less (by omega)) (Gq.keeps hk13) (hsy.imp fun _ hm => hm.keeps hk13) (mono_tis w 3 _ _ _ _ (htold F13 N13 fun q hq => .tail _ hq) hty) hlt (mono_is w 3 _ _ _ _ hk13 hx)) (fun r' s' hc => ?_) fun _ _ e => e
    obtain ⟨⟨h14, tk14, rfl, k14⟩, rfl⟩ := hc
    have F14 := F13.keeps k14
    have N14 := N13.grown k14
    clear F13 N13 hk13
    rw [hpart]
    k_steps
    refine Mine.go_ ?_
    have hk14 := hqk2 F14 N14 (fun q hq => .tail _ hq)
    refine wpAny_mono (bare_all 3 _ _ r9 y _ ((hA.deeper _).less (by omega)) (Gq.keeps hk14) (mono_tis w 3 _ _ _ _ (htold F14 N14 fun q hq => .tail _ hq) hty)) (fun r' s' hc => ?_) fun _ _ e => e
    obtain ⟨⟨h15, tk15, rfl, k15⟩, t15, rfl⟩ := hc
    have F15 := F14.keeps k15
    have N15 := N14.grown k15
    clear F14 N14 hk14
    rw [hbare]
    k_steps
    show LawEnd s (Value.bool _) _
    exact ⟨ps9, _, _, rfl, by rw [decide_eq_true hkm], fun b o hb e => F15.keep _ _ (B₂.up b o hb List.not_mem_nil e), (N15 _ (.head _)).1⟩
end Mine

end PartMLaw3

section PartMLaw2
open PySem PySem.W PyProof.Rows PySem.Calls
local macro_rules | `(tactic| walk_at "no such step 0") => `(tactic| fail)
local macro_rules | `(tactic| walk_at "eval ListComp") => `(tactic| refine Mine.stop_ ?_)
local macro_rules | `(tactic| walk_at "call builtin:len") => `(tactic| ((with_reducible show wpAny _ _ (call (Value.builtin "len") [Value.str _ _]) _ _ _); refine len_str (by assumption) ?_))
local macro_rules | `(tactic| walk_at "subscriptTail") => `(tactic| ((with_reducible show wpAny _ _ (subscriptTail _ _ (Value.ref _) (Value.str _ _)) _ _ _); refine Mine.item_dict (by assumption) (by assumption) ?_ (by with_unfolding_all rfl) (by intro _; with_unfolding_all rfl)))
local macro_rules | `(tactic| walk_at "call ref") => `(tactic| refine Mine.stop_ ?_)
local macro_rules | `(tactic| walk_at "eval Name") => `(tactic| ((with_reducible show wpAny _ _ (eval (Expr.Name _ _) (compEnvC _ _ _ _)) _ _ _); first
  | (refine Mine.cname_L (by assumption) (by assumption) ?_ (by rfl) (by rfl) (by decide))
  | (refine Mine.cname_C (by rfl) (by assumption) ?_ (by rfl) (by rfl) (by decide))
  | (refine Mine.cname_K (by assumption) (by rfl) ?_ (by rfl) (by rfl) (by rfl) (by decide))
  | (refine Mine.cname_B (by assumption) (by rfl) (by boot_by_name) (by decide) ?_ (by rfl) (by rfl) (by rfl) (by rfl) (by decide))))
local macro_rules | `(tactic| walk_at "eval Dict") => `(tactic| refine Mine.stop_ ?_)
namespace Mine
variable {w : World} {p : Program} {loose : List Str} {mean : ExcName → Option Value} {mg mb : Str → Option Value}

local macro_rules | `(tactic| walk_at "assign Tuple") => `(tactic| ((with_reducible show wpAny _ _ (assign (Expr.Tuple _ _ _) _ (Value.ref _)) _ _ _); refine unpackN_ (by assumption) (by assumption) (by assumption) (by assumption) (by rfl) (by rfl) ?_; intro h' F' N'))
local macro_rules | `(tactic| walk_at "call type:float") => `(tactic| refine Mine.stop_ ?_)
local macro_rules | `(tactic| walk_at "eval Lambda") => `(tactic| refine Mine.stop_ ?_)
local macro_rules | `(tactic| walk_at "call builtin:sorted") => `(tactic| refine Mine.stop_ ?_)
local macro_rules | `(tactic| walk_at "call builtin:min") => `(tactic| (refine min_two_N (by assumption) (by assumption) (by assumption) ?_; intro h' tk' F' N'))
local macro_rules | `(tactic| walk_at "compareOp IsNot") => `(tactic| (refine Mine.isNot_none (by assumption) ?_))
local macro_rules | `(tactic| walk_at "exec For Tuple Name") => `(tactic| refine Mine.stop_ ?_)

local macro_rules | `(tactic| walk_at "eval Call Attribute") => `(tactic| ((with_reducible show wpAny _ _ (eval (Expr.Call (Expr.Attribute _ _ _) [] [] _) _) _ _ _); refine Mine.stop_ ?_))




set_option maxHeartbeats 4000000 in
theorem law_rest {A : Around} {s : Shared} {L : Addr} {h g hq : Heap} {tk : Nat} {m : Str → Option Value} {rest : List (Addr × Obj)} {r r8 : Value} {x : J 3} {most : Int} {tm tw : Tok} (hA : Am 60 A) (hF : Frs A [] s.heap) (B : Bas [] s.heap g) (Gg : Gd w p loose mean mg mb g) (F : Fr g L h m) (N : News g L h ((44, tabObj #[]) :: rest)) (h44r : ∀ q ∈ rest, q.1 ≠ 44)
    (k1 : m (Str.ofString "tree") = some r) (k2 : m (Str.ofString "again") = some r8) (k3 : m (Str.ofString "most") = some (.int most tm)) (k4 : m (Str.ofString "weight") = some (.int (wt 3 x) tw))
    (Gq : Gd w p loose mean mg mb hq) (Cq : Mine.Done (CodeHd hq 48 44)) (hsy : ∃ m, hq.Ns sysModules m) (hq44 : hq.get? 44 = none) (hqL : hq.get? L = none) (hqg : ∀ b, b ∉ rest.map (·.1) → ∀ o, hq.get? b = some o → g.get? b = some o) (hqr : ∀ q ∈ rest, ∀ o, hq.get? q.1 = some o → o = q.2)
    (hx : Is w 3 hq r x) (hx8 : Is w 3 hq r8 x) (hlow : lowJ 3 x) (hm0 : 0 ≤ most) :
    wpH (model PySem.Challenge.rw_ez0045_01.row.prog w) (A.deeper (envX (Str.ofString "law") (lawScope w) L 96 (.ref 95) [])) (execs ((lawBody w).drop 6) (envX (Str.ofString "law") (lawScope w) L 96 (.ref 95) [])) (fun fl s' => LawEnd s (match fl with | .ret v => v | _ => .none) s') (fun _ _ => False) { s with heap := h, toks := tk } := by
  have hsc : lawScope w = lawScope w := rfl
  conv at hsc => rhs; whnf
  rw [hsc]
  clear hsc
  conv => arg 3; arg 1; whnf
  obtain ⟨X, T⟩ := Gg
  have hh : A.handled = none := hA.hd
  have hqk : ∀ {h' : Heap} {m : Str → Option Value} {news : List (Addr × Obj)}, Fr g L h' m → News g L h' news → (∀ q ∈ rest, q ∈ news) → ∀ b o, hq.get? b = some o → h'.get? b = some o := fun F N hs b o e => by
    by_cases hb : b ∈ rest.map (·.1)
    · obtain ⟨q, hm, rfl⟩ := List.mem_map.mp hb
      rw [hqr q hm o e]
      exact (N _ (hs _ hm)).1
    · exact F.keep _ _ (hqg b hb o e)
  revert X; k_fill; intro X
  w_on
  replace F := know4 k1 k2 k3 k4 F
  refine wpH_execs_cons ?_
  refine wpH_If ?_
  refine hideQ fun K hK => ?_
  k_steps
  refine Mine.go_ ?_
  rename Fr _ _ _ _ => F11
  rename News _ _ _ _ => N11
  have hk11 := hqk F11 N11 (fun q hq => .tail _ hq)
  refine wpAny_mono (calc_w ((hA.deeper _).less (by omega)) (Gq.keeps hk11) (mono_is w 3 _ _ _ _ hk11 hx)) (fun r' s' hc => ?_) fun _ _ e => e
  unfold Mine.Done at hc
  obtain ⟨h12, tk12, t12, tk12', c12, rfl, k12, rfl, htup12⟩ := hc
  have F12 := F11.keeps k12
  have N12 := N11.grown k12
  clear F11 N11 hk11 k12
  k_steps
  · rename _ ≠ _ => hne
    exact absurd rfl hne
  refine Mine.go_ ?_
  rename Fr _ _ _ _ => F13
  rename News _ _ _ _ => N13
  have hk13 := hqk F13 N13 (fun q hq => .tail _ (.tail _ hq))
  refine wpAny_mono (calc_w (n := 4) (x := (show J 4 from Cont.list [x])) ((hA.deeper _).less (by omega)) (Gq.keeps hk13) ⟨Nat.le_of_ble_eq_true rfl, _, [r], rfl, ⟨_, (N13 _ (.head _)).1, rfl, 0, rfl⟩, .cons (mono_is w 3 _ _ _ _ hk13 hx) .nil⟩) (fun r' s' hc => ?_) fun _ _ e => e
  unfold Mine.Done at hc
  rw [wt_row] at hc
  obtain ⟨h14, tk14, t14, tk14', c14, rfl, k14, rfl, htup14⟩ := hc
  have F14 := F13.keeps k14
  have N14 : News g L h14 ((44, tabObj #[]) :: rest) := fun q hq => (N13.grown k14) q (.tail _ hq)
  clear F13 N13 hk13 k14 htup12
  k_steps
  · rename _ ≠ _ => hne
    exact absurd rfl hne
  refine Mine.go_ ?_
  rename Fr _ _ _ _ => F15
  rename News _ _ _ _ => N15
  refine Dict_made_str rfl F15 rfl rfl (List.cons_ne_nil _ _) (by decide) fun FD => hideQ fun K2 hK2 => ?_
  k_steps
  refine Mine.go_ (hK2 _ _ ?_)
  clear hK2 K2 FD htup14
  refine made_str F15 N15 rfl (by show List.Nodup [Str.ofString "key"]; exact List.nodup_cons.mpr ⟨List.not_mem_nil, List.nodup_nil⟩) fun h16 o16 F16 N16 hd16 => ?_
  have hs16 := F15.notModules (modules_low T.nolimit)
  clear F15 N15
  try dsimp only
  k_steps
  refine Mine.go_ ?_
  have hk16 := hqk F16 N16 (fun q hq => .tail _ (.tail _ hq))
  refine wpAny_mono (calc_w (n := 4) (x := (show J 4 from Cont.dict [(Str.ofString "key", x)])) ((hA.deeper _).less (by omega)) (Gq.keeps hk16) ⟨Nat.le_of_ble_eq_true rfl, fun q hq => ?_, _, [(Str.ofString "key", r)], rfl, hs16, Heap.dictOf_iff.mpr ⟨o16, (N16 _ (.head _)).1, hd16⟩, .cons ⟨rfl, mono_is w 3 _ _ _ _ hk16 hx⟩ .nil⟩) (fun r' s' hc => ?_) fun _ _ e => e
  · rw [List.mem_singleton.mp hq]
    show (Str.ofString "key").cps.size ≤ 6
    decide
  unfold Mine.Done at hc
  rw [wt_tab] at hc
  obtain ⟨h17, tk17, t17, tk17', c17, rfl, k17, rfl, htup17⟩ := hc
  have F17 := F16.keeps k17
  have N17 : News g L h17 ((44, tabObj #[]) :: rest) := fun q hq => (N16.grown k17) q (.tail _ hq)
  clear F16 N16 hk16 k17 hs16 hd16
  k_steps
  · rename _ ≠ _ => hne
    exact absurd rfl hne
  refine Mine.go_ (hK _ _ (Mine.go_ ?_))
  clear hK K
  try dsimp only
  rw [if_neg (by decide)]
  refine wpH_of ?_
  refine wpAny_execs_nil ?_
  refine Mine.go_ ?_
  rename Fr _ _ _ _ => F18
  exact law_told hA hF B (Gd.mk X T) F18 N17 h44r rfl rfl rfl rfl Gq Cq hsy hq44 hqL hqg hqr hx hx8 hlow hm0
end Mine

end PartMLaw2

section PartMLaw1
open PySem PySem.W PyProof.Rows PySem.Calls
local macro_rules | `(tactic| walk_at "eval ListComp") => `(tactic| refine Mine.stop_ ?_)
local macro_rules | `(tactic| walk_at "call builtin:len") => `(tactic| ((with_reducible show wpAny _ _ (call (Value.builtin "len") [Value.str _ _]) _ _ _); refine len_str (by assumption) ?_))
local macro_rules | `(tactic| walk_at "subscriptTail") => `(tactic| ((with_reducible show wpAny _ _ (subscriptTail _ _ (Value.ref _) (Value.str _ _)) _ _ _); refine Mine.item_dict (by assumption) (by assumption) ?_ (by with_unfolding_all rfl) (by intro _; with_unfolding_all rfl)))
local macro_rules | `(tactic| walk_at "call ref") => `(tactic| refine Mine.stop_ ?_)
local macro_rules | `(tactic| walk_at "eval Name") => `(tactic| ((with_reducible show wpAny _ _ (eval (Expr.Name _ _) (compEnvC _ _ _ _)) _ _ _); first
  | (refine Mine.cname_L (by assumption) (by assumption) ?_ (by rfl) (by rfl) (by decide))
  | (refine Mine.cname_C (by rfl) (by assumption) ?_ (by rfl) (by rfl) (by decide))
  | (refine Mine.cname_K (by assumption) (by rfl) ?_ (by rfl) (by rfl) (by rfl) (by decide))
  | (refine Mine.cname_B (by assumption) (by rfl) (by boot_by_name) (by decide) ?_ (by rfl) (by rfl) (by rfl) (by rfl) (by decide))))
namespace Mine
variable {w : World} {p : Program} {loose : List Str} {mean : ExcName → Option Value} {mg mb : Str → Option Value}

local macro_rules | `(tactic| walk_at "assign Tuple") => `(tactic| ((with_reducible show wpAny _ _ (assign (Expr.Tuple _ _ _) _ (Value.ref _)) _ _ _); refine unpackN_ (by assumption) (by assumption) (by assumption) (by assumption) (by rfl) (by rfl) ?_; intro h' F' N'))
local macro_rules | `(tactic| walk_at "call type:float") => `(tactic| refine Mine.stop_ ?_)
local macro_rules | `(tactic| walk_at "eval Lambda") => `(tactic| refine Mine.stop_ ?_)
local macro_rules | `(tactic| walk_at "call builtin:sorted") => `(tactic| refine Mine.stop_ ?_)
local macro_rules | `(tactic| walk_at "call builtin:min") => `(tactic| (refine min_two_N (by assumption) (by assumption) (by assumption) ?_; intro h' tk' F' N'))
local macro_rules | `(tactic| walk_at "compareOp IsNot") => `(tactic| (refine Mine.isNot_none (by assumption) ?_))
local macro_rules | `(tactic| walk_at "exec For Tuple Name") => `(tactic| refine Mine.stop_ ?_)

local macro_rules | `(tactic| walk_at "eval Call Attribute") => `(tactic| ((with_reducible show wpAny _ _ (eval (Expr.Call (Expr.Attribute _ _ _) [] [] _) _) _ _ _); refine Mine.stop_ ?_))



set_option maxHeartbeats 4000000 in
theorem law_call (A : Around) (s : Shared) (sc : Addr) (vs : List Value) (ns : List Int) (h₀ : Heap) (E : Value → Shared → Prop) (hA : Am 60 A) (hF : Frs A [] s.heap) (G : Gd w p loose mean mg mb h₀) (C : CodeHd h₀ 48 44) (hsy : ∃ m, h₀.Ns sysModules m)
    (hk0 : ∀ b o, h₀.get? b = some o → s.heap.get? b = some o) (hn0 : h₀.get? 44 = none) (h44 : s.heap.get? 44 = some (tabObj #[])) (hsc : h₀.IsList sc (List.toArray vs)) (hI : IntsAre vs ns) (hl63 : ns.length ≤ 63) :
    wpH (model PySem.Challenge.rw_ez0045_01.row.prog w) A (call (.ref 96) [.ref sc]) (fun r s' => LawEnd s r s') E s := by
  obtain ⟨Xs, Ts⟩ := G.keeps hk0
  have B := bas_of [] List.not_mem_nil s.heap
  have hgs : ∀ b o, (hideAll s.heap [44]).get? b = some o → s.heap.get? b = some o := fun b o e => of_hideAll _ e
  generalize hideAll s.heap [44] = g at B hgs
  have hkg := B.sub hk0 hn0 (fun b hb => (List.not_mem_nil hb).elim)
  obtain ⟨X, T⟩ := G.keeps hkg
  revert Xs X; k_fill; intro Xs X
  refine callFH (binds := [(Str.ofString "script", .ref sc)]) (fun y => if y = Str.ofString "script" then some (.ref sc) else none) hA.room (Xs 96 _ rfl) rfl Ts.nolimit (codeRec_of Xs (by rfl)) (BindsTo.of_eq rfl) (by rfl) rfl rfl rfl
    (fun _ => rfl) (fun _ => rfl) fun L h₁ tk F0 N0 => ?_
  have F := B.fr' hgs F0
  have N := B.news h44 F0
  have hL0 : ∀ b ∈ [L], h₀.get? b = none := fun b hb => (List.mem_singleton.mp hb) ▸ frame_new hk0 F0
  have hL4 : 44 ∉ [L] := fun hb => (N _ (.head _)).2.1 (List.mem_singleton.mp hb)
  clear Xs Ts N0
  w_on
  have hh : A.handled = none := hA.hd
  have hsl : Heap.IsList h₁ sc (List.toArray vs) := isList_keeps hsc fun b o e => F.keep _ _ (hkg _ _ e)
  have hvl : vs.length = ns.length := IntsAre.length hI
  have hlen : (List.toArray vs).size ≤ sizeLine := by rw [List.size_toArray, sizeLine_eq]; omega
  refine wpH_execs_consA ?_
  refine hideQ fun K hK => ?_
  k_steps
  refine Mine.go_ (hK _ _ (Mine.go_ ?_))
  clear hK K
  try dsimp only
  refine wpH_execs_consA ?_
  refine hideQ fun K hK => ?_
  k_steps
  rename_i D2 ws2 hw hI2 hC2 hL2 lx st hx l1 h5 F2 N2
  refine Mine.go_ ?_
  obtain ⟨t0, N2'⟩ : ∃ t0, News g L h5 [(st, W.listOf #[.ref D2, .int 0 t0] 0), (D2, W.listOf ws2.toArray 0), (44, tabObj #[])] := ⟨_, N2⟩
  clear N2
  have hl60 : (List.take 60 ns).length ≤ 63 := by rw [List.length_take]; omega
  generalize List.take 60 ns = ns2 at hI2 hC2 hL2 hl60
  clear hC2 hL2 lx
  have hgst : g.get? st = none := (N2' _ (.head _)).2.2
  have hgD : g.get? D2 = none := (N2' _ (.tail _ (.head _))).2.2
  have hstD : st ≠ D2 := Nat.ne_of_gt l1.1
  have hst44 : st ≠ 44 := Nat.ne_of_gt l1.2
  obtain ⟨hp, p1, p2, p3⟩ := pick_heap (h₀ := h₀) (own := [(D2, W.listOf ws2.toArray 0)]) (fun b o e => F2.keep _ _ (hkg b o e)) (fun q hq => by
    rw [List.mem_singleton.mp hq]; exact (N2' _ (.tail _ (.head _))).1)
  have hpn : ∀ b, h₀.get? b = none → D2 ≠ b → hp.get? b = none := fun b h1 h2 => by
    cases e : hp.get? b with
    | none => rfl
    | some o => rcases (p3 b o e).2 with e' | e'
                · rw [h1] at e'; cases e'
                · exact absurd (congrArg Prod.fst (List.mem_singleton.mp e')).symm h2
  have h₀n : ∀ b, g.get? b = none → h₀.get? b = none := fun b e => by
    cases q : h₀.get? b with
    | none => rfl
    | some o => rw [hkg _ _ q] at e; cases e
  have hpst : hp.get? st = none := hpn st (h₀n _ hgst) hstD.symm
  have hp44 : hp.get? 44 = none := hpn 44 hn0 (Nat.ne_of_gt l1.2 |> fun _ => (by
    rintro rfl
    have a1 := (N2' _ (.tail _ (.head _))).1
    rw [(N2' _ (.tail _ (.tail _ (.head _)))).1] at a1
    cases a1))
  have Gp := G.keeps p1
  have hscp : hp.IsList D2 ws2.toArray := ⟨_, p2 _ (.head _), rfl, 0, rfl⟩
  refine wpAny_mono (next_call (h₀ := hp) (a := st) (sc := D2) (i := 0) (lim := 30) ((hA.deeper _).less (by omega)) Gp (fun b o e => (p3 b o e).1) hpst (N2' _ (.head _)).1 hscp hI2 hl60 (by decide)) (fun r s3 h3 => ?_) fun _ _ e => e
  unfold Mine.Done at h3
  obtain ⟨h6, tk6, t6, tr6, rfl, rfl, h6a, h6k⟩ := h3
  have hr3 : ∀ q ∈ [(D2, W.listOf ws2.toArray 0), (44, tabObj #[])], q.1 ≠ st := fun q hq => by
    simp only [List.mem_cons, List.not_mem_nil, or_false] at hq
    rcases hq with rfl | rfl
    · exact hstD.symm
    · exact hst44.symm
  obtain ⟨F3, N3⟩ := upd_news F2 N2' hr3 h6a h6k
  have hm0 := nextV_range (ns := ns2) (i := 0) (lim := 30) (by decide)
  generalize nextV ns2 0 30 = most at hm0
  clear F2 N2' h6a
  k_steps
  refine Mine.go_ (hK _ _ (Mine.go_ ?_))
  clear hK K
  try dsimp only
  refine wpH_execs_consA ?_
  refine hideQ fun K hK => ?_
  k_steps
  refine Mine.go_ (hK _ _ (Mine.go_ ?_))
  clear hK K
  try dsimp only
  refine wpH_execs_consA ?_
  refine hideQ fun K hK => ?_
  k_steps
  refine Mine.go_ ?_

  rename Fr _ _ _ _ => F4
  rename News _ _ _ _ => N4
  have hpk : ∀ {h' : Heap} {m : Str → Option Value}, Fr g L h' m → h'.get? D2 = some (W.listOf ws2.toArray 0) → ∀ b o, hp.get? b = some o → h'.get? b = some o := fun F e b o hb => by
    rcases (p3 b o hb).2 with e' | e'
    · exact F.keep _ _ (hkg _ _ e')
    · cases List.mem_singleton.mp e'; exact e
  refine wpAny_mono (tree_all 2 _ _ st (0 + 1) _ _ 0 hp _ ((hA.deeper _).less (by omega)) Gp (hpk F4 (N4 _ (.tail _ (.head _))).1) hpst (N4 _ (.head _)).1 hscp hI2 hl60) (fun r s7 h7 => ?_) fun _ _ e => e
  unfold Mine.Done at h7
  obtain ⟨own7, h7, tk7, t7, rfl, h7a, h7k, h7n, hvia⟩ := h7
  obtain ⟨F5, N5, ha5, hb5⟩ := upd_own F4 N4 hr3 h7a h7k h7n
  clear F4 N4 h7a h7n
  generalize (genTree ns2 2 (0 + 1)).2 = idx at N5
  k_steps
  refine Mine.go_ (hK _ _ (Mine.go_ ?_))
  clear hK K
  try dsimp only
  refine wpH_execs_consA ?_
  refine hideQ fun K hK => ?_
  k_steps
  refine Mine.go_ ?_

  rename Fr _ _ _ _ => F6
  rename News _ _ _ _ => N6
  rename _ < _ ∧ AllLt _ _ => l2
  have h2D : ∀ q ∈ own7 ++ [(D2, W.listOf ws2.toArray 0), (44, tabObj #[])], @LT.lt Nat _ q.1 _ := allLt_get l2.2
  have hr6 : ∀ q ∈ (st, W.listOf #[Value.ref D2, Value.int (↑idx) t7] 0) :: (own7 ++ [(D2, W.listOf ws2.toArray 0), (44, tabObj #[])]), q.1 ≠ _ := fun q hq => (List.mem_cons.mp hq).elim (fun e => e ▸ Nat.ne_of_lt l2.1) fun hq => Nat.ne_of_lt (h2D q hq)
  refine wpAny_mono (tree_all 2 _ _ _ (0 + 1) _ _ 0 hp _ ((hA.deeper _).less (by omega)) Gp (hpk F6 (N6 _ (.tail _ (.tail _ (List.mem_append_right _ (.head _))))).1) (hpn _ (h₀n _ (N6 _ (.head _)).2.2) (Nat.ne_of_lt (h2D _ (List.mem_append_right _ (.head _))))) (N6 _ (.head _)).1 hscp hI2 hl60) (fun r8 s8 h8 => ?_) fun _ _ e => e
  unfold Mine.Done at h8
  obtain ⟨own8, h8, tk8, t8, rfl, h8a, h8k, h8n, hvia8⟩ := h8
  obtain ⟨F7, N7, ha8, hb8⟩ := upd_own F6 N6 hr6 h8a h8k h8n
  clear F6 N6 h8a h8n hr6 h2D l2
  have hsg : sgnJ 3 (genTree ns2 2 (0 + 1)).1 := genTree_sgn ns2 2 (0 + 1)
  generalize (genTree ns2 2 (0 + 1)).2 = idx8 at N7
  generalize (genTree ns2 2 (0 + 1)).1 = x at hvia hvia8 hsg
  obtain ⟨rest, hrest, ho7, ho8, hoD, h44r⟩ : ∃ rest, News g L h8 ((44, tabObj #[]) :: rest) ∧ (∀ q ∈ own7, q ∈ rest) ∧ (∀ q ∈ own8, q ∈ rest) ∧ (D2, W.listOf ws2.toArray 0) ∈ rest ∧ ∀ q ∈ rest, q.1 ≠ 44 := by
    refine ⟨own7 ++ (own8 ++ [(D2, W.listOf ws2.toArray 0)]), fun q hq => ?_, fun q hq => List.mem_append_left _ hq, fun q hq => List.mem_append_right _ (List.mem_append_left _ hq), List.mem_append_right _ (List.mem_append_right _ (.head _)), fun q hq => ?_⟩
    · refine N7 q ?_
      simp only [List.mem_cons, List.mem_append, List.not_mem_nil, or_false] at hq ⊢
      rcases hq with hq | hq | hq | hq
      · exact .inr (.inr (.inr (.inr (.inr hq))))
      · exact .inr (.inr (.inr (.inl hq)))
      · exact .inr (.inl hq)
      · exact .inr (.inr (.inr (.inr (.inl hq))))
    · rcases List.mem_append.mp hq with hq | hq
      · exact hb5 q hq (44, tabObj #[]) (.tail _ (.head _))
      · rcases List.mem_append.mp hq with hq | hq
        · exact hb8 q hq (44, tabObj #[]) (.tail _ (List.mem_append_right _ (.tail _ (.head _))))
        · rw [List.mem_singleton.mp hq]
          intro e
          have a1 := (N7 (D2, W.listOf ws2.toArray 0) (by simp)).1
          rw [show D2 = 44 from e, (N7 (44, tabObj #[]) (by simp)).1] at a1
          cases a1
  clear N7
  k_steps
  refine Mine.go_ (hK _ _ (Mine.go_ ?_))
  clear hK K
  try dsimp only
  rename Fr _ _ _ _ => F8
  rename News _ _ _ _ => N8
  obtain ⟨hq, q1, q2, q3⟩ := pick_heap (h₀ := hp) (own := own7 ++ own8) (hpk F8 (N8 _ (.tail _ hoD)).1) (fun q hq => (N8 q (.tail _ ((List.mem_append.mp hq).elim (ho7 q) (ho8 q)))).1)
  have hqk : ∀ {h' : Heap} {m : Str → Option Value} {news : List (Addr × Obj)}, Fr g L h' m → News g L h' news → (∀ q ∈ rest, q ∈ news) → ∀ b o, hq.get? b = some o → h'.get? b = some o := fun F N hs b o e => by
    rcases (q3 b o e).2 with e' | e'
    · exact hpk F (N _ (hs _ hoD)).1 _ _ e'
    · exact (N _ (hs _ ((List.mem_append.mp e').elim (ho7 _) (ho8 _)))).1
  have hx : Is w 3 hq r x := hvia hq q1 fun q hq' => q2 q (List.mem_append_left _ hq')
  have hx8 : Is w 3 hq r8 x := hvia8 hq q1 fun q hq' => q2 q (List.mem_append_right _ hq')
  have hq44 : hq.get? 44 = none := by
    cases e : hq.get? 44 with
    | none => rfl
    | some o =>
      rcases (q3 _ o e).2 with e' | e'
      · rw [hp44] at e'; cases e'
      · exact absurd rfl (h44r _ ((List.mem_append.mp e').elim (ho7 _) (ho8 _)))
  have hqL : hq.get? L = none := by
    cases e : hq.get? L with
    | none => rfl
    | some o =>
      rcases (q3 _ o e).2 with e' | e'
      · rw [hpn L (hL0 L (.head _)) (N8 _ (.tail _ hoD)).2.1] at e'; cases e'
      · exact absurd rfl (N8 _ (.tail _ ((List.mem_append.mp e').elim (ho7 _) (ho8 _)))).2.1
  have Gq := Gp.keeps q1
  have Cq := (C.keeps p1).keeps q1
  have hlow := low_of 3 hq r x hx hsg
  have hqg : ∀ b, b ∉ rest.map (·.1) → ∀ o, hq.get? b = some o → g.get? b = some o := fun b hb o e => by
    rcases (q3 b o e).2 with e' | e'
    · rcases (p3 b o e').2 with e' | e'
      · exact hkg _ _ e'
      · cases List.mem_singleton.mp e'; exact absurd (List.mem_map_of_mem (f := (·.1)) hoD) hb
    · exact absurd (List.mem_map_of_mem (f := (·.1)) ((List.mem_append.mp e').elim (ho7 _) (ho8 _))) hb
  have hqr : ∀ q ∈ rest, ∀ o, hq.get? q.1 = some o → o = q.2 := fun q hm o e => by
    have h1 := (q3 _ _ e).1
    have h2 := (N8 q (.tail _ hm)).1
    exact Option.some.inj (h1.symm.trans h2)
  clear hvia hvia8 hsg q2 ha8 hb8 ha5 hb5 hpst hr3 h6k h7k h8k hI2 hscp hl60 p2
  refine wpH_execs_consA ?_
  refine hideQ fun K hK => ?_
  k_steps
  refine Mine.go_ ?_
  rename Fr _ _ _ _ => F9
  rename News _ _ _ _ => N9
  have hk9 := hqk F9 N9 (fun q hq => .tail _ hq)
  refine wpAny_mono (weight_all 3 _ _ r x _ ((hA.deeper _).less (by omega)) (Gq.keeps hk9) (mono_is w 3 _ _ _ _ hk9 hx)) (fun r' s' hw => ?_) fun _ _ e => e
  obtain ⟨⟨h10, tk10, rfl, k10⟩, t10, rfl⟩ := hw
  have F10 := F9.keeps k10
  have N10 := N9.grown k10
  clear F9 N9 hk9 k10
  k_steps
  refine Mine.go_ (hK _ _ (Mine.go_ ?_))
  clear hK K
  try dsimp only
  rename Fr _ _ _ _ => F11
  rename News _ _ _ _ => N11
  exact law_rest hA hF B (Gd.mk X T) F11 N11 h44r rfl rfl rfl rfl Gq Cq ((hsy.imp fun _ hm => hm.keeps p1).imp fun _ hm => hm.keeps q1) hq44 hqL hqg hqr hx hx8 hlow hm0.1
end Mine

end PartMLaw1

section PartMFin
open PySem PySem.W PyProof.Rows PySem.Calls
namespace Mine
set_option maxHeartbeats 8000000 in
theorem fin : PySem.Challenge.rw_ez0045_01.Holds := by
  refine Mine.hd ?_
  intro w s₀ s₁ mg mb G Y fa o pm cd doc dV kV ho hd hcd hD hmg hg args vals as hpre hlay hrd hwl hlo
  have KX := km_in_of Y
  have hT8 := km_tabs_of Y
  have X := (Ground.X G).1
  have V := (Ground.X G).2
  refine Ground.open G ?_
  intro T B D TE TW
  clear D
  have C48 : CodeHd s₁.heap 48 44 := codeHd_of_K (c := 48) (P := 44) KX (by kernel_rfl)
  have h44 : s₁.heap.get? 44 = some (tabObj #[]) := hT8 44 (.head _)
  have hT9 : TabsAt [(48, 44)] s₁.heap := List.forall_mem_cons.mpr ⟨⟨C48, h44⟩, fun _ h => nomatch h⟩
  wrow_args hpre hlay hrd hwl hlo
  rename_i ns hs hlay0 hL1 hr1 hl2 as4 as3 sc vs as0 hsc ra w1 r0 hI hr hc63 htt
  have e96 : mg (Str.ofString "law") = some (.ref 96) := mg_of KX T.g (by rfl)
  rw [hmg] at e96
  cases e96
  have hpost : Challenge.rw_ez0045_01.row.claim.post [ofPy (PyData.list (List.map PyData.int ns))] (WData.bool true) [ofPy (PyData.list (List.map PyData.int ns))] = true := by with_unfolding_all rfl
  refine ⟨⟨fun _ => rfl, hpost, fun _ => List.nodup_nil⟩, ?_⟩
  have hl63 : ns.length ≤ 63 := by omega
  have T' := ghost_top hT9 T
  have hsy : ∃ m, (ghostOf s₁.heap [(48, 44)]).Ns sysModules m := by
    obtain ⟨mm, ⟨o, es, ep, e1, r⟩, _⟩ := (T.seer (by decide +kernel)).mods
    exact ⟨mm, o, es, ep, ghost_ne e1 (by decide), r⟩
  refine wpH_mono (law_call callerA s₁ sc vs ns (ghostOf s₁.heap [(48, 44)]) (fun _ _ => False) ⟨rfl, by decide, by decide, rfl⟩ ⟨⟨[], rfl, rfl, fun e he => (List.not_mem_nil he).elim⟩, fun b hb => (List.not_mem_nil hb).elim⟩ ⟨ghost_K hT9 KX (by kernel_rfl), T'⟩ (ghost_code hT9).1 hsy (fun b o e => of_hideAll _ e) (hideAll_none _ (.head _)) h44 (ghost_list hT9 hsc) hI hl63) (fun r s' hr => ?_) fun _ _ e => e.elim
  obtain ⟨ps, h', tk, rfl, rfl, hup, hP⟩ := hr
  have hct := (C48.tab h44).isCodeTable
  refine ⟨.inl ⟨_, .bool true, [], rfl, fun _ => rfl, .bool true, hpost, fun _ => ⟨List.nodup_nil, nofun⟩⟩, ⟨fun b o e => ?_, fun b o e => ?_⟩, rfl, .of_eq hg⟩
  · by_cases hb : b = 44
    · subst hb
      rw [h44] at e; cases e
      exact .inr (.inl ⟨hct, rfl, #[], ps, rfl, by rw [Array.empty_append]; exact hP⟩)
    · exact .inl (hup b o hb e)
  · by_cases hb : b = 44
    · subst hb; exact ⟨_, hP⟩
    · exact ⟨o, hup b o hb e⟩
end Mine

end PartMFin

theorem PySem.Challenge.cw_ez0045_01_holds : PySem.Challenge.rw_ez0045_01.Holds :=
  Mine.fin
