import PyProof.Rows.All
import Wide.All
import OpenK.AllK
import Wide.FinOn
import OpenK.KInvM
import PyProof.Rows.SeqCalls3
import PySem.Challenge.RW_ph0049_01
set_option Elab.async false
set_option maxRecDepth 100000
set_option maxHeartbeats 8000000
section
open PySem PySem.W PyProof.Rows PySem.Calls
open Sem (wp)
namespace Mine
/-! A logic of contexts in which no decoder stands on the stack. -/
def okCode : Code → Bool
  | .builtin id _ => !(Builtin.Bytes.decodersThatHold.contains id)
  | _ => true
def Clean (l : List (Code × Pos)) : Prop := ∀ x ∈ l, okCode x.1 = true
def wpC {α : Type} (M : Model) (A : Around) (t : Sem α) (Q : α → Shared → Prop) (E : Value → Shared → Prop) (s : Shared) : Prop :=
  ∀ Γ p, Γ.In A → okCode Γ.code = true → Clean Γ.below → wp M Γ t (fun a _ s' => Q a s') (fun e _ s' => E e s') p s
def codeC (M : Model) (A : Around) (c : Code) (R : Result → Shared → Prop) (s : Shared) : Prop :=
  ∀ Γ p, Γ.code = c → Γ.Below A → Clean Γ.below → wpCode M Γ R p s

section
variable {α β : Type} {M : Model} {A : Around} {E : Value → Shared → Prop} {s : Shared}
theorem wpC_of {t : Sem α} {Q : α → Shared → Prop} (h : wpAny M A t Q E s) : wpC M A t Q E s := fun Γ p hΓ _ _ => h Γ p hΓ
theorem codeC_of {c : Code} {R : Result → Shared → Prop} (h : codeAny M A c R s) : codeC M A c R s := fun Γ p hc hΓ _ => h Γ p hc hΓ
theorem wpC_pure {a : α} {Q : α → Shared → Prop} (h : Q a s) : wpC M A (pure a) Q E s := wpC_of (wpAny_pure h)
theorem wpC_mono {t : Sem α} {Q Q' : α → Shared → Prop} {E' : Value → Shared → Prop} (h : wpC M A t Q E s)
    (hQ : ∀ a s, Q a s → Q' a s) (hE : ∀ e s, E e s → E' e s) : wpC M A t Q' E' s :=
  fun Γ p hΓ h1 h2 => Sem.wp_mono M Γ t (fun a _ s => hQ a s) (fun e _ s => hE e s) p s (h Γ p hΓ h1 h2)
theorem wpC_bind {m : Sem α} {f : α → Sem β} {Q : β → Shared → Prop} (h : wpC M A m (fun a s' => wpC M A (f a) Q E s') E s) :
    wpC M A (m >>= f) Q E s := fun Γ p hΓ h1 h2 => by
  rw [Sem.wp_bind']
  exact Sem.wp_mono M Γ m (fun a p' s' h' => h' Γ p' hΓ h1 h2) (fun _ _ _ h' => h') p s (h Γ p hΓ h1 h2)
/-- a step that the common logic has, then the rest in this one -/
theorem wpC_step {m : Sem α} {f : α → Sem β} {Q : β → Shared → Prop} (h : wpAny M A m (fun a s' => wpC M A (f a) Q E s') E s) :
    wpC M A (m >>= f) Q E s := wpC_bind (wpC_of h)
theorem wpC_onRaise {m : Sem α} {k : Value → Sem Unit} {Q : α → Shared → Prop}
    (h : wpC M A m Q (fun e s' => wpAny M A (k e) (fun _ s'' => E e s'') E s') s) : wpC M A (m.onRaise k) Q E s := fun Γ p hΓ h1 h2 => by
  rw [Sem.wp_onRaise]
  exact Sem.wp_mono M Γ m (fun _ _ _ h' => h') (fun e p' s' h' => h' Γ p' hΓ) p s (h Γ p hΓ h1 h2)
theorem wpC_attempt {m : Sem α} {Q : Except Value α → Shared → Prop} (h : wpC M A m (fun a => Q (.ok a)) (fun e => Q (.error e)) s) :
    wpC M A m.attempt Q E s := fun Γ p hΓ h1 h2 => by rw [Sem.wp_attempt]; exact h Γ p hΓ h1 h2
theorem wpC_holding {vs : List Value} {m : Sem α} {Q : α → Shared → Prop} (h : wpC M A m Q E s) : wpC M A (holding vs m) Q E s :=
  fun Γ p hΓ h1 h2 => by rw [Sem.wp_holding]; exact h Γ p hΓ h1 h2
theorem Clean.cons {Γ : PySem.Ctx} {p : Pos} (h1 : okCode Γ.code = true) (h2 : Clean Γ.below) : Clean ((Γ.code, p) :: Γ.below) := fun x hx => by
  rcases List.mem_cons.mp hx with rfl | hx
  · exact h1
  · exact h2 x hx
theorem codeC_mono {c : Code} {R R' : Result → Shared → Prop} (h : codeC M A c R s) (hR : ∀ r s, R r s → R' r s) : codeC M A c R' s :=
  fun Γ p hc hΓ h2 => wpCode_mono hR (h Γ p hc hΓ h2)
theorem wpC_run {c : Code} {h : Option Value} {Q : Flow → Shared → Prop}
    (hc : codeC M (A.mark h) c (fun r s' => match r with | .ok f => Q f s' | .error e => E e s') s) (hnb : h ≠ some byPass := by intro x; cases x) :
    wpC M A (run c h) Q E s :=
  fun Γ p hΓ h1 h2 => by rw [Sem.wp_run]; exact hc _ p rfl (hΓ.enter c h p hnb) (Clean.cons h1 h2)
theorem wpC_runValue {c : Code} {Q : Value → Shared → Prop}
    (hc : codeC M A c (fun r s' => match r with | .ok (.ret v) => Q v s' | .ok _ => False | .error e => E e s') s) :
    wpC M A (runValue c) Q E s := fun Γ p hΓ h1 h2 => by
  rw [Sem.wp_runValue]; exact hc _ p rfl (hΓ.enter c none p (by intro x; cases x)) (Clean.cons h1 h2)
theorem wpC_call {f : Value} {pos : List Value} {kw : List (Str × Value)} {Q : Value → Shared → Prop}
    (hc : codeC M A (.call f ⟨pos, kw⟩) (fun r s' => match r with | .ok (.ret v) => Q v s' | .ok _ => False | .error e => E e s') s) :
    wpC M A (call f pos kw) Q E s := wpC_runValue hc
theorem codeC_of_tree {c : Code} {R : Result → Shared → Prop} (hok : okCode c = true)
    (h : wpC M (A.under c) (M.den c) (fun fin s' => match fin with | .done f => R (.ok f) s' | .again c' => c'.quiet = true ∧ codeC M A c' R s')
      (fun e s' => R (.error e) s') s) : codeC M A c R s := fun Γ p hc hΓ h2 => by
  rw [wpCode_iff_wp, hc]
  refine Sem.wp_mono M Γ _ (fun fin p' s' h' => ?_) (fun _ _ _ h' => h') p s (h Γ p (hc ▸ hΓ.in) (hc ▸ hok) h2)
  cases fin with
  | done f => exact h'
  | again c' => exact ⟨h'.1, h'.2 (Γ.goto c') p' rfl (hΓ.goto c') h2⟩
theorem codeC_loop {c : Code} {R : Result → Shared → Prop} (hok : okCode c = true) (hq : c.quiet = true) (I : Nat → Shared → Prop)
    (turn : ∀ n s, I n s → wpC M (A.under c) (M.den c)
      (fun fin s' => match fin with | .done f => R (.ok f) s' | .again c' => c' = c ∧ ∃ m, m < n ∧ I m s') (fun e s' => R (.error e) s') s)
    (n : Nat) (h : I n s) : codeC M A c R s := by
  induction n using Nat.strongRecOn generalizing s with
  | ind n ih =>
    refine codeC_of_tree hok (wpC_mono (turn n s h) (fun fin s' hf => ?_) fun _ _ h' => h')
    cases fin with
    | done f => exact hf
    | again c' => obtain ⟨rfl, m, hm, hI⟩ := hf; exact ⟨hq, ih m hm hI⟩
/-- what the stack is asked, where every code of it is known to be no decoder and its guards are none -/
theorem wpC_stackAny_false {f : Code × Pos → Bool} {Q : Bool → Shared → Prop} (hg : A.guards = some [])
    (hf : ∀ c p, c.isGuard = false → okCode c = true → f (c, p) = false) (h : Q false s) : wpC M A (do return (← stack).any f) Q E s := fun Γ p hΓ h1 h2 => by
  show Q (((Γ.code, p) :: Γ.below).any f) s
  have hno : ∀ x ∈ (Γ.code, p) :: Γ.below, f x = false := fun x hx => by
    refine hf x.1 x.2 ?_ (Clean.cons h1 h2 x hx)
    cases hb : x.1.isGuard with
    | false => rfl
    | true =>
      have hm : x.1 ∈ guardsOf ((Γ.code, p) :: Γ.below) := List.mem_filter.mpr ⟨List.mem_map.mpr ⟨x, hx, rfl⟩, hb⟩
      rw [guardsOf_cons, hΓ.2.2.2.1 [] hg] at hm
      cases hm
  rw [List.any_eq_false.mpr (fun x hx => by rw [hno x hx]; exact Bool.false_ne_true)]
  exact h
end
end Mine
end

section
open PySem PySem.W PyProof.Rows PySem.Calls
open Sem (wp)
namespace Mine

/-- the real context of the call: the caller alone, nothing beneath it -/
theorem wp_of_C {M : Model} {t : Sem Fin} {R : Result → Shared → Prop} {s : Shared}
    (h : wpC M callerA t (fun fin s' => ∃ f, fin = .done f ∧ R (.ok f) s') (fun e s' => R (.error e) s') s) :
    wp M ⟨.builtin "claim.caller" {}, none, none, [], none⟩ t (Sem.finPost M ⟨.builtin "claim.caller" {}, none, none, [], none⟩ R) (fun e _ s' => R (.error e) s') default s := by
  refine Sem.wp_mono M _ t (fun fin p' s' h' => ?_) (fun _ _ _ h' => h') default s (h _ default caller_in (by decide +kernel) (fun x hx => nomatch hx))
  obtain ⟨f, rfl, hf⟩ := h'
  exact hf

abbrev WalkC (q : Program) (loose : List Str) (XP : (Str → Option Value) → Heap → Prop) (YP : World → Heap → Prop) (r : RowW) (d : DefRec) (kwd : List (Str × Expr)) : Prop :=
  ∀ (w : World) (s₀ s₁ : Shared) (mg mb : Str → Option Value), Ground q loose r.records XP w s₀ mg mb s₁.heap → YP w s₁.heap → ∀ (a : Addr) (o : Obj) (pm cd doc dV kV : Value), s₁.heap.get? a = some o →
    o.data = .func { docDef d.name d.params d.body d.scope pm cd doc with defaults := dV, kwdefaults := kV } → s₁.heap.CodeRec cd d.name → Dflts mg s₁.heap d.params kwd dV kV → mg d.name = some (.ref a) → s₁.gens = #[] →
    ∀ (args : List WData) (vals : List Value) (as : List Addr), r.claim.pre args = true → WData.layableAll args = true → ReadsAllW r.records (classAt s₀.heap) s₁.heap vals args as → WellAll w.params s₁.heap vals args → (∀ a ∈ as, (a == sysModules) = false) →
      wpC (model r.prog w) callerA (PySem.call (.ref a) vals) (fun v s' => GoodWG r.claim (classAt s₀.heap) (ExcName.means s₀.heap) args s₁ (.ok (.ret v)) s')
        (fun e s' => GoodWG r.claim (classAt s₀.heap) (ExcName.means s₀.heap) args s₁ (.error e) s') s₁

theorem callFromC {c : ClaimW} {tree : List Value → Sem Fin} {w : World} {s : Shared} {free : Addr → Prop} {gens : Prop} {kept : Heap → Prop} (hz : s.asleep) (hgens : s.gens = #[])
    (spec : ∀ args, c.pre args = true → WData.layableAll args = true → ∀ ord : List DictEntry → List DictEntry, (∀ l, (ord l).Perm l) →
      ∃ vs s₁, layAllW c.records (classAt s.heap) w.params ord args s = some (vs, s₁) ∧
        wpC (model c.prog w) callerA (tree vs) (fun fin s' => ∃ f, fin = .done f ∧ (c.Ends s args vs s₁ (.ok f) s' ∧ s'.os = s.os ∧ AllBare s'.gens ∧ kept s'.heap))
          (fun e s' => c.Ends s args vs s₁ (.error e) s' ∧ s'.os = s.os ∧ AllBare s'.gens ∧ kept s'.heap) s₁) :
    c.CallFrom (fun vs => ⟨tree vs, .builtin "claim.caller" {}, default, []⟩) w free gens kept s := by
  intro args hpre hlay ord hord
  obtain ⟨vs, s₁, hlaid, hC⟩ := spec args hpre hlay ord hord
  have hrest := layAllW_rest _ _ _ hlaid
  have hC' : wpC (model c.prog w) callerA (tree vs) (fun fin s' => ∃ f, fin = .done f ∧ ((c.Ends s args vs s₁ (.ok f) s' ∧ s'.os = s.os ∧ kept s'.heap) ∧ leftWithCleanup s'.gens = false))
      (fun e s' => (c.Ends s args vs s₁ (.error e) s' ∧ s'.os = s.os ∧ kept s'.heap) ∧ leftWithCleanup s'.gens = false) s₁ :=
    wpC_mono hC (fun fin s' ⟨f, e, a, b, g, k⟩ => ⟨f, e, ⟨a, b, k⟩, leftWithCleanup_false_of_bare g⟩) fun e s' ⟨a, b, g, k⟩ => ⟨⟨a, b, k⟩, leftWithCleanup_false_of_bare g⟩
  obtain ⟨n, r, s', s'', hsched, hrun, hfo, hend, hos, hkept⟩ := wp_halts_full (M := model c.prog w) (R := fun r s' => c.Ends s args vs s₁ r s' ∧ s'.os = s.os ∧ kept s'.heap)
    (Shared.asleep_of_life hrest.2.2.2 hz) (wp_of_C hC')
  obtain ⟨eh, _, _, eo, _⟩ := Shared.forget_eq hfo
  have hend := hend.congr eh
  have hlife : s''.heap.life = s.heap.life := (runN_life _ _ _ hrun).trans hrest.2.2.2
  refine ⟨vs, s₁, hlaid, n, _, s'', hsched, ?_, (fun _ i x hx => by rw [hgens] at hx; simp at hx), eh ▸ hkept, by rw [hlife], Shared.rest_eq (eo ▸ hos)⟩
  rcases hend with ⟨v, rfl, d1, d2, d3, d4, d5⟩ | ⟨e, ob, cls, rfl, d1, d2, d3, d4, d5⟩
  · exact .inl ⟨v, rfl, d1, d2, d3, fun b o y _ => d4 b o y, d5⟩
  · exact .inr ⟨e, ob, cls, rfl, d1, d2, d3, d4, fun b o y _ => d5 b o y⟩
end Mine
end

section
open PySem PySem.W PyProof.Rows PySem.Calls
open Sem (wp)
namespace Mine

theorem PySem.W.holds_open {r : OpenRow} {q : Program} {loose : List Str} {Xt : Shared → Bool} {XP : (Str → Option Value) → Heap → Prop} {α : Type} {Yf : Shared → α} {Ya : World → α} {YP : World → Heap → Prop} {d : DefRec} {kwd : List (Str × Expr)} {N : Nat}
    (left : LeftO r.prog q loose Xt Yf Ya N) (hY : ∀ w s, Yf s = Ya w → YP w s.heap) (hYk : ∀ w h h', YP w h → (∀ b o, h.get? b = some o → h'.get? b = some o) → YP w h')
    (hX : ∀ s, Xt s = true → XP (s.heap.nsMap mainGlobals) s.heap) (hXk : ∀ mg h h', XP mg h → (∀ b o, h.get? b = some o → h'.get? b = some o) → XP mg h')
    (hdef : defOf q r.name = some (d, kwd)) (hp : r.prog.theDef r.name = some (d.params, d.body, d.scope)) (hk : kwWritten? d.params.kwonlyargs d.params.kw_defaults = some kwd) (hRf : ∀ s, Xt s = true → RecFacts r.records s.heap) (hwr : (!r.writes || r.records.isEmpty) = true)
    (k1 : r.wellSaid = true) (ok : (chainsOk q && opensWell r.prog && (frees r.toRowW && r.within.isEmpty)) = true) (hb : r.prog.bare) (hw : r.toRowW.promised)
    (call : WalkC q loose XP YP r.toRowW d kwd) : r.Holds := by
  obtain ⟨ok1, ok2⟩ := Bool.and_eq_true_iff.mp ok
  obtain ⟨hch, o1⟩ := Bool.and_eq_true_iff.mp ok1
  obtain ⟨k5, k6⟩ := Bool.and_eq_true_iff.mp ok2
  obtain ⟨hsame, hu, ha, hap, hm⟩ := frees_parts k5
  have hwi : r.toRowW.claim.within = [] := List.isEmpty_iff.mp k6
  have B := fun w => left.behind (XP := fun mg h => XP mg h ∧ RecFacts r.records h) (fun s hs => ⟨hX s hs, hRf s hs⟩) hch w
  refine ⟨k1, hw, ⟨hb, o1, by show r.toRowW.makers.map _ = []; rw [hm]; rfl⟩, hw.witness, fun w => ⟨(B w).1, fun s' hs' => ?_⟩⟩
  obtain ⟨s₀, hf, hg0, s, hT, hz, hgens, hg, GX, y⟩ := (B w).2 s' hs'
  have G0 : Ground q loose [] XP w s (s.heap.nsMap mainGlobals) (s.heap.nsMap builtinsNs) s.heap := ⟨GX.T, GX.B, GX.D, GX.TE, GX.TD, GX.W, GX.X.1, GX.cls, GX.has, GX.apart, GX.once, GX.K⟩
  have RF := GX.X.2
  have hgens : s.gens = #[] := Array.eq_empty_of_size_eq_zero (beq_iff_eq.mp hgens)
  have G : Ground q loose r.toRowW.records XP w s _ _ s.heap := RF.ground G0
  refine ⟨s₀, hf, hg0, s, hT, fun n hn => ?_, RF.1, RF.2.1, ?_⟩
  · obtain rfl : n = r.name := by split at hn <;> simp_all
    exact pinned_of_view hg G0 hdef hp hk
  refine callFromC (c := r.toRowW.claim) (tree := fun vs => do match ← nsGet mainNs r.name with
      | some f => do ret (← PySem.call f vs)
      | none => unsupported "claim.caller:no-such-global") hz hgens fun args hpre hlay ord hord => ?_
  obtain ⟨⟨vs, s₁⟩, hlaid⟩ := Option.isSome_iff_exists.mp (layAllW_isSome (P := w.params) (ord := ord) G.has args r.toRowW.args s (pre_splitW hpre).1)
  have keeps := layAllW_keeps _ _ _ hlaid
  have hal := layAllW_rest _ _ _ hlaid
  obtain ⟨as, hrd, hin, hold⟩ := reads_layAllW hord _ _ _ hlaid hlay s₁.heap (fun _ _ e => e)
  have L : Laid r.toRowW.records w s s₁ args vs as := ⟨⟨ord, hord, hlaid⟩, hrd, hin, hold, keeps, hal.1.trans hgens, hal.2.2.1⟩
  have G₁ := G.keeps hXk keeps
  obtain ⟨a, o, pm, cd, doc, dV, kV, h1, h2, h3, h4, h5⟩ := G₁.fn hdef
  have h := call w s s₁ _ _ G₁ (hYk _ _ _ (hY w s y) keeps) a o pm cd doc dV kV h2 h3 h4 h5 (defOf_name hdef ▸ h1) L.gens args vs as hpre hlay L.reads L.well (L.low G.low)
  have hi := ident_freeW hu ha hap
  have good : ∀ {res : Result} {s' : Shared}, GoodWG r.toRowW.claim (classAt s.heap) (ExcName.means s.heap) args s₁ res s' → r.toRowW.claim.Ends s args vs s₁ res s' ∧ s'.os = s.os ∧ AllBare s'.gens ∧
      (r.writes = true → namesKept r.prog r.keeps s.heap s'.heap ∧ ∀ x ∈ r.toRowW.claim.records, ∀ a, classAt s.heap x.1 = some a → recordClass s'.heap a x.1 (x.2.map (·.1)) = true) := fun {res s'} g => by
    have z := g.laid (c := r.toRowW.claim) hsame hwi hi L
    exact ⟨z.1, z.2.1, z.2.2, fun q => ⟨namesKept_of hT hg r.keeps keeps g.2.1.old, noTable hwr q⟩⟩
  refine ⟨vs, s₁, hlaid, wpC_step (wpAny_nsGet G₁.T.g ?_)⟩
  rw [h1]
  exact wpC_bind (wpC_mono h (fun v s' g => wpC_pure ⟨_, rfl, good g⟩) fun e s' g => good g)

open_top hdC for PySem.Challenge.rw_ph0049_01
end Mine
end

section
open PySem PySem.W PyProof.Rows PySem.Calls
open Sem (wp)
namespace Mine
section
variable {M : Model} {A : Around} {E : Value → Shared → Prop} {s : Shared} {env : Env}
theorem wpC_execs_cons {st : Stmt} {rest : List Stmt} {Q : Flow → Shared → Prop}
    (h : wpC M A (exec st env) (fun f s' => match f with | .next => wpC M A (execs rest env) Q E s' | f => Q f s') E s) :
    wpC M A (execs (st :: rest) env) Q E s := by
  rw [execs_cons]
  refine wpC_bind (wpC_mono h (fun f s' h' => ?_) fun _ _ x => x)
  cases f <;> first | exact h' | exact wpC_pure h'
theorem wpC_execs_any {st : Stmt} {rest : List Stmt} {Q : Flow → Shared → Prop}
    (h : wpAny M A (exec st env) (fun f s' => match f with | .next => wpC M A (execs rest env) Q E s' | f => Q f s') E s) :
    wpC M A (execs (st :: rest) env) Q E s := wpC_execs_cons (wpC_of h)
theorem bindName_any {x : Str} {v : Value} {Q : Unit → Shared → Prop} (h : wpAny M A (storeName env x v) Q E s) : wpAny M A (bindName env x v) Q E s := fun Γ p hΓ => by
  rw [Sem.wp_bindName]; exact h Γ p hΓ
theorem wpC_Assign {x : Str} {pos' : Pos} {value : Expr} {pos : Pos} {Q : Flow → Shared → Prop}
    (h : wpC M A (eval value env) (fun v s₁ => wpAny M A (storeName env x v) (fun _ => Q .next) E s₁) E s)
    (hs : swapsWith value (some (.Name x pos')) pos.line env = pure false := by rfl) :
    wpC M A (exec (.Assign [.Name x pos'] value pos) env) Q E s := by
  rw [exec_Assign_Name env x pos' value pos hs]
  refine wpC_step (wpAny_standAt (wpC_bind (wpC_mono h (fun v s₁ h₁ => ?_) fun _ _ x => x)))
  exact wpC_step (wpAny_standAt (wpC_step (bindName_any (wpAny_mono h₁ (fun _ _ h' => wpC_pure h') fun _ _ x => x))))
theorem wpC_Return {e : Expr} {pos : Pos} {Q : Flow → Shared → Prop} (h : wpC M A (eval e env) (fun v => Q (.ret v)) E s) :
    wpC M A (exec (.Return (some e) pos) env) Q E s := by
  rw [exec_Return_some]
  exact wpC_step (wpAny_standAt (wpC_bind (wpC_mono h (fun v s' h' => wpC_pure h') fun _ _ x => x)))
theorem wpC_operate {vs : List Value} {t : Sem Value} {Q : Value → Shared → Prop} (h : wpC M A t Q E s) : wpC M A (operate vs t) Q E s := fun Γ p hΓ h1 h2 => by
  rw [Sem.wp_operate]; exact h Γ p hΓ h1 h2
theorem wpC_BinOp {l : Expr} {op : Operator} {r : Expr} {pos : Pos} {Q : Value → Shared → Prop}
    (h : wpC M A (eval l env) (fun a s₁ => wpC M A (eval r env) (fun b s₂ => wpAny M A (binaryOp op a b) Q E s₂) E s₁) E s) :
    wpC M A (eval (.BinOp l op r pos) env) Q E s := by
  rw [eval_BinOp]
  refine wpC_bind (wpC_mono h (fun a s₁ h₁ => wpC_bind (wpC_holding (wpC_mono h₁ (fun b s₂ h₂ => ?_) fun _ _ x => x))) fun _ _ x => x)
  exact wpC_step (wpAny_standAt (wpC_operate (wpC_of h₂)))
theorem wpC_IfExp {test body orelse : Expr} {pos : Pos} {Q : Value → Shared → Prop}
    (h : wpAny M A (isTrue test env (eval test env)) (fun b s₁ => if b then wpC M A (eval body env) Q E s₁ else wpC M A (eval orelse env) Q E s₁) E s) :
    wpC M A (eval (.IfExp test body orelse pos) env) Q E s := by
  rw [arm_eval_IfExp]
  refine wpC_step (wpAny_mono h (fun b s₁ h₁ => ?_) fun _ _ x => x)
  cases b <;> exact h₁
theorem splicedC_cons {x : Sem Value} {rest : List (Bool × Sem Value)} {Q : List Value → Shared → Prop}
    (h : wpC M A x (fun v s₁ => wpC M A (spliced rest) (fun vs s₂ => Q (v :: vs) s₂) E s₁) E s) : wpC M A (spliced ((false, x) :: rest)) Q E s := by
  rw [spliced]
  refine wpC_bind (wpC_mono h (fun v s₁ h₁ => ?_) fun _ _ x => x)
  simp only [Bool.false_eq_true, if_false]
  exact wpC_step (wpAny_pure (wpC_bind (wpC_holding (wpC_mono h₁ (fun vs s₂ h₂ => wpC_pure h₂) fun _ _ x => x))))
theorem argsC {env : Env} {e : Expr} {rest : List Expr} {pos : Pos} {Q : List Value → Shared → Prop}
    (h : wpC M A (eval e env) (fun v s₁ => wpC M A (spliced (backTo pos (starEach rest env))) (fun vs s₂ => Q (v :: vs) s₂) E s₁) E s)
    (he : starEach (e :: rest) env = (false, eval e env) :: starEach rest env := by rfl) : wpC M A (spliced (backTo pos (starEach (e :: rest) env))) Q E s := by
  rw [he]; exact splicedC_cons h
theorem evalArgsC {f x : _} {rest : List (Bool × Sem Value)} {Q : Args → Shared → Prop}
    (h : wpC M A (spliced ((false, x) :: rest)) (fun vs s' => Q ⟨vs, []⟩ s') E s) : wpC M A (evalArgs f true ((false, x) :: rest) []) Q E s := by
  unfold evalArgs
  show wpC M A (spliced ((false, x) :: rest) >>= _) Q E s
  refine wpC_bind (wpC_mono h (fun vs s' h' => ?_) fun _ _ x => x)
  exact wpC_holding (wpC_step (wpAny_pure (wpC_step (wpAny_pure (wpC_pure h')))))
theorem wpC_keep {α : Type} {vs : List Value} {t : Sem α} {Q : α → Shared → Prop} (h : wpC M A t Q E s) : wpC M A (t.keep vs) Q E s := fun Γ p hΓ h1 h2 => by
  rw [Sem.wp_keep]; exact h Γ p hΓ h1 h2
theorem callWithC {K : Frag} {pos : Pos} {f : Value} {e : Expr} {rest : List Expr} {Q : Value → Shared → Prop} (hk : keepIn K f = true)
    (h : wpC M A (spliced (backTo pos (starEach (e :: rest) env))) (fun vs s₁ => K.In s₁.heap ∧ wpC M A (call f vs) Q E s₁) E s)
    (he : starEach (e :: rest) env = (false, eval e env) :: starEach rest env := by rfl) (hplain : (backTo pos (starEach rest env)).any (·.1) = false := by rfl) :
    wpC M A (callWith pos f [] (backTo pos (starEach (e :: rest) env)) []) Q E s := by
  rw [he, show backTo pos ((false, eval e env) :: starEach rest env) = (false, eval e env) :: backTo pos (starEach rest env) from rfl] at h ⊢
  have hpl : ((false, eval e env) :: backTo pos (starEach rest env)).any (·.1) = false := by rw [List.any_cons, hplain]; rfl
  unfold callWith
  refine wpC_bind (wpC_holding (wpC_mono (evalArgsC (Q := fun a s₁ => K.In s₁.heap ∧ a.kw = [] ∧ wpC M A (call f a.pos) Q E s₁) (wpC_mono h (fun vs s₁ q => ⟨q.1, rfl, q.2⟩) fun _ _ x => x)) (fun a s₁ h₁ => wpC_step (wpAny_standAt ?_)) fun _ _ x => x))
  obtain ⟨k, hk', L⟩ := keeps_K (M := M) hk _ h₁.1
  simp only [hpl, List.any_nil, Bool.or_false]
  refine wpC_step (L.here ?_)
  have tail : ∀ {t : Sem Value}, wpC M A t Q E s₁ → wpC M A (t >>= fun r => holding [r] point >>= fun _ => pure r) Q E s₁ :=
    fun ht => wpC_bind (wpC_mono ht (fun r s₂ hr => wpC_step (wpAny_holding (wpAny_point (wpC_pure hr)))) fun _ _ x => x)
  have plain : wpC M A (call f ([] ++ a.pos) a.kw) Q E s₁ := by rw [h₁.2.1]; exact h₁.2.2
  have marked (mk : Value) : wpC M A (callMarked mk f ([] ++ a.pos) a.kw) Q E s₁ := by unfold callMarked; exact wpC_keep plain
  rcases hk' with rfl | rfl | rfl <;> dsimp only <;> first | exact tail plain | (split <;> first | exact tail plain | exact tail (marked _))
theorem callWithC_builtin {pos : Pos} {id : String} {first : List Value} {e : Expr} {rest : List Expr} {Q : Value → Shared → Prop}
    (h : wpC M A (spliced (backTo pos (starEach (e :: rest) env))) (fun vs s₁ => wpAny M A (call (.builtin id) (first ++ vs)) Q E s₁) E s)
    (he : starEach (e :: rest) env = (false, eval e env) :: starEach rest env := by rfl) (hplain : (backTo pos (starEach rest env)).any (·.1) = false := by rfl) :
    wpC M A (callWith pos (.builtin id) first (backTo pos (starEach (e :: rest) env)) []) Q E s := by
  rw [he, show backTo pos ((false, eval e env) :: starEach rest env) = (false, eval e env) :: backTo pos (starEach rest env) from rfl] at h ⊢
  have hpl : ((false, eval e env) :: backTo pos (starEach rest env)).any (·.1) = false := by rw [List.any_cons, hplain]; rfl
  unfold callWith
  refine wpC_bind (wpC_holding (wpC_mono (evalArgsC (Q := fun a s₁ => a.kw = [] ∧ wpAny M A (call (.builtin id) (first ++ a.pos)) Q E s₁) (wpC_mono h (fun vs s₁ q => ⟨rfl, q⟩) fun _ _ x => x)) (fun a s₁ h₁ => wpC_step (wpAny_standAt ?_)) fun _ _ x => x))
  simp only [hpl, List.any_nil, Bool.or_false]
  refine wpC_step (wpAny_pure ?_)
  exact wpC_step (wpAny_mono (by rw [h₁.1]; exact h₁.2) (fun r s₂ hr => wpC_step (wpAny_holding (wpAny_point (wpC_pure hr)))) fun _ _ x => x)
theorem callWithC_type {pos : Pos} {T : String} {e : Expr} {rest : List Expr} {Q : Value → Shared → Prop}
    (h : wpAny M A (spliced (backTo pos (starEach (e :: rest) env))) (fun vs s₁ => wpC M A (call (.type T) vs) Q E s₁) E s)
    (he : starEach (e :: rest) env = (false, eval e env) :: starEach rest env := by rfl) (hplain : (backTo pos (starEach rest env)).any (·.1) = false := by rfl) :
    wpC M A (callWith pos (.type T) [] (backTo pos (starEach (e :: rest) env)) []) Q E s := by
  rw [he, show backTo pos ((false, eval e env) :: starEach rest env) = (false, eval e env) :: backTo pos (starEach rest env) from rfl] at h ⊢
  have hpl : ((false, eval e env) :: backTo pos (starEach rest env)).any (·.1) = false := by rw [List.any_cons, hplain]; rfl
  unfold callWith
  refine wpC_bind (wpC_holding (wpC_mono (evalArgsC (Q := fun a s₁ => a.kw = [] ∧ wpC M A (call (.type T) a.pos) Q E s₁) (wpC_of (wpAny_mono h (fun vs s₁ q => ⟨rfl, q⟩) fun _ _ x => x))) (fun a s₁ h₁ => wpC_step (wpAny_standAt ?_)) fun _ _ x => x))
  simp only [hpl, List.any_nil, Bool.or_false]
  refine wpC_step (wpAny_pure ?_)
  exact wpC_bind (wpC_mono (by rw [h₁.1]; exact h₁.2) (fun r s₂ hr => wpC_step (wpAny_holding (wpAny_point (wpC_pure hr)))) fun _ _ x => x)
theorem CallC {func : Expr} {args : List Expr} {pos : Pos} {Q : Value → Shared → Prop}
    (h : wpAny M A (eval func env) (fun f s₁ => wpC M A (callWith pos f [] (backTo pos (starEach args env)) []) Q E s₁) E s)
    (he : eval (.Call func args [] pos) env = (do callWith pos (← eval func env) [] (backTo pos (starEach args env)) (backToKw pos (keywordEach [] env))) := by rfl) :
    wpC M A (eval (.Call func args [] pos) env) Q E s := by
  rw [he]; exact wpC_step h
theorem MethodCallC {o : Expr} {name : Str} {apos pos : Pos} {args : List Expr} {pl : Sem Bool} {Q : Value → Shared → Prop}
    (h : wpAny M A (eval o env) (fun ov s₁ => wpAny M A (getMethod ov name pl) (fun fx s₂ => wpC M A (callWith pos fx.1 fx.2 (backTo pos (starEach args env)) []) Q E s₂) E s₁) E s)
    (he : eval (.Call (.Attribute o name apos) args [] pos) env = (do
      let ov ← eval o env
      standAt apos.atName
      let (f, first) ← holding [ov] (getMethod ov name pl)
      callWith pos f first (backTo pos (starEach args env)) []) := by rfl) :
    wpC M A (eval (.Call (.Attribute o name apos) args [] pos) env) Q E s := by
  rw [he]
  refine wpC_step (wpAny_mono h (fun ov s₁ h₁ => wpC_step (wpAny_standAt (wpC_step (wpAny_holding (wpAny_mono h₁ (fun fx s₂ h₂ => ?_) fun _ _ x => x))))) fun _ _ x => x)
  exact h₂
end
end Mine
end

section
open PySem PySem.W PyProof.Rows PySem.Calls
open Sem (wp)
namespace Mine
section
variable {prog : Program} {w : World} {A : Around} {R : Result → Shared → Prop} {s : Shared}
theorem codeC_func {body : List Stmt} {env : Env}
    (h : wpC (model prog w) (A.deeper env) (execs body env) (fun f s' => R (.ok (.ret (match f with | .ret v => v | _ => .none))) s')
      (fun e s' => wpAny (model prog w) (A.deeper env) (leaving env e) (fun _ s'' => R (.error e) s'') (fun e' s'' => R (.error e') s'') s') s) :
    codeC (model prog w) A (.func body env) R s := by
  refine codeC_of_tree rfl ?_
  show wpC _ (A.deeper env) (do point; match ← (execs body env).onRaise (leaving env) with | .ret v => ret v | _ => ret .none) _ _ s
  refine wpC_step (wpAny_point (wpC_bind (wpC_onRaise (wpC_mono h (fun f s' h' => ?_) fun _ _ h' => h'))))
  cases f <;> exact wpC_pure h'
theorem codeC_call_function {a : Addr} {args : Args} {o : Obj} {fd : FuncData} {body : List Stmt} (hroom : A.depth < recursionLimit)
    (ho : s.heap.get? a = some o) (hd' : o.data = .func fd) (hco : fd.scope.isCoroutine = false) (hgen : fd.scope.isGenerator = false) (hbody : fd.body = .stmts body) (hcd : s.heap.CodeRec fd.code fd.qualname)
    (h : wpAny (model prog w) A.in1 (bindArgs fd args) (fun binds s₁ =>
      wpAny (model prog w) A.in1 (newFunctionEnv fd.scope fd.globals fd.closure binds (fd.qualname ++ ".<locals>.") (some a) fd.code none fd.builtins)
        (fun env s₂ => s₂.heap.NoLimit ∧ codeC (model prog w) A (.func body env) R s₂) (fun e s' => R (.error e) s') s₁) (fun e s' => R (.error e) s') s) :
    codeC (model prog w) A (.call (.ref a) args) R s := by
  refine codeC_of_tree rfl ?_
  show wpC _ A.in1 (callAny (.ref a) args) _ _ s
  simp only [callAny]
  refine wpC_step (wpAny_load ho ?_)
  obtain ⟨c, oc, vs, tq, hc, hoc, hdc, hq⟩ := hcd
  simp only [hd', callFunction, hco, hgen, hbody, hc]
  rw [hc] at h
  refine wpC_step (m := field (.ref c) 1) (wpAny_field hoc hdc hq (wpC_step (wpAny_pure ?_)))
  exact wpC_step (wpAny_mono h (fun binds s₁ h₁ => wpC_step (wpAny_mono h₁ (fun env s₂ h₂ => wpC_step (wpAny_enterFrame h₂.1 hroom
    (wpC_pure (And.intro rfl h₂.2)))) fun _ _ h' => h')) fun _ _ h' => h')
theorem codeC_call_def {a : Addr} {o : Obj} {fd : FuncData} {body : List Stmt} {args : Args} {binds : List (Str × Value)}
    (hroom : A.depth < recursionLimit) (ho : s.heap.get? a = some o) (hdata : o.data = .func fd) (hlim : s.heap.NoLimit) (hcd : s.heap.CodeRec fd.code fd.qualname)
    (hbody : fd.body = .stmts body) (hbind : BindsTo s fd args binds)
    (hcell : ∀ x ∈ fd.scope.names, x.2 ≠ .cell) (hloc : ∀ x ∈ binds, fd.scope.names.lookup x.1 = some .local)
    (h : ∀ h₀, h₀.Ns s.heap.objs.size (fun x => binds.reverse.lookup x) → (∀ b o, s.heap.get? b = some o → h₀.get? b = some o) →
      wpC (model prog w) (A.deeper (callEnv fd s.heap.objs.size a)) (execs body (callEnv fd s.heap.objs.size a)) (fun f s' => R (.ok (.ret (match f with | .ret v => v | _ => .none))) s')
        (fun e s' => wpAny (model prog w) (A.deeper (callEnv fd s.heap.objs.size a)) (leaving (callEnv fd s.heap.objs.size a) e) (fun _ s'' => R (.error e) s'') (fun e' s'' => R (.error e') s'') s')
        { s with heap := h₀, toks := s.toks + binds.length })
    (hco : fd.scope.isCoroutine = false) (hgen : fd.scope.isGenerator = false) (hk : fd.scope.kind = .function) :
    codeC (model prog w) A (.call (.ref a) args) R s := by
  refine codeC_call_function hroom ho hdata hco hgen hbody hcd (hbind _ _ _ _ ?_)
  refine wpAny_newFunctionEnv hcell hloc (fun h₀ hns₀ hsb₀ => ⟨hlim.fresh _ hsb₀, codeC_func (h h₀ hns₀ fun b o e => ?_)⟩) hk
  exact hsb₀.extBut b o (Nat.ne_of_lt (Heap.lt_size e)) (Heap.get?_push_of_some _ e)
end
section
variable {prog : Program} {w : World} {A₀ A : Around} {s : Shared} {base h₀ : Heap} {outer : List Env} {L : Addr} {m : Str → Option Value} {env : Env} {news : List (Addr × Obj)} {K : Frag} {p : Program} {loose : List Str} {mean : ExcName → Option Value} {mg mb : Str → Option Value}
  {R : Result → Shared → Prop} {name qual : Str} {params : Arguments} {body : List Stmt} {scope : Scope} {dV kV doc pm cdv ct oc : Value} {an od : Option Addr} {osl : Array (Option Value)} {f : Addr} {args : Args} {binds : List (Str × Value)}
theorem enterC (B : Below A₀ base outer h₀) (F : Fr h₀ L s.heap m) (X₀ : K.In h₀) (N : News h₀ L s.heap news) (T : Top p loose mean mg mb h₀) (hA : A.frames = some (env :: outer)) (hf : env.frame = some L) (hke : env.scope.kind = .function)
    (ho : K.lookup f = some ⟨oc, od, .func (fnOf name qual params body scope dV kV doc pm an cdv ct), osl⟩) (hcd : codeIn K cdv qual = true) (hroom : A.depth < recursionLimit)
    (hbind : BindsTo s (fnOf name qual params body scope dV kV doc pm an cdv ct) args binds) (hloc : ∀ y ∈ binds, scope.names.lookup y.1 = some .local)
    (h : ∀ g L' h₁, Fr h₀ L g m → Fr g L' h₁ (fun y => binds.reverse.lookup y) → News g L' h₁ news → Below A base (env :: outer) g → K.In g → Top p loose mean mg mb g → (∀ q ∈ news, q.1 < L') →
      wpC (model prog w) (A.deeper (envOf qual scope L' f cdv)) (execs body (envOf qual scope L' f cdv))
        (fun fl s' => LeaveK h₀ L m g R (match fl with | .ret v => v | _ => .none) s')
        (fun e s' => wpAny (model prog w) (A.deeper (envOf qual scope L' f cdv)) (leaving (envOf qual scope L' f cdv) e) (fun _ s'' => R (.error e) s'') (fun e' s'' => R (.error e') s'') s')
        { s with heap := h₁, toks := s.toks + binds.length })
    (hco : scope.isCoroutine = false) (hgen : scope.isGenerator = false) (hk : scope.kind = .function)
    (hcell : ∀ x ∈ scope.names, x.2 ≠ .cell) : codeC (model prog w) A (.call (.ref f) args) R s := by
  obtain ⟨FG, BG, st, lv⟩ := groundX (R := R) B F N hA hf hke
  refine codeC_call_def (fd := fnOf name qual params body scope dV kV doc pm an cdv ct) (body := body) (binds := binds) hroom ((X₀.keeps F.keep) _ _ ho) rfl (T.nolimit.keeps F.keep) (codeRec_of (X₀.keeps F.keep) hcd) rfl hbind hcell hloc (fun h₁ hns hk₁ => ?_) hco hgen hk
  exact wpC_mono (h _ s.heap.objs.size h₁ FG ⟨hns, fun b o e => hk₁ b o (of_hideAll _ e), Nat.le_of_eq (hideAll_size _ _)⟩
    (fun q hq => ⟨hk₁ _ _ (N q hq).1, Nat.ne_of_lt (Heap.lt_size (N q hq).1), hideAll_none _ (List.mem_map_of_mem hq)⟩) BG (X₀.keeps st) (T.keeps st) (fun q hq => Heap.lt_size (N q hq).1)) (fun fl s' hl => lv _ _ hl) fun _ _ y => y
end
end Mine
end

section
open PySem PySem.W PyProof.Rows PySem.Calls
open Sem (wp)
namespace Mine
section
variable {prog : Program} {w : World} {A : Around} {E : Value → Shared → Prop} {R : Result → Shared → Prop} {s : Shared} {env : Env}
theorem wpC_onRaise_no {α : Type} {M : Model} {m : Sem α} {k : Value → Sem Unit} {Q : α → Shared → Prop}
    (h : wpC M A m Q (fun _ _ => False) s) : wpC M A (m.onRaise k) Q E s := wpC_onRaise (wpC_mono h (fun _ _ x => x) fun _ _ f => f.elim)
theorem compLoopC {elt target iter : Expr} {scope : Scope} {pos : Pos} {it acc : Value} (I : Nat → Shared → Prop)
    (turn : ∀ n s, I n s → wpAny (model prog w) A (pyNext it) (fun r s₁ => match r with
      | none => R (.ok .next) s₁
      | some v => wpAny (model prog w) A (assign target env v) (fun _ s₂ => wpC (model prog w) A (eval elt env) (fun x s₃ =>
          wpAny (model prog w) A (call (.builtin "list.append") [acc, x]) (fun _ s₄ => ∃ m, m < n ∧ I m s₄) (fun _ _ => False) s₃) (fun _ _ => False) s₂) (fun _ _ => False) s₁) (fun _ _ => False) s)
    (n : Nat) (h : I n s) (ht : ∀ v, letOwnedTupleGo target it v = pure ()) :
    codeC (model prog w) A (.compLoop (.ListComp elt [⟨target, iter, [], 0⟩] scope pos) 0 it acc env) R s := by
  refine codeC_loop rfl rfl I (fun n s hI => ?_) n h
  show wpC _ A ((compTurn (.ListComp elt [⟨target, iter, [], 0⟩] scope pos) 0 it acc env).onRaise (fun x => do noteFrame x env; theTreesLotGoes x)) _ _ s
  refine wpC_onRaise_no ?_
  rw [compTurn_list1]
  refine wpC_step (wpAny_standAt (wpC_step (wpAny_mono (turn n s hI) (fun r s₁ h₁ => ?_) fun _ _ x => x)))
  cases r with
  | none => exact wpC_pure h₁
  | some v =>
    refine wpC_step (wpAny_of_eq (ht v) (wpC_step (wpAny_mono h₁ (fun _ s₂ h₂ => wpC_bind (wpC_bind (wpC_mono h₂ (fun x s₃ h₃ => ?_) fun _ _ x => x))) fun _ _ x => x)))
    exact wpC_step (wpAny_mono h₃ (fun _ s₄ h₄ => wpC_pure (wpC_pure ⟨rfl, h₄⟩)) fun _ _ x => x)
theorem compStartC {elt target iter : Expr} {scope : Scope} {pos : Pos} {it acc : Value}
    (h0 : codeC (model prog w) A (.compLoop (.ListComp elt [⟨target, iter, [], 0⟩] scope pos) 0 it acc env) R s)
    (h : wpAny (model prog w) A (pyIter it) (fun it' s' => codeC (model prog w) A (.compLoop (.ListComp elt [⟨target, iter, [], 0⟩] scope pos) 0 it' acc env) R s') (fun _ _ => False) s) :
    codeC (model prog w) A (.compStart (.ListComp elt [⟨target, iter, [], 0⟩] scope pos) 0 it acc env) R s := by
  refine codeC_of_tree rfl ?_
  show wpC _ _ ((compStart (.ListComp elt [⟨target, iter, [], 0⟩] scope pos) 0 it acc env).onRaise (fun x => do noteFrame x env; standAt theWindowsPlace)) _ _ s
  refine wpC_onRaise_no ?_
  unfold compStart
  show wpC _ _ (ask >>= _) _ _ s
  refine wpC_step (wpAny_askSetting ?_)
  split
  · first
      | exact wpC_step (wpAny_pure (wpC_pure (And.intro rfl h0)))
      | exact wpC_pure (And.intro rfl h0)
  · first
      | exact wpC_step (wpAny_rule (wpC_step (wpAny_standAt (wpC_step (wpAny_mono h (fun it' s' h' => wpC_pure (And.intro rfl h')) fun _ _ x => x)))))
      | (refine wpC_step (wpAny_rule ?_); show wpC _ _ (standAt iter.pos >>= _) _ _ s; exact wpC_step (wpAny_standAt (wpC_step (wpAny_mono h (fun it' s' h' => wpC_pure (And.intro rfl h')) fun _ _ x => x))))
theorem comprehensionC {M : Model} {e : Expr} {scope : Scope} {pos : Pos} {newAcc first : Sem Value} {g : Comprehension} {gs : List Comprehension} {cl : List (Str × Addr)} {Q : Value → Shared → Prop}
    (hcl : clausesOf e = g :: gs) (hs : ∀ x, foldedSetIterable g.iter env x = pure x) (hclos : closureFor scope env = pure cl)
    (hkind : scope.kind = .function) (hnames : ∀ x ∈ scope.names, x.2 = .local → scope.names.lookup x.1 = some .local)
    (h : wpAny M A first (fun x s₁ => wpAny M A (pyIter x) (fun it s₂ => wpAny M A newAcc (fun acc s₃ =>
      wpAny M A (newFunctionEnv scope env.globals cl [] env.qual none .none (some env)) (fun cenv s₄ =>
        codeC M A (.compStart e 0 it acc { cenv with scope := relabel scope env }) (fun r s' => match r with
          | .ok _ => ∃ m, s'.heap.Ns cenv.locals m ∧ ∀ h', Heap.SameBut cenv.locals s'.heap h' → Q acc { s' with heap := h' }
          | .error _ => False) s₄) E s₃) E s₂) E s₁) E s) :
    wpC M A (comprehension e scope env pos newAcc false first none) Q E s := by
  unfold comprehension
  rw [hclos, hcl]
  refine wpC_step (wpAny_mono h (fun x s₁ h₁ => wpC_step (wpAny_standAt (wpC_step (wpAny_of_eq (hs x) (wpC_step (wpAny_holding (wpAny_mono h₁ (fun it s₂ h₂ => ?_) fun _ _ x => x))))))) fun _ _ x => x)
  refine wpC_step (wpAny_mono h₂ (fun acc s₃ h₃ => wpC_step (wpAny_pure (wpC_step (wpAny_mono h₃ (fun cenv s₄ h₄ => ?_) fun _ _ x => x)))) fun _ _ x => x)
  dsimp only
  refine wpC_holding (wpC_bind (wpC_attempt (wpC_holding (wpC_run (codeC_mono h₄ fun r s' hr => ?_)))))
  cases r with
  | error x => exact hr.elim
  | ok f =>
    obtain ⟨m, hn, hr⟩ := hr
    refine wpC_of (wpAny_bind (wpAny_holding (wpAny_comp_letGo (cenv := { cenv with scope := relabel scope env }) hkind _ s' m (fun x hx hl => ?_) hn fun h' m' _ hs' => wpAny_pure (hr h' hs'))))
    exact lookup_relabel_local (hnames x (List.mem_filter.mp (List.mem_reverse.mp hx)).1 hl)
end
end Mine
end

section
open PySem PySem.W PyProof.Rows PySem.Calls
open Sem (wp)
namespace Mine
section
variable {prog : Program} {w : World} {A : Around} {E : Value → Shared → Prop} {s : Shared} {h₀ : Heap} {L : Addr} {m : Str → Option Value} {env : Env}

/-- what an element of a comprehension may leave: the ledger as it was, and a value that fits its place -/
def EltEnd (h₀ : Heap) (L : Addr) (m : Str → Option Value) (led : List (Addr × Obj)) (s : Shared) (V : Value → Prop) (y : Value) (s₂ : Shared) : Prop :=
  ∃ h' tk', s₂ = { s with heap := h', toks := tk' } ∧ Fr h₀ L h' m ∧ News h₀ L h' led ∧ V y

theorem blockC {elt iter : Expr} {x : Str} {px : Pos} {scope : Scope} {cl : List (Str × Addr)} {pos : Pos} {s₂ : Shared} {I : Addr} {n : Nat} {a : Int} {news : List (Addr × Obj)} {RR : Value → Addr → Result → Shared → Prop} (V : Nat → Value → Prop)
    (hh : A.handled = none) (hsz : n ≤ sizeLine) (hcell : ∀ y ∈ scope.names, y.2 ≠ .cell) (hkind : scope.kind = .function) (hx : scope.names.lookup x = some .local)
    (hst : IsRangeIter s₂.heap I (a + ((0 : Nat) : Int) * 1) ((n : Int) - ((0 : Nat) : Int)) 1) (hIlt : I < s₂.heap.objs.size)
    (F : Fr h₀ L s₂.heap m) (N : News h₀ L s₂.heap news) (hIL : L ≠ I) (hI₀ : h₀.get? I = none) (off : ∀ p ∈ news, p.1 ≠ I)
    (turn : ∀ (i : Nat) t oI C oC D m₂ ys h tk, i < n → LCg.NsObj oC m₂ → m₂ x = some (.int (a + (i : Int)) t) → Fr h₀ L h m → News h₀ L h ((I, oI) :: (C, oC) :: (D, LCg.lst ys) :: news) → LCg.Off3 I C D news → ((@Ne Nat I C) ∧ (@Ne Nat I D) ∧ (@Ne Nat C D)) →
        wpC (model prog w) A (eval elt (compEnvC scope cl C env)) (EltEnd h₀ L m ((I, oI) :: (C, oC) :: (D, LCg.lst ys) :: news) s₂ (V i)) (fun _ _ => False) { s₂ with heap := h, toks := tk })
    (hRR : ∀ D C h tk m' ys, Fr h₀ L h m → News h₀ L h ((D, LCg.lst ys) :: news) → LCg.Off1 D news → h.Ns C m' → h₀.get? C = none → C ≠ L → C ≠ D → (∀ p ∈ news, p.1 ≠ C) → ys.length = n → (∀ i y, ys[i]? = some y → V i y) →
      RR (.ref D) C (.ok .next) { s₂ with heap := h, toks := tk }) :
    wpAny (model prog w) A (newList []) (fun acc s₃ => wpAny (model prog w) A (newFunctionEnv scope env.globals cl [] env.qual none .none (some env)) (fun cenv s₄ =>
      codeC (model prog w) A (.compStart (.ListComp elt [⟨.Name x px, iter, [], 0⟩] scope pos) 0 (.ref I) acc { cenv with scope := relabel scope env }) (RR acc cenv.locals) s₄) E s₃) E s₂ := by
  have W := LCg.range_walks (prog := prog) (w := w) (A := A) (I := I) hh a n
  refine wpAny_newObj_type (wpAny_newFunctionEnv hcell (by intro y hy; simp at hy) (fun h₁ hns₁ hsb₁ => ?_) hkind)
  dsimp only at hns₁ hsb₁ ⊢
  generalize hH2 : s₂.heap.push { cls := .type "list", dict := none, data := .seq ([] : List Value).toArray } = H2 at hns₁ hsb₁ ⊢
  have hC : H2.objs.size = s₂.heap.objs.size + 1 := by rw [← hH2, Heap.size_push]
  have hDC : s₂.heap.objs.size ≠ H2.objs.size := by rw [hC]; exact Nat.ne_of_lt (Nat.lt_succ_self _)
  have below : ∀ b, b < s₂.heap.objs.size → b ≠ H2.objs.size ∧ b ≠ s₂.heap.objs.size := fun b hb => ⟨by rw [hC]; exact Nat.ne_of_lt (Nat.lt_succ_of_lt hb), Nat.ne_of_lt hb⟩
  have old : ∀ b o, s₂.heap.get? b = some o → h₁.get? b = some o := fun b o e => hsb₁.extBut b o (below b (Heap.lt_size e)).1 (Heap.get?_push_of_some _ (hH2 ▸ Heap.get?_push_of_some _ e))
  have hacc : h₁.get? s₂.heap.objs.size = some (LCg.lst []) := hsb₁.extBut _ _ hDC (Heap.get?_push_of_some _ (hH2 ▸ Heap.get?_push_size _ rfl))
  have hst₁ := W.frame _ _ _ hst fun b _ o e => old b o e
  have fresh₀ : ∀ q, s₂.heap.objs.size ≤ q → h₀.get? q = none := fun q hq => by
    cases e : h₀.get? q with
    | none => rfl
    | some o' => exact absurd (Heap.lt_size (F.keep q o' e)) (Nat.not_lt.mpr hq)
  have hD₀ : h₀.get? s₂.heap.objs.size = none := fresh₀ _ (Nat.le_refl _)
  have hC₀ : h₀.get? H2.objs.size = none := fresh₀ _ (by rw [hC]; exact Nat.le_succ _)
  have hLlt : L < s₂.heap.objs.size := F.ns.lt
  have hDL : s₂.heap.objs.size ≠ L := Ne.symm (below L hLlt).2
  have hCL : H2.objs.size ≠ L := Ne.symm (below L hLlt).1
  have hCI : I ≠ H2.objs.size := (below I hIlt).1
  have hDI : I ≠ s₂.heap.objs.size := (below I hIlt).2
  have hCf : H2.objs.size ∉ [I] := by simpa using Ne.symm hCI
  have hDf : s₂.heap.objs.size ∉ [I] := by simpa using Ne.symm hDI
  have off₀ : LCg.Off3 I H2.objs.size s₂.heap.objs.size news := LCg.Off3.of fun p hp => ⟨off p hp, (below _ (Heap.lt_size (N p hp).1)).1, (below _ (Heap.lt_size (N p hp).1)).2⟩
  have off3 := off₀.mem
  have loop : codeC (model prog w) A (.compLoop (.ListComp elt [⟨.Name x px, iter, [], 0⟩] scope pos) 0 (.ref I) (.ref s₂.heap.objs.size) (compEnvC scope cl H2.objs.size env))
        (RR (.ref s₂.heap.objs.size) H2.objs.size) { s₂ with heap := h₁, toks := s₂.toks + ([] : List (Str × Value)).length } := by
    refine compLoopC
      (fun k s' => ∃ h' tk i ys m', s' = { s₂ with heap := h', toks := tk } ∧ i ≤ n ∧ k = n + 1 - i ∧ ys.length = i ∧ (∀ j y, ys[j]? = some y → V j y) ∧ IsRangeIter h' I (a + (i : Int) * 1) ((n : Int) - (i : Int)) 1 ∧ Fr h₀ L h' m ∧ h'.Ns H2.objs.size m' ∧ News h₀ L h' ((s₂.heap.objs.size, LCg.lst ys) :: news)) ?_ (n + 1)
      ⟨h₁, _, 0, [], _, rfl, Nat.zero_le _, rfl, rfl, (fun j y e => by simp at e), hst₁, F.keeps old, hns₁, fun p hp => ?_⟩ (fun _ => rfl)
    · rintro k s' ⟨h', tk, i, ys, m', rfl, hi, rfl, hyl, hV, hst', F', hn', N'⟩
      by_cases hlt : i < n
      · refine W.item i _ _ _ hlt hst' fun v h₂ tk₂ hPv hst₂ hk₂ => ?_
        obtain ⟨t, rfl⟩ := hPv
        refine wpAny_assign_Name (wpAny_storeName_local (lookup_relabel_local hx) (hn'.at' fun o e => hk₂ _ o (by simpa using Ne.symm hCI) e) (fun h₃ hn₃ hs₃ => ?_) (by simp [compEnvC, relabel, hkind]))
        have hst₃ := W.frame _ _ _ hst₂ fun b hb o e => hs₃.extBut b o (fun q => hCf (by have q' : b = H2.objs.size := q; rw [← q']; exact hb)) e
        obtain ⟨oI, heI⟩ : ∃ o, h₃.get? I = some o := ⟨_, hst₃⟩
        obtain ⟨oC, heC, hoC⟩ := LCg.ns_obj hn₃
        have F₃ : Fr h₀ L h₃ m := (LCg.fr_but F' hk₂ hIL hI₀).change hs₃ hCL hC₀
        have N₂ : News h₀ L h₂ ((s₂.heap.objs.size, LCg.lst ys) :: news) := LCg.news_but N' hk₂ fun p hp => by
          rcases List.mem_cons.mp hp with rfl | hp
          · exact Ne.symm hDI
          · exact (off3 p hp).1
        have N₃ : News h₀ L h₃ ((I, oI) :: (H2.objs.size, oC) :: (s₂.heap.objs.size, LCg.lst ys) :: news) := fun p hp => by
          rcases List.mem_cons.mp hp with rfl | hp
          · exact ⟨heI, Ne.symm hIL, hI₀⟩
          · rcases List.mem_cons.mp hp with rfl | hp
            · exact ⟨heC, hCL, hC₀⟩
            · have z := N₂ p hp
              refine ⟨hs₃.extBut _ _ ?_ z.1, z.2⟩
              rcases List.mem_cons.mp hp with rfl | hp
              · exact hDC
              · exact (off3 p hp).2.1
        refine wpC_mono (turn i t oI H2.objs.size oC s₂.heap.objs.size _ ys h₃ _ hlt hoC (by simp) F₃ N₃ off₀ ⟨hCI, hDI, Ne.symm hDC⟩) (fun y s₄ h₄ => ?_) fun _ _ e => e
        obtain ⟨h₄, tk₄, rfl, F₄, N₄, hVy⟩ := h₄
        have zI := (N₄ (I, oI) List.mem_cons_self).1
        have zC := (N₄ (H2.objs.size, oC) (List.mem_cons_of_mem _ List.mem_cons_self)).1
        have zD := (N₄ (s₂.heap.objs.size, LCg.lst ys) (List.mem_cons_of_mem _ (List.mem_cons_of_mem _ List.mem_cons_self))).1
        have N₄' : News h₀ L h₄ news := fun p hp => N₄ p (List.mem_cons_of_mem _ (List.mem_cons_of_mem _ (List.mem_cons_of_mem _ hp)))
        have hst₄ := LCg.range_st (h₀ := h₀) (L := L) _ _ _ _ news hst₃ heI zI F₄.keep N₄' trivial
        refine append_at (hsz := by show ys.toArray.size ≤ sizeLine; rw [List.size_toArray, hyl]; exact Nat.le_trans hi hsz) zD fun h₅ hs₅ hD₅ => ?_
        refine ⟨n + 1 - (i + 1), by omega, h₅, tk₄, i + 1, ys ++ [y], _, rfl, hlt, rfl, by rw [List.length_append, List.length_singleton, hyl], fun j z e => ?_, W.frame _ _ _ hst₄ fun b hb o e => hs₅.extBut b o (fun q => hDf (q ▸ hb)) e, F₄.change hs₅ hDL hD₀,
          (hoC.ns zC).sameBut hs₅ (Ne.symm hDC), fun p hp => ?_⟩
        · rw [List.getElem?_append] at e
          split at e
          · exact hV j z e
          · rename_i hj
            rw [List.getElem?_singleton] at e
            split at e
            · cases e
              have : j = i := by omega
              subst this; exact hVy
            · cases e
        · rcases List.mem_cons.mp hp with rfl | hp
          · exact ⟨hD₅.trans (congrArg some (LCg.lst_snoc ys y)), hDL, hD₀⟩
          · exact ⟨hs₅.extBut _ _ (off3 p hp).2.2 (N₄' p hp).1, (N₄' p hp).2⟩
      · obtain rfl : i = n := Nat.le_antisymm hi (Nat.not_lt.mp hlt)
        refine W.done _ _ _ hst' fun h₂ tk₂ hk₂ => ?_
        exact hRR _ _ h₂ tk₂ _ ys (LCg.fr_but F' hk₂ hIL hI₀) (LCg.news_but N' hk₂ fun p hp => by
          rcases List.mem_cons.mp hp with rfl | hp
          · exact Ne.symm hDI
          · exact (off3 p hp).1) off₀.one (hn'.at' fun o e => hk₂ _ o (by simpa using Ne.symm hCI) e) hC₀ hCL (Ne.symm hDC) (fun p hp => (off3 p hp).2.1) hyl hV
    · rcases List.mem_cons.mp hp with rfl | hp
      · exact ⟨hacc, hDL, hD₀⟩
      · exact ⟨old _ _ (N p hp).1, (N p hp).2⟩
  exact compStartC loop (W.self 0 _ _ _ hst₁ loop)

/-- a list comprehension over a range, its element in the logic of clean contexts -/
theorem ListCompC {elt iter : Expr} {x : Str} {px : Pos} {scope : Scope} {cl : List (Str × Addr)} {pos : Pos} {Q : Value → Shared → Prop} (V : Nat → Value → Prop)
    (hclos : closureFor scope env = pure cl) (hcell : ∀ y ∈ scope.names, y.2 ≠ .cell) (hkind : scope.kind = .function)
    (hnames : ∀ y ∈ scope.names, y.2 = .local → scope.names.lookup y.1 = some .local) (hx : scope.names.lookup x = some .local) (hh : A.handled = none)
    (h : wpAny (model prog w) A (eval iter env) (fun xv s₁ => ∃ r a b t u v n news, xv = .ref r ∧ Fr h₀ L s₁.heap m ∧ News h₀ L s₁.heap news ∧ IsRange s₁.heap r a b 1 t u v ∧ Builtin.Range.small a b 1 = true ∧ Builtin.Range.rangeSize a b 1 = ((n : Nat) : Int) ∧ n ≤ sizeLine ∧
      (∀ (i : Nat) t I oI C oC D m₂ ys h tk, i < n → LCg.NsObj oC m₂ → m₂ x = some (.int (a + (i : Int)) t) → Fr h₀ L h m → News h₀ L h ((I, oI) :: (C, oC) :: (D, LCg.lst ys) :: news) → LCg.Off3 I C D news → ((@Ne Nat I C) ∧ (@Ne Nat I D) ∧ (@Ne Nat C D)) →
        wpC (model prog w) A (eval elt (compEnvC scope cl C env)) (EltEnd h₀ L m ((I, oI) :: (C, oC) :: (D, LCg.lst ys) :: news) s₁ (V i)) (fun _ _ => False) { s₁ with heap := h, toks := tk }) ∧
      (∀ ys, ys.length = n → (∀ i y, ys[i]? = some y → V i y) → ∀ D h tk, Fr h₀ L h m → News h₀ L h ((D, LCg.lst ys) :: news) → LCg.Off1 D news → Q (.ref D) { s₁ with heap := h, toks := tk })) E s)
    (hs : ∀ x, foldedSetIterable iter env x = pure x := by intro _; rfl) :
    wpC (model prog w) A (eval (.ListComp elt [⟨.Name x px, iter, [], 0⟩] scope pos) env) Q E s := by
  rw [eval_ListComp]
  refine comprehensionC rfl hs hclos hkind hnames (wpAny_mono h (fun xv s₁ h₁ => ?_) fun _ _ e => e)
  obtain ⟨r, a, b, t, u, v, n, news, rfl, F, N, hr, hsm, hn, hsz, turn, fin⟩ := h₁
  refine wpAny_pyIter_range hr hsm ?_
  refine blockC (RR := fun acc C r s' => match r with | .ok _ => ∃ m, s'.heap.Ns C m ∧ ∀ h', Heap.SameBut C s'.heap h' → Q acc { s' with heap := h' } | .error _ => False) (m := m) (h₀ := h₀) (L := L) (a := a) (n := n) (news := news) V hh hsz hcell hkind hx ?_ ?_ ?_ ?_ (Nat.ne_of_lt F.ns.lt) (next_is_new F) (fun p hp => Nat.ne_of_lt (Heap.lt_size (N p hp).1)) ?_ ?_
  · show IsRangeIter _ _ _ _ _
    rw [hn]; simpa using Heap.get?_push_size _ rfl
  · show s₁.heap.objs.size < (s₁.heap.push _).objs.size
    rw [Heap.size_push]; exact Nat.lt_succ_self _
  · exact F.keeps fun _ _ e => Heap.get?_push_of_some _ e
  · exact N.grown fun _ _ e => Heap.get?_push_of_some _ e
  · exact fun i t oI C oC D m₂ ys h tk => turn i t _ oI C oC D m₂ ys h tk
  intro D C h tk m' ys F' N' o1 hns hC₀ hCL hCD offC hl hV
  refine ⟨m', hns, fun h'' hs'' => fin ys hl hV D h'' tk (F'.change hs'' hCL hC₀) (fun p hp => ?_) o1⟩
  refine ⟨hs''.extBut _ _ ?_ (N' p hp).1, (N' p hp).2⟩
  rcases List.mem_cons.mp hp with rfl | hp
  · exact Ne.symm hCD
  · exact offC p hp
end
end Mine
end

section
open PySem PySem.W PyProof.Rows PySem.Calls
open Sem (wp)
namespace Mine
theorem ba_mro : mroOf (.type "bytearray") = pure [.type "bytearray", .type "object"] := by rw [mroOf_type]; kernel_rfl
theorem ba_lookup_new : typeLookup (.type "bytearray") "__new__" = pure (some (.builtin "bytearray.__new__")) := by rw [typeLookup_type, builtinLookup_eq_fast]; kernel_rfl
theorem ba_sub : isSubtype (.type "bytearray") (.type "bytearray") = pure true := by rw [isSubtype_type]; kernel_rfl
theorem ba_slot_init : Slot "bytearray" "__init__" "bytearray.__init__" :=
  .of (owner := "bytearray") (n := "__init__") (by rw [typeLookup_type, builtinLookup_eq_fast]; kernel_rfl) (by decide +kernel) (by decide +kernel) (by decide +kernel)
    (by first | exact .inl (by decide +kernel) | exact .inr (by decide +kernel)) (by rw [isSubtype_type]; kernel_rfl)
theorem ba_called : TypeCalled "bytearray" "bytearray.__new__" "bytearray.__init__" :=
  ⟨by decide +kernel, by decide +kernel, ⟨_, _, ba_mro⟩, madeBy_type ba_mro ba_lookup_new (by decide +kernel), by decide +kernel, ba_sub, ba_slot_init⟩
theorem ba_typeCall (a : Value) : checkTypeCall "bytearray" ⟨[a], []⟩ = pure () := by kernel_rfl
theorem ba_newCall (a : Value) : checkBuiltinCall "bytearray.__new__" ⟨[.type "bytearray", a], []⟩ = pure () := by kernel_rfl
theorem ba_entry_new : entryFor table "bytearray.__new__" = some Builtin.«list.__new__» := entryFor_alias (id' := "list.__new__") (by kernel_rfl) (by decide +kernel) (by decide +kernel) (by kernel_rfl)
theorem ba_entry_init : entryFor table "bytearray.__init__" = some Builtin.«bytearray.__init__» := by first | exact entryFor_of_fast (by kernel_rfl) | exact entryFor_of_tree (by kernel_rfl)
theorem ba_plain_new : plainId "bytearray.__new__" = true := by decide +kernel
theorem ba_owner : ("bytearray.__new__".splitOn ".__new__").headD "" = "bytearray" := by simp +decide [String.splitOn, String.splitOnAux]
theorem ba_bind (v : Value) : Builtin.Bytes.bindOptional "bytearray.__init__" "bytearray" ["source", "encoding", "errors"] [v] [] = pure [some v, none, none] := by kernel_rfl
theorem ba_no_release : typeLookup (.type "bytearray") "__release_buffer__" = pure (some (.builtin "bytearray.__release_buffer__")) := by rw [typeLookup_type, builtinLookup_eq_fast]; kernel_rfl

section
variable {prog : Program} {w : World} {A : Around} {E : Value → Shared → Prop} {R : Result → Shared → Prop} {s : Shared}
theorem code_ba_new (a : Value) {Q₁ : Value → Shared → Prop}
    (h : Q₁ (.ref s.heap.objs.size) { s with heap := s.heap.push { cls := .type "bytearray", data := .bytearray #[] } }) :
    codeAny (model prog w) A (.call (.builtin "bytearray.__new__") ⟨[.type "bytearray", a], []⟩) (wants Q₁ E) s := by
  refine codeAny_of_tree ?_
  show wpAny _ A.in1 (do checkBuiltinCall "bytearray.__new__" ⟨[.type "bytearray", a], []⟩; again (.builtin "bytearray.__new__" ⟨[.type "bytearray", a], []⟩)) _ _ s
  refine wpAny_bind (wpAny_of_eq (ba_newCall a) (wpAny_pure ⟨plainId_quiet ba_plain_new _, codeAny_builtin_stack ba_entry_new rfl fun p st => ?_⟩))
  rw [Around.under_plainId ba_plain_new _]
  have hsub := ba_sub
  have hown := ba_owner
  obtain ⟨hp, g, d, tk, os⟩ := s
  simp only [hown]
  wp_walk
  exact h
theorem codeC_builtin {id : String} {args : Args} {b : Builtin} (hok : okCode (.builtin id args) = true) (hb : entryFor table id = some b)
    (h : wpC (model prog w) (A.under (.builtin id args)) (b args)
      (fun fin s' => match fin with | .done f => R (.ok f) s' | .again c' => c'.quiet = true ∧ codeC (model prog w) A c' R s') (fun e s' => R (.error e) s') s) :
    codeC (model prog w) A (.builtin id args) R s := by
  refine codeC_of_tree hok ?_
  show wpC _ _ (match entryFor table id with | some b => b args | none => unsupported ((withoutEnding? id "#data").getD id)) _ _ s
  rw [hb]; exact h
end
end Mine
end

section
open PySem PySem.W PyProof.Rows PySem.Calls
open Sem (wp)
namespace Mine
section
variable {prog : Program} {w : World} {A : Around} {E : Value → Shared → Prop} {R : Result → Shared → Prop} {s : Shared}
theorem exportedC {M : Model} {v : Value} {Q : Bool → Shared → Prop} (hg : A.guards = some []) (h : Q false s) : wpC M A (Builtin.Bytes.exported v) Q E s := by
  unfold Builtin.Bytes.exported
  refine wpC_stackAny_false hg (fun c p h1 h2 => ?_) h
  split
  all_goals first
    | rfl
    | (rename_i e; cases e; first
        | exact absurd h1 (by simp only [Code.isGuard]; decide +kernel)
        | (have h3 := h2; simp only [okCode, Bool.not_eq_true'] at h3; rw [h3, Bool.and_false]))
theorem ba_ownRelease {a : Addr} {Q : Bool → Shared → Prop} (hT : s.TypeIs (.ref a) "bytearray") (h : Q false s) : wpAny (model prog w) A (Builtin.Bytes.ownRelease (.ref a)) Q E s := by
  unfold Builtin.Bytes.ownRelease Builtin.Bytes.slotIsOwn
  refine wpAny_bind (wpAny_bind (wpAny_specialOf hT ba_no_release ?_))
  show wpAny _ _ (if _ then _ else _) _ _ _
  refine bm_if_false (by decide +kernel) ?_
  have e : "bytearray.__release_buffer__".dropRight ("__release_buffer__".length + 1) = "bytearray" := by decide +kernel
  rw [e]
  exact wpAny_isInstance hT ba_sub (wpAny_pure h)
theorem ba_write {a : Addr} {o : Obj} {b b' : Array UInt8} {f : Array UInt8 → Array UInt8} {Q : Unit → Shared → Prop} (ho : s.heap.get? a = some o) (hc : o = { cls := .type "bytearray", data := .bytearray b })
    (hf : f b = b') (hz : b'.size ≤ sizeLine) (h : ∀ h', h'.get? a = some { cls := .type "bytearray", data := .bytearray b' } → Heap.SameBut a s.heap h' → Q () { s with heap := h' }) :
    wpAny (model prog w) A (Builtin.Bytes.write (.ref a) f) Q E s := by
  subst hc
  show wpAny _ _ (updateBytearray a f) _ _ _
  unfold updateBytearray
  refine wpAny_bind (wpAny_load ho ?_)
  show wpAny _ _ (update a (Obj.mapBytearray f) >>= fun _ => lookBehind a) _ _ _
  refine wpAny_bind (wpAny_update ho ?_)
  have h2 : (s.heap.update a (Obj.mapBytearray f)).get? a = some { cls := .type "bytearray", data := .bytearray b' } := by
    rw [← hf]; exact Heap.get?_update_self (Obj.mapBytearray f) ho rfl
  refine wpAny_lookBehind h2 ?_ (h _ h2 (Heap.SameBut.update ..))
  show (if b'.size > sizeLine then some "bytearray:memory" else none) = none
  rw [if_neg (Nat.not_lt.mpr hz)]
theorem ba_init {a : Addr} {n : Int} {t : Tok} {Q : Value → Shared → Prop} (hg : A.guards = some []) (h0 : 0 ≤ n) (h1 : n ≤ 100000)
    (ho : s.heap.get? a = some { cls := .type "bytearray", data := .bytearray #[] })
    (h : ∀ h', h'.get? a = some { cls := .type "bytearray", data := .bytearray (Array.replicate n.toNat 0) } → Heap.SameBut a s.heap h' → Q .none { s with heap := h' }) :
    wpC (model prog w) A (Builtin.«bytearray.__init__» ⟨[.ref a, .int n t], []⟩) (fun fin s' => ∃ v, fin = .done (.ret v) ∧ Q v s') E s := by
  have hT : s.TypeIs (.ref a) "bytearray" := ⟨_, ho, rfl⟩
  unfold Builtin.«bytearray.__init__»
  refine wpC_step (ba_ownRelease hT ?_)
  refine wpC_step (wpAny_of_eq (ba_bind _) ?_)
  refine wpC_step (wpAny_of_eq (a := ()) rfl ?_)
  refine wpC_step (wpAny_of_eq (a := ()) rfl ?_)
  refine wpC_bind (wpC_bind (exportedC hg ?_))
  show wpC _ _ (Builtin.Bytes.exportsOf (.ref a) >>= fun k => pure (decide (k > 0))) _ _ _
  refine wpC_step ?_
  unfold Builtin.Bytes.exportsOf
  refine wpAny_bind (wpAny_load ho (wpAny_pure (wpC_pure ?_)))
  show wpC _ _ (if (decide ((0 : Nat) > 0)) = true then _ else _) _ _ _
  rw [if_neg (by decide)]
  refine wpC_of ?_
  refine wpAny_bind (ba_write ho rfl (b' := #[]) rfl (Nat.zero_le _) fun h' ho' hs' => ?_)
  refine wpAny_bind (wpAny_of_eq (a := none) rfl ?_)
  refine bm_if_false rfl ?_
  refine wpAny_bind (wpAny_of_eq (a := ()) rfl ?_)
  refine wpAny_bind (wpAny_specialOf (T := "int") (typeIs_int _ _ _) F.slot_int_index.lookup ?_)
  refine bm_if_true rfl ?_
  refine wpAny_bind (wpAny_attempt (wpAny_of_eq (rfl : asIndex (.int n t) = pure n) ?_))
  have hfit : Builtin.Bytes.fitsIndex n = true := by
    unfold Builtin.Bytes.fitsIndex; simp only [Bool.and_eq_true, decide_eq_true_eq]; omega
  refine bm_if_false (by rw [hfit]; rfl) ?_
  refine wpAny_ite ?_
  rw [if_neg (by omega)]
  refine bm_if_false (by simp only [beq_eq_false_iff_ne, ne_eq]; omega) ?_
  refine bm_if_false (by unfold Builtin.Bytes.tooLong; rw [sizeLine_eq]; exact decide_eq_false (by omega)) ?_
  refine wpAny_bind (wpAny_rule ?_)
  refine wpAny_ite ?_
  split
  · refine wpAny_bind (ba_write ho' rfl (b' := Array.replicate n.toNat 0) rfl (by rw [Array.size_replicate, sizeLine_eq]; omega) fun h'' ho'' hs'' => ?_)
    exact wpAny_bind (wpAny_pure (wpAny_pure ⟨_, rfl, h h'' ho'' (hs'.trans hs'')⟩))
  · have hn : n = 0 := by omega
    subst hn
    exact wpAny_bind (wpAny_pure (wpAny_pure ⟨_, rfl, h h' ho' hs'⟩))
end
end Mine
end

section
open PySem PySem.W PyProof.Rows PySem.Calls
open Sem (wp)
namespace Mine
section
variable {prog : Program} {w : World} {A : Around} {E : Value → Shared → Prop} {R : Result → Shared → Prop} {s : Shared}
theorem bmC_if_false {α : Type} {M : Model} {c : Bool} {a b : Sem α} {Q : α → Shared → Prop} (hc : c = false) (h : wpC M A b Q E s) : wpC M A (if c = true then a else b) Q E s := by
  subst hc
  exact h
theorem ba_args (x v : Value) : argsOk "bytearray.__init__" ⟨[x, v], []⟩ := by kernel_rfl
theorem ba_call {n : Int} {t : Tok} {Q : Value → Shared → Prop} (hg : A.guards = some []) (h0 : 0 ≤ n) (h1 : n ≤ 100000)
    (h : ∀ h', h'.get? s.heap.objs.size = some { cls := .type "bytearray", data := .bytearray (Array.replicate n.toNat 0) } → (∀ b o, s.heap.get? b = some o → h'.get? b = some o) → Q (.ref s.heap.objs.size) { s with heap := h' }) :
    wpC (model prog w) A (call (.type "bytearray") [.int n t]) Q E s := by
  refine wpC_call (codeC_of_tree rfl ?_)
  show wpC _ _ (callAny (.type "bytearray") _) _ _ _
  refine wpC_pure ⟨Code.quiet_builtin _ (by decide +kernel), codeC_builtin (show (!(Builtin.Bytes.decodersThatHold.contains "type.__call__")) = true by decide +kernel) F.entry_type_call ?_⟩
  rw [Around.under_plain (weight_type_call_type "bytearray" [.int n t] []) rfl]
  unfold Builtin.«type.__call__»
  show wpC _ _ (if _ then _ else _) _ _ _
  rw [if_neg (by decide)]
  refine bmC_if_false (ba_called.canCreate) ?_
  refine wpC_step (wpAny_of_eq (ba_typeCall _) ?_)
  refine wpC_step (wpAny_of_eq ba_mro ?_)
  refine bmC_if_false rfl ?_
  refine wpC_step (wpAny_of_eq ba_called.made ?_)
  refine wpC_step (wpAny_pure ?_)
  refine wpC_step (wpAny_holding (wpAny_call (codeAny_mono (code_ba_new (Q₁ := fun v s₁ => v = .ref s.heap.objs.size ∧ s₁ = { s with heap := s.heap.push { cls := .type "bytearray", data := .bytearray #[] } }) (E := fun _ _ => False) (.int n t) ⟨rfl, rfl⟩) fun r s₁ hr => ?_)))
  cases r with
  | error e => exact hr.elim
  | ok fl =>
    cases fl with
    | ret obj =>
      obtain ⟨rfl, rfl⟩ := hr
      have ho : (s.heap.push { cls := .type "bytearray", data := .bytearray #[] }).get? s.heap.objs.size = some { cls := .type "bytearray", data := .bytearray #[] } := Heap.get?_push_size _ rfl
      have hT : ({ s with heap := s.heap.push { cls := .type "bytearray", data := .bytearray #[] } } : Shared).TypeIs (.ref s.heap.objs.size) "bytearray" := ⟨_, ho, rfl⟩
      refine wpC_step (wpAny_isInstance hT ba_sub ?_)
      refine bmC_if_false rfl ?_
      refine wpC_bind (wpC_holding ?_)
      unfold callSpecial?
      refine wpC_step (wpAny_specialOf hT ba_slot_init.lookup ?_)
      refine wpC_holding (wpC_step (wpAny_of_eq (ba_slot_init.bind _) ?_))
      refine wpC_bind (wpC_call (codeC_of_tree rfl ?_))
      show wpC _ _ (do checkBuiltinCall "bytearray.__init__" ⟨[.ref s.heap.objs.size, .int n t], []⟩; again (.builtin "bytearray.__init__" ⟨[.ref s.heap.objs.size, .int n t], []⟩)) _ _ _
      refine wpC_step (ba_slot_init.check _ _ _ _ _ _ _ _ hT (ba_args _ _) (wpC_pure ⟨plainId_quiet ba_slot_init.plain _, codeC_builtin (show (!(Builtin.Bytes.decodersThatHold.contains "bytearray.__init__")) = true by decide +kernel) ba_entry_init ?_⟩))
      rw [Around.under_plainId ba_slot_init.plain _]
      refine wpC_mono (ba_init (Q := fun v s' => v = .none ∧ ∃ h', s' = { s with heap := h' } ∧ h'.get? s.heap.objs.size = some { cls := .type "bytearray", data := .bytearray (Array.replicate n.toNat 0) } ∧ (∀ b o, s.heap.get? b = some o → h'.get? b = some o)) hg h0 h1 ho fun h' e1 e2 => ⟨rfl, h', rfl, e1, fun b o e => e2.extBut b o (Nat.ne_of_lt (Heap.lt_size e)) (Heap.get?_push_of_some _ e)⟩) (fun fin s' hf => ?_) fun _ _ x => x
      obtain ⟨v, rfl, rfl, h', rfl, e1, e2⟩ := hf
      refine wpC_pure ?_
      exact bmC_if_false (by decide) (wpC_pure (h h' e1 e2))
    | _ => exact hr.elim
end
end Mine
end

section
open PySem PySem.W PyProof.Rows PySem.Spec PySem.Calls
namespace Mine
theorem enter_callC {M : Model} {A : Around} {s : Shared} {f : Value} {pos : List Value} {c : ClaimW} {cl : Str → Option Addr} {mean : ExcName → Option Value} {args : List WData} {s₁ : Shared}
    (h : codeC M A (.call f ⟨pos, []⟩) (GoodWG c cl mean args s₁) s) : wpC M A (PySem.call f pos) (fun v s' => GoodWG c cl mean args s₁ (.ok (.ret v)) s') (fun e s' => GoodWG c cl mean args s₁ (.error e) s') s :=
  wpC_call (codeC_mono h fun res s' g => by rcases g.1 with ⟨v, _, _, rfl, _⟩ | ⟨e, _, _, rfl, _⟩ <;> exact g)
theorem call_cellsC {prog : Program} {w : World} {A : Around} {R : Result → Shared → Prop} {s : Shared} {name : Str} {params : Arguments} {body : List Stmt} {scope : Scope}
    {pm cd doc : Value} {a : Addr} {o : Obj} {args : List Value} {binds : List (Str × Value)}
    (hroom : A.depth < recursionLimit) (ho : s.heap.get? a = some o) (hdata : o.data = .func (Calls.docDef name params body scope pm cd doc)) (hlim : s.heap.NoLimit) (hcd : s.heap.CodeRec cd name)
    (hbind : bindArgs (Calls.docDef name params body scope pm cd doc) ⟨args, []⟩ = pure binds)
    (hkind : ∀ x ∈ binds, scope.names.lookup x.1 = some .local ∨ (scope.names.lookup x.1 = some .cell ∧ ((cellsFrom (s.heap.objs.size + 1) scope.names []).lookup x.1).isSome = true))
    (hnd : ((cellsFrom 0 scope.names []).map (·.1)).Nodup)
    (h : ∀ h₁ tk cells, Fr s.heap s.heap.objs.size h₁ (bindL (envOfC name scope s.heap.objs.size a cd).kindOf binds fun _ => none) → News s.heap s.heap.objs.size h₁ cells →
      CellsAre (bindC (envOfC name scope s.heap.objs.size a cd).kindOf binds fun _ => none) (cellsFrom (s.heap.objs.size + 1) scope.names []) cells →
      wpC (model prog w) (A.deeper (envOfC name scope s.heap.objs.size a cd)) (execs body (envOfC name scope s.heap.objs.size a cd))
        (fun f s' => R (.ok (.ret (match f with | .ret v => v | _ => .none))) s') (fun _ _ => False) { s with heap := h₁, toks := tk })
    (hco : scope.isCoroutine = false := by rfl) (hgen : scope.isGenerator = false := by rfl) (hk : scope.kind = .function := by rfl) :
    codeC (model prog w) A (.call (.ref a) ⟨args, []⟩) R s := by
  refine codeC_call_function hroom ho hdata hco hgen rfl hcd ?_
  rw [hbind]
  refine wpAny_pure (wpAny_newFunctionEnv_cells hk hkind fun env he s' x => ?_)
  subst he
  refine ⟨hlim.keeps x.toInCall.keep, codeC_func ?_⟩
  obtain ⟨h₁, tk, rfl, _⟩ := x.done
  obtain ⟨cells, N, Y⟩ := Cl.news (h₀ := s.heap) (Nat.le_refl _) fun n c hm => ⟨x.cell n c (lookup_of_mem_nodup (cellsFrom_names scope.names 0 (s.heap.objs.size + 1) [] [] rfl ▸ hnd) hm), x.above n c hm⟩
  exact wpC_mono (h h₁ tk cells ⟨x.toInCall.ns, x.toInCall.keep, x.toInCall.fresh⟩ N Y) (fun _ _ z => z) fun _ _ z => z.elim
end Mine
end

section
open PySem PySem.W PyProof.Rows PySem.Calls PyProof.V
namespace Mine
def Hold (P : Prop) : Prop := P
theorem Hold.mk {P : Prop} (h : Hold P) : P := h
theorem Hold.out {P : Prop} (h : P) : Hold P := h

/-- what a loop's turn leaves: a datum c of the loop, laid in the ledger (Led c) and in the frame (ps c) -/
def TurnEnd {σ : Type} (h₀ : Heap) (L : Addr) (Led : σ → List (Addr × Obj)) (ps : σ → List (Str × Value)) (x : Str) (stored : List Str) (m₀ : Str → Option Value) (own : List (Addr × Obj)) (P : σ → Prop) (s₁ s₂ : Shared) : Prop :=
  ∃ c h' tk m' news', s₂ = { s₁ with heap := h', toks := tk } ∧ Fr h₀ L h' m' ∧ News h₀ L h' news' ∧ (∀ p ∈ Led c, p ∈ news') ∧ (∀ p ∈ own, p ∈ news') ∧
    (∀ p ∈ ps c, m' p.1 = some p.2) ∧ (∀ z, z ≠ x → (∀ p ∈ ps c, z ≠ p.1) → stored.contains z = false → m' z = m₀ z) ∧ P c
def TurnPost {σ : Type} (h₀ : Heap) (L : Addr) (Led : σ → List (Addr × Obj)) (ps : σ → List (Str × Value)) (x : Str) (stored : List Str) (m₀ : Str → Option Value) (own : List (Addr × Obj)) (P : σ → Prop) (Q : Flow → Shared → Prop) (s₁ : Shared) (f : Flow) (s₂ : Shared) : Prop :=
  match f with
  | .ret v => Q (.ret v) s₂
  | .brk => Q .next s₂
  | _ => TurnEnd h₀ L Led ps x stored m₀ own P s₁ s₂
section
variable {prog : Program} {w : World} {A : Around} {E : Value → Shared → Prop} {s : Shared} {env : Env} {h₀ : Heap} {x : Str} {body : List Stmt} {Q : Flow → Shared → Prop}
theorem for_rng {σ : Type} {r : Addr} {a₀ b₀ d₀ : Int} {t₀ u₀ v₀ : Tok} {n : Nat} {m₀ : Str → Option Value} (Led : σ → List (Addr × Obj)) (ps : σ → List (Str × Value)) (stored : List Str) (P : Nat → σ → Prop) (c₀ : σ) (adr : List Addr)
    (hh : A.handled = none) (hr : IsRange s.heap r a₀ b₀ d₀ t₀ u₀ v₀) (hsmall : Builtin.Range.small a₀ b₀ d₀ = true) (hn : Builtin.Range.rangeSize a₀ b₀ d₀ = (n : Int)) (F : Fr h₀ env.locals s.heap m₀) (N : News h₀ env.locals s.heap (Led c₀)) (hk : ∀ p ∈ ps c₀, m₀ p.1 = some p.2)
    (hadr : ∀ c, (Led c).map (·.1) = adr) (hp : P 0 c₀)
    (turn : ∀ (i : Nat) (c : σ) t (u : Str → Option Value) h tk own, i < n → P i c → OwnOff own adr →
      Fr h₀ env.locals h (fun y => if y = x then some (.int (a₀ + (i : Int) * d₀) t) else kstB (fun z => if stored.contains z then u z else m₀ z) (ps c) y) → News h₀ env.locals h (Led c ++ own) →
      wpAny (model prog w) A (execs body env) (TurnPost h₀ env.locals Led ps x stored m₀ own (P (i + 1)) Q { s with heap := h, toks := tk }) E { s with heap := h, toks := tk })
    (done : ∀ (c : σ) (u : Str → Option Value) h tk, P n c → Fr h₀ env.locals h (fun y => if y = x then u y else kstB (fun z => if stored.contains z then u z else m₀ z) (ps c) y) → News h₀ env.locals h (Led c) → Q .next { s with heap := h, toks := tk }) :
    wpAny (model prog w) A (pyIter (.ref r)) (fun it s₂ => LoopAtV prog w A h₀ env x body Q E it s₂) E s := by
  refine wpAny_pyIter_range hr hsmall ?_
  have W : Walks prog w A s.heap.objs.size [s.heap.objs.size] [s.heap.objs.size] n (fun i v => i < n ∧ ∃ t, v = .int (a₀ + i * d₀) t)
      (fun i h => IsRangeIter h s.heap.objs.size (a₀ + (i : Nat) * d₀) ((n : Int) - (i : Nat)) d₀) := (Walks.range hh _ a₀ d₀ n).bound
  refine loop_invN (fun i m nx => ∃ c : σ, nx = Led c ∧ (∀ p ∈ ps c, m p.1 = some p.2) ∧ (∀ z, z ≠ x → (∀ p ∈ ps c, z ≠ p.1) → stored.contains z = false → m z = m₀ z) ∧ P i c) W ?_ ?_ ?_ ?_ (by show IsRangeIter _ _ _ _ _; rw [hn]; simpa using Heap.get?_push_size _ rfl) (F.push _) (fun p hp => ⟨Heap.get?_push_of_some _ (N p hp).1, (N p hp).2⟩) ⟨c₀, rfl, hk, fun _ _ _ _ => rfl, hp⟩ ?_ ?_
  · intro hm
    exact absurd F.ns.lt ((List.mem_singleton.mp hm) ▸ Nat.lt_irrefl _)
  · intro b hb
    rw [List.mem_singleton.mp hb]
    exact next_is_new F
  · intro p hp hI
    exact absurd (Heap.lt_size (N p hp).1) ((List.mem_singleton.mp hI) ▸ Nat.lt_irrefl _)
  · intro p hp hI
    exact absurd (Heap.lt_size (N p hp).1) ((List.mem_singleton.mp hI) ▸ Nat.lt_irrefl _)
  · rintro i v m₁ nx h tk own hi ⟨_, t, rfl⟩ _ hoff ⟨c, rfl, h1, h2, hp'⟩ F₁ N₁
    rw [hadr] at hoff ⊢
    refine wpAny_mono (turn i c t m₁ h tk own hi hp' hoff (kst_fr h1 h2 F₁) N₁) (fun f s₂ q => ?_) fun _ _ y => y
    have up : TurnEnd h₀ env.locals Led ps x stored m₀ own (P (i + 1)) { s with heap := h, toks := tk } s₂ → InvEndN h₀ env.locals (fun m nx => ∃ c : σ, nx = Led c ∧ (∀ p ∈ ps c, m p.1 = some p.2) ∧ (∀ z, z ≠ x → (∀ p ∈ ps c, z ≠ p.1) → stored.contains z = false → m z = m₀ z) ∧ P (i + 1) c) own adr { s with heap := h, toks := tk } s₂ := by
      rintro ⟨c', h', tk', m', news', rfl, F', N', hl, ho, e1, e2, e3⟩
      exact ⟨h', tk', m', news', Led c', rfl, F', N', hl, ho, hadr c', c', rfl, e1, e2, e3⟩
    cases f with
    | ret v => exact q
    | brk => exact q
    | next => exact up q
    | cont => exact up q
  · rintro m₁ nx h tk ⟨c, rfl, h1, h2, hp'⟩ F₁ N₁
    exact done c m₁ h tk hp' (kst_frOut h1 h2 F₁) N₁
end
end Mine
end

section
open PySem PySem.W PyProof.Rows PySem.Calls
namespace Mine
theorem ba_slot_setitem : Slot "bytearray" "__setitem__" "bytearray.__setitem__" :=
  .of (owner := "bytearray") (n := "__setitem__") (by rw [typeLookup_type, builtinLookup_eq_fast]; kernel_rfl) (by decide +kernel) (by decide +kernel) (by decide +kernel)
    (by first | exact .inl (by decide +kernel) | exact .inr (by decide +kernel)) (by rw [isSubtype_type]; kernel_rfl)
theorem ba_entry_setitem : entryFor table "bytearray.__setitem__" = some Builtin.«bytearray.__setitem__» := by first | exact entryFor_of_fast (by kernel_rfl) | exact entryFor_of_tree (by kernel_rfl)
theorem ba_args_setitem (x i v : Value) : argsOk "bytearray.__setitem__" ⟨[x, i, v], []⟩ := by kernel_rfl
theorem ba_no_bytes : typeLookup (.type "bytearray") "__bytes__" = pure none := by rw [typeLookup_type, builtinLookup_eq_fast]; kernel_rfl
theorem ba_no_index : typeLookup (.type "bytearray") "__index__" = pure none := by rw [typeLookup_type, builtinLookup_eq_fast]; kernel_rfl
theorem ba_buffer : typeLookup (.type "bytearray") "__buffer__" = pure (some (.builtin "bytearray.__buffer__")) := by rw [typeLookup_type, builtinLookup_eq_fast]; kernel_rfl
def baObj (b : List UInt8) : Obj := { cls := .type "bytearray", data := .bytearray b.toArray }
section
variable {prog : Program} {w : World} {A : Around} {E : Value → Shared → Prop} {s : Shared}
theorem ba_set {a : Addr} {b : List UInt8} {k v : Int} {t u : Tok} {Q : Unit → Shared → Prop} (ho : s.heap.get? a = some (baObj b)) (h0 : 0 ≤ k) (hn : k < b.length) (hv0 : 0 ≤ v) (hv1 : v < 256) (hz : b.length ≤ 100000)
    (h : ∀ h', h'.get? a = some (baObj (b.set k.toNat v.toNat.toUInt8)) → Heap.SameBut a s.heap h' → Q () { s with heap := h' }) :
    wpAny (model prog w) A (setItem (.ref a) (.int k t) (.int v u)) Q E s := by
  have hT : s.TypeIs (.ref a) "bytearray" := ⟨_, ho, rfl⟩
  unfold setItem
  try with_reducible refine wpAny_holding ?_
  first | refine wpAny_bind (wpAny_pure ?_) | skip
  refine wpAny_bind (wpAny_sequenceKey hT (by decide) ?_)
  refine wpAny_bind (wpAny_callSpecial?_slot (name := Str.ofString "__setitem__") hT ba_slot_setitem
    (wpAny_call_entry ba_slot_setitem hT ba_entry_setitem ?_ (ba_args_setitem _ _ _)))
  show wpAny _ _ (Builtin.Bytes.subscript? (.int k t) >>= _) _ _ s
  have hfit : Builtin.Bytes.fitsIndex k = true := by
    unfold Builtin.Bytes.fitsIndex; simp only [Bool.and_eq_true, decide_eq_true_eq]; omega
  refine wpAny_bind ?_
  unfold Builtin.Bytes.subscript?
  refine wpAny_bind (wpAny_specialOf (T := "int") (typeIs_int _ _ _) F.slot_int_index.lookup ?_)
  refine bm_if_false rfl ?_
  refine wpAny_bind (wpAny_of_eq (rfl : asIndex (.int k t) = pure k) ?_)
  refine bm_if_false (by rw [hfit]; rfl) (wpAny_pure ?_)
  refine wpAny_bind ?_
  unfold Builtin.Bytes.byteValue
  refine wpAny_bind (wpAny_of_eq (rfl : asIndex (.int v u) = pure v) ?_)
  refine bm_if_false (by simp only [Bool.or_eq_false_iff, decide_eq_false_iff_not]; omega) (wpAny_pure ?_)
  refine wpAny_bind ?_
  unfold Builtin.Bytes.payload Builtin.Bytes.payload?
  refine wpAny_bind (wpAny_bind (wpAny_load ho (wpAny_pure ?_)))
  refine wpAny_pure ?_
  have hidx : seqIndex? k b.toArray.size = some k.toNat := by
    have hk : ¬ k < 0 := by omega
    simp [seqIndex?, hk, h0, hn]
  rw [hidx]
  refine wpAny_bind (ba_write ho rfl (b' := (b.set k.toNat v.toNat.toUInt8).toArray) (by simp) (by rw [List.size_toArray, List.length_set, sizeLine_eq]; omega) fun h' e1 e2 => ?_)
  exact wpAny_bind (wpAny_pure (wpAny_pure ⟨_, rfl, wpAny_pure (h h' e1 e2)⟩))
theorem ba_bytes_new {a : Addr} {b : List UInt8} {Q : Value → Shared → Prop} (ho : s.heap.get? a = some (baObj b)) (hz : b.length ≤ 100000) (hQ : ∀ t k, Q (.bytes b.toArray t) { s with toks := k }) :
    codeAny (model prog w) A (.call (.builtin "bytes.__new__") ⟨[.type "bytes", .ref a], []⟩) (wants Q E) s := by
  have hT : s.TypeIs (.ref a) "bytearray" := ⟨_, ho, rfl⟩
  refine codeAny_of_tree ?_
  show wpAny _ A.in1 (do checkBuiltinCall "bytes.__new__" ⟨[.type "bytes", .ref a], []⟩; again (.builtin "bytes.__new__" ⟨[.type "bytes", .ref a], []⟩)) _ _ s
  refine wpAny_bind (wpAny_of_eq (F.bm_newCall _) (wpAny_pure ⟨plainId_quiet F.bm_plain _, codeAny_builtin F.bm_entry ?_⟩))
  rw [Around.under_plainId F.bm_plain _]
  unfold Builtin.«bytes.__new__»
  refine wpAny_bind (wpAny_of_eq (a := true) rfl ?_)
  refine bm_if_false rfl ?_
  refine wpAny_bind (wpAny_of_eq F.bm_sub ?_)
  refine bm_if_false rfl ?_
  refine wpAny_bind (wpAny_of_eq (F.bm_bind _) ?_)
  refine wpAny_bind (wpAny_of_eq (a := ()) rfl ?_)
  refine wpAny_bind (wpAny_of_eq (a := ()) rfl ?_)
  refine bm_if_false rfl ?_
  refine wpAny_bind (wpAny_specialOf hT ba_no_bytes ?_)
  refine wpAny_bind (wpAny_bind ?_)
  show wpAny _ _ (load a >>= _) _ _ _
  refine wpAny_bind (wpAny_load ho ?_)
  refine wpAny_pure (wpAny_pure ?_)
  refine bm_if_false rfl ?_
  refine wpAny_bind (wpAny_specialOf hT ba_no_index ?_)
  refine bm_if_true rfl ?_
  first
    | show wpAny _ _ (Builtin.Bytes.buffer? "bytes.__new__" (.ref a) true >>= _) _ _ _
    | (refine wpAny_bind ?_; show wpAny _ _ (Builtin.Bytes.buffer? "bytes.__new__" (.ref a) true >>= _) _ _ _)
  refine wpAny_bind ?_
  unfold Builtin.Bytes.buffer?
  refine wpAny_bind (wpAny_specialOf hT ba_buffer ?_)
  refine wpAny_bind ?_
  unfold Builtin.Bytes.slotIsOwn
  refine wpAny_bind (wpAny_specialOf hT ba_buffer ?_)
  show wpAny _ _ (if _ then _ else _) _ _ _
  refine bm_if_false (by decide +kernel) ?_
  have e : "bytearray.__buffer__".dropRight ("__buffer__".length + 1) = "bytearray" := by decide +kernel
  rw [e]
  refine wpAny_isInstance hT ba_sub ?_
  refine bm_if_false rfl ?_
  refine wpAny_bind (wpAny_specialOf hT ba_buffer ?_)
  refine wpAny_bind (ba_ownRelease hT ?_)
  refine bm_if_false rfl ?_
  refine wpAny_bind ?_
  unfold Builtin.Bytes.payload Builtin.Bytes.payload?
  refine wpAny_bind (wpAny_bind (wpAny_load ho (wpAny_pure ?_)))
  refine wpAny_pure (wpAny_pure ?_)
  refine wpAny_bind (wpAny_rule ?_)
  refine wpAny_bind (wpAny_mkBytes ?_ (by rw [List.size_toArray, sizeLine_eq]; omega))
  show wpAny _ _ (if (Value.type "bytes" == Value.type "bytes") = true then _ else _) _ _ _
  refine bm_if_true (by decide) ?_
  first
    | exact wpAny_pure (hQ _ _)
    | exact wpAny_bind (wpAny_pure (wpAny_pure (hQ _ _)))
theorem ba_bytes {a : Addr} {b : List UInt8} {Q : Value → Shared → Prop} (ho : s.heap.get? a = some (baObj b)) (hz : b.length ≤ 100000) (hQ : ∀ t k, Q (.bytes b.toArray t) { s with toks := k }) :
    wpAny (model prog w) A (call (.type "bytes") [.ref a]) Q E s := by
  refine callType_codes (Q₁ := fun obj s₁ => s₁.TypeIs obj "bytes" ∧ Q obj s₁) F.bm_called (F.bm_typeCall _) F.entry_object_init
    (ba_bytes_new ho hz fun t k => ⟨PySem.W.typeIs_bytes _ _ _, hQ t k⟩) fun obj s₁ h₁ => ?_
  exact ⟨h₁.1, F.args_object_init_2 obj _, object_init_meets F.bm_called.init.lookup F.bm_called.made (by decide) prog w A.in1 _ s₁ ⟨h₁.1, rfl, h₁.2⟩⟩
end
end Mine
end

section
open PySem PySem.W PyProof.Rows PySem.Calls
namespace Mine
section
variable {prog : Program} {w : World} {A : Around} {E : Value → Shared → Prop} {s : Shared} {h₀ : Heap} {L : Addr} {m : Str → Option Value} {env : Env}
  {elt : Expr} {x : Str} {scope : Scope} {cl : List (Str × Addr)} {S : List (Addr × Obj) → Prop} {P : Nat → Value → Prop} {Fin : List Value → List (Addr × Obj) → Prop} {news : List (Addr × Obj)}
/-- a comprehension's turns, each leaving the ledger as it was and a value that fits its place -/
theorem rest_V {n : Nat} (V : Nat → Value → Prop)
    (turn : ∀ (i : Nat) v I oI C oC D m₂ ys h tk, i < n → P i v → LCg.NsObj oC m₂ → m₂ x = some v → Fr h₀ L h m → News h₀ L h ((I, oI) :: (C, oC) :: (D, LCg.lst ys) :: news) → LCg.Off3 I C D news → ((@Ne Nat I C) ∧ (@Ne Nat I D) ∧ (@Ne Nat C D)) →
      wpAny (model prog w) A (eval elt (compEnvC scope cl C env)) (EltEnd h₀ L m ((I, oI) :: (C, oC) :: (D, LCg.lst ys) :: news) s (V i)) (fun _ _ => False) { s with heap := h, toks := tk })
    (hS : S news) (fin : ∀ ys, ys.length = n → (∀ i y, ys[i]? = some y → V i y) → Fin ys news) : LCg.CompRest prog w A h₀ L m env elt x scope cl s S P Fin n 0 [] news := by
  have key : ∀ (j i : Nat) (ys : List Value), i + j = n → ys.length = i → (∀ i y, ys[i]? = some y → V i y) → LCg.CompRest prog w A h₀ L m env elt x scope cl s S P Fin j i ys news := by
    intro j
    induction j with
    | zero =>
      intro i ys hi hl hy
      exact LCg.CompRest.zero (fin ys (by omega) hy)
    | succ j ih =>
      intro i ys hi hl hy
      refine LCg.CompRest.succ ?_
      intro v I oI C oC D m₂ h tk E' hv hC hx F N off ne
      refine wpAny_mono (turn i v I oI C oC D m₂ ys h tk (by omega) hv hC hx F N off ne) (fun y s₂ hq => ?_) fun _ _ e => e.elim
      obtain ⟨h', tk', rfl, F', N', hV⟩ := hq
      refine ⟨h', tk', news, rfl, F', N', off, hS, ih (i + 1) _ (by omega) (by simp [hl]) fun k z e => ?_⟩
      rw [List.getElem?_append] at e
      split at e
      · exact hy k z e
      · rw [List.getElem?_singleton] at e
        split at e
        · cases e
          have : k = i := by omega
          subst this; exact hV
        · cases e
  exact key n 0 [] (by omega) rfl (fun i y e => by simp at e)
end
section
variable {prog : Program} {w : World} {A : Around} {E : Value → Shared → Prop} {s : Shared} {h₀ : Heap} {L : Addr} {m : Str → Option Value} {env : Env}
theorem ListCompB {elt iter : Expr} {x : Str} {px : Pos} {scope : Scope} {cl : List (Str × Addr)} {pos : Pos} {Q : Value → Shared → Prop} (V : UInt8 → Value → Prop) (F₀ : Fr h₀ L s.heap m)
    (hclos : closureFor scope env = pure cl) (hcell : ∀ y ∈ scope.names, y.2 ≠ .cell) (hkind : scope.kind = .function)
    (hnames : ∀ y ∈ scope.names, y.2 = .local → scope.names.lookup y.1 = some .local) (hx : scope.names.lookup x = some .local) (hh : A.handled = none)
    (h : wpAny (model prog w) A (eval iter env) (fun xv s₁ => ∃ (d : List UInt8) (t : Tok) (news : List (Addr × Obj)), xv = .bytes d.toArray t ∧ Fr h₀ L s₁.heap m ∧ News h₀ L s₁.heap news ∧ d.length ≤ sizeLine ∧
      (∀ (c : UInt8) t I oI C oC D m₂ ys h tk, c ∈ d → LCg.NsObj oC m₂ → m₂ x = some (.int (c.toNat : Int) t) → Fr h₀ L h m → News h₀ L h ((I, oI) :: (C, oC) :: (D, LCg.lst ys) :: news) → LCg.Off3 I C D news → ((@Ne Nat I C) ∧ (@Ne Nat I D) ∧ (@Ne Nat C D)) →
        wpAny (model prog w) A (eval elt (compEnvC scope cl C env)) (EltEnd h₀ L m ((I, oI) :: (C, oC) :: (D, LCg.lst ys) :: news) s₁ (V c)) (fun _ _ => False) { s₁ with heap := h, toks := tk }) ∧
      (∀ ys, ys.length = d.length → (∀ (i : Nat) (c : UInt8) (y : Value), d[i]? = some c → ys[i]? = some y → V c y) → ∀ D h tk, Fr h₀ L h m → News h₀ L h ((D, LCg.lst ys) :: news) → LCg.Off1 D news → Q (.ref D) { s₁ with heap := h, toks := tk })) E s)
    (hs : ∀ x, foldedSetIterable iter env x = pure x := by intro _; rfl) :
    wpAny (model prog w) A (eval (.ListComp elt [⟨.Name x px, iter, [], 0⟩] scope pos) env) Q E s := by
  rw [eval_ListComp]
  refine wpAny_comprehension_free (use := none) rfl hs hclos hkind hnames (wpAny_mono h (fun xv s₁ h₁ => ?_) fun _ _ e => e)
  obtain ⟨d, t, news, rfl, F, N, hsz, turn, fin⟩ := h₁
  refine KBw.pyIter_bytes ?_
  have up : ∀ b o, s₁.heap.get? b = some o → (s₁.heap.push { cls := .type "bytes_iterator", data := .fields #[.bytes d.toArray t, .int 0 0] }).get? b = some o := fun b o e => Heap.get?_push_of_some _ e
  refine LCg.block_U (S := fun _ => True) (KBw.walks hh s₁.heap.objs.size d.toArray t) (by simpa using hsz) ?_ ?_ hcell hkind hx ?_ (fun b hb => ?_)
    (F.keeps up) (N.grown up) (Nat.ne_of_lt F.ns.lt) (next_is_new F) (fun p hp => Nat.ne_of_lt (Heap.lt_size (N p hp).1)) trivial (Fin := fun ys nw => nw = news ∧ ys.length = d.length ∧ ∀ (i : Nat) (c : UInt8) (y : Value), d[i]? = some c → ys[i]? = some y → V c y) ?_ ?_
  · intro i h st
    obtain ⟨o, e, _⟩ := st
    exact ⟨o, e⟩
  · intro i h h' o nw st e e' _ _ _
    obtain ⟨o', q, r⟩ := st
    rw [e] at q
    cases q
    exact ⟨o, e', r⟩
  · exact ⟨_, Heap.get?_push_size _ rfl, rfl, rfl⟩
  · rw [List.mem_singleton.mp hb]
    show s₁.heap.objs.size < (s₁.heap.push _).objs.size
    rw [Heap.size_push]; exact Nat.lt_succ_self _
  · refine rest_V (fun i y => ∀ c, d[i]? = some c → V c y) (fun i v I oI C oC D m₂ ys h tk hi hv hC hx' F' N' off ne => ?_) trivial (fun ys hl hy => ⟨rfl, by simpa using hl, fun i c y e1 e2 => hy i y e2 c e1⟩)
    obtain ⟨c, u, hc, rfl⟩ := hv
    have hc' : d[i]? = some c := by simpa using hc
    refine wpAny_mono (turn c u I oI C oC D m₂ ys h tk (List.mem_of_getElem? hc') hC hx' F' N' off ne) (fun y s₂ hq => ?_) fun _ _ e => e
    obtain ⟨h', tk', rfl, F'', N'', hV⟩ := hq
    exact ⟨h', tk', rfl, F'', N'', fun c' e => by rw [hc'] at e; cases e; exact hV⟩
  · intro D C h tk m' ys news' F' N' o1 hns hC₀ hD₀ hCL hDL hCD offC hfin
    obtain ⟨rfl, hl, hV⟩ := hfin
    refine ⟨m', hns, fun h'' hs'' => fin ys hl hV D h'' tk (F'.change hs'' hCL hC₀) (fun p hp => ?_) o1⟩
    refine ⟨hs''.extBut _ _ ?_ (N' p hp).1, (N' p hp).2⟩
    rcases List.mem_cons.mp hp with rfl | hp
    · exact Ne.symm hCD
    · exact offC p hp
end
end Mine
end

section
open PySem PySem.W PyProof.Rows PySem.Calls
namespace Mine
section
variable {prog : Program} {w : World} {A : Around} {E : Value → Shared → Prop} {s : Shared} {h₀ : Heap} {L : Addr} {m : Str → Option Value} {env : Env}
theorem ListCompR {elt iter : Expr} {x : Str} {px : Pos} {scope : Scope} {cl : List (Str × Addr)} {pos : Pos} {Q : Value → Shared → Prop} (V : Nat → Value → Prop) (F₀ : Fr h₀ L s.heap m)
    (hclos : closureFor scope env = pure cl) (hcell : ∀ y ∈ scope.names, y.2 ≠ .cell) (hkind : scope.kind = .function)
    (hnames : ∀ y ∈ scope.names, y.2 = .local → scope.names.lookup y.1 = some .local) (hx : scope.names.lookup x = some .local) (hh : A.handled = none)
    (h : wpAny (model prog w) A (eval iter env) (fun xv s₁ => Hold (∃ r a b t u v n news, xv = .ref r ∧ Fr h₀ L s₁.heap m ∧ News h₀ L s₁.heap news ∧ IsRange s₁.heap r a b 1 t u v ∧ Builtin.Range.small a b 1 = true ∧ Builtin.Range.rangeSize a b 1 = ((n : Nat) : Int) ∧ n ≤ sizeLine ∧
      (∀ (i : Nat) t I oI C oC D m₂ ys h tk, i < n → LCg.NsObj oC m₂ → m₂ x = some (.int (a + (i : Int)) t) → Fr h₀ L h m → News h₀ L h ((I, oI) :: (C, oC) :: (D, LCg.lst ys) :: news) → LCg.Off3 I C D news → ((@Ne Nat I C) ∧ (@Ne Nat I D) ∧ (@Ne Nat C D)) →
        wpAny (model prog w) A (eval elt (compEnvC scope cl C env)) (EltEnd h₀ L m ((I, oI) :: (C, oC) :: (D, LCg.lst ys) :: news) s₁ (V i)) (fun _ _ => False) { s₁ with heap := h, toks := tk }) ∧
      (∀ ys, ys.length = n → (∀ i y, ys[i]? = some y → V i y) → ∀ D h tk, Fr h₀ L h m → News h₀ L h ((D, LCg.lst ys) :: news) → LCg.Off1 D news → Q (.ref D) { s₁ with heap := h, toks := tk }))) E s)
    (hs : ∀ x, foldedSetIterable iter env x = pure x := by intro _; rfl) :
    wpAny (model prog w) A (eval (.ListComp elt [⟨.Name x px, iter, [], 0⟩] scope pos) env) Q E s := by
  rw [eval_ListComp]
  refine wpAny_comprehension_free (use := none) rfl hs hclos hkind hnames (wpAny_mono h (fun xv s₁ h₁ => ?_) fun _ _ e => e)
  obtain ⟨r, a, b, t, u, v, n, news, rfl, F, N, hr, hsm, hn, hsz, turn, fin⟩ := h₁
  refine wpAny_pyIter_range hr hsm ?_
  have up : ∀ b' o (q : Obj), s₁.heap.get? b' = some o → (s₁.heap.push q).get? b' = some o := fun b' o q e => Heap.get?_push_of_some _ e
  refine LCg.block_U (S := fun _ => True) (LCg.range_walks (I := s₁.heap.objs.size) hh a n) hsz ?_ ?_ hcell hkind hx ?_ (fun b hb => ?_)
    (F.keeps fun _ _ e => up _ _ _ e) (N.grown fun _ _ e => up _ _ _ e) (Nat.ne_of_lt F.ns.lt) (next_is_new F) (fun p hp => Nat.ne_of_lt (Heap.lt_size (N p hp).1)) trivial (Fin := fun ys nw => nw = news ∧ ys.length = n ∧ ∀ (i : Nat) (y : Value), ys[i]? = some y → V i y) ?_ ?_
  · intro i h st
    exact ⟨_, st⟩
  · intro i h h' o nw st e e' k1 k2 k3
    exact LCg.range_st (h₀ := h₀) (L := L) _ _ _ _ nw st e e' k1 k2 k3
  · show IsRangeIter _ _ _ _ _
    rw [hn]; simpa using Heap.get?_push_size _ rfl
  · rw [List.mem_singleton.mp hb]
    show s₁.heap.objs.size < (s₁.heap.push _).objs.size
    rw [Heap.size_push]; exact Nat.lt_succ_self _
  · refine rest_V V (fun i v I oI C oC D m₂ ys h tk hi hv hC hx' F' N' off ne => ?_) trivial (fun ys hl hy => ⟨rfl, hl, hy⟩)
    obtain ⟨t, rfl⟩ := hv
    exact turn i t I oI C oC D m₂ ys h tk hi hC hx' F' N' off ne
  · intro D C h tk m' ys news' F' N' o1 hns hC₀ hD₀ hCL hDL hCD offC hfin
    obtain ⟨rfl, hl, hV⟩ := hfin
    refine ⟨m', hns, fun h'' hs'' => fin ys hl hV D h'' tk (F'.change hs'' hCL hC₀) (fun p hp => ?_) o1⟩
    refine ⟨hs''.extBut _ _ ?_ (N' p hp).1, (N' p hp).2⟩
    rcases List.mem_cons.mp hp with rfl | hp
    · exact Ne.symm hCD
    · exact offC p hp
end
end Mine
end

section
open PySem PySem.W PyProof.Rows PySem.Calls
namespace Mine
section
variable {prog : Program} {w : World} {A : Around} {E : Value → Shared → Prop} {s : Shared} {h₀ : Heap} {L : Addr} {m : Str → Option Value} {env : Env}
theorem AssignCompR {elt iter : Expr} {x y : Str} {px py : Pos} {scope : Scope} {cl : List (Str × Addr)} {pos spos : Pos} {Q : Flow → Shared → Prop} (V : Nat → Value → Prop) (F₀ : Fr h₀ L s.heap m) (hLe : env.locals = L)
    (hsw : swapsWith (.ListComp elt [⟨.Name x px, iter, [], 0⟩] scope pos) (some (.Name y py)) spos.line env = pure true)
    (hclos : closureFor scope env = pure cl) (hcell : ∀ y ∈ scope.names, y.2 ≠ .cell) (hkind : scope.kind = .function)
    (hnames : ∀ y ∈ scope.names, y.2 = .local → scope.names.lookup y.1 = some .local) (hx : scope.names.lookup x = some .local)
    (hy : env.kindOf y = some .local) (hp : (env.scope.kind == .class || (env.scope.kind == .module && env.locals != env.globals)) = false) (hh : A.handled = none)
    (h : wpAny (model prog w) A (eval iter env) (fun xv s₁ => Hold (∃ r a b t u v n news, xv = .ref r ∧ Fr h₀ L s₁.heap m ∧ News h₀ L s₁.heap news ∧ IsRange s₁.heap r a b 1 t u v ∧ Builtin.Range.small a b 1 = true ∧ Builtin.Range.rangeSize a b 1 = ((n : Nat) : Int) ∧ n ≤ sizeLine ∧
      (∀ (i : Nat) t I oI C oC D m₂ ys h tk, i < n → LCg.NsObj oC m₂ → m₂ x = some (.int (a + (i : Int)) t) → Fr h₀ L h m → News h₀ L h ((I, oI) :: (C, oC) :: (D, LCg.lst ys) :: news) → LCg.Off3 I C D news → ((@Ne Nat I C) ∧ (@Ne Nat I D) ∧ (@Ne Nat C D)) →
        wpAny (model prog w) A (eval elt (compEnvC scope cl C env)) (EltEnd h₀ L m ((I, oI) :: (C, oC) :: (D, LCg.lst ys) :: news) s₁ (V i)) (fun _ _ => False) { s₁ with heap := h, toks := tk }) ∧
      (∀ ys, ys.length = n → (∀ i y, ys[i]? = some y → V i y) → ∀ D h tk, Fr h₀ L h (fun z => if z = y then some (.ref D) else m z) → News h₀ L h ((D, LCg.lst ys) :: news) → LCg.Off1 D news → Q .next { s₁ with heap := h, toks := tk }))) E s)
    (hs : ∀ x, foldedSetIterable iter env x = pure x := by intro _; rfl) :
    wpAny (model prog w) A (exec (.Assign [.Name y py] (.ListComp elt [⟨.Name x px, iter, [], 0⟩] scope pos) spos) env) Q E s := by
  refine LCg.Assign_ListComp_U F₀ hLe hsw hclos hcell hkind hnames hx hy hp (wpAny_mono h (fun xv s₁ h₁ => ?_) fun _ _ e => e) hs
  obtain ⟨r, a, b, t, u, v, n, news, rfl, F, N, hr, hsm, hn, hsz, turn, fin⟩ := h₁
  refine LCg.CompSrc.range hh F N hr hsm hn hsz fun g => ?_
  refine rest_V V (fun i v I oI C oC D m₂ ys h tk hi hv hC hx' F' N' off ne => ?_) trivial (fun ys hl hy D h tk F' N' o => fin ys hl hy D h tk F' N' o)
  obtain ⟨t, rfl⟩ := hv
  exact turn i t I oI C oC D m₂ ys h tk hi hC hx' F' N' off ne
theorem ListCompL {elt iter : Expr} {x : Str} {px : Pos} {scope : Scope} {cl : List (Str × Addr)} {pos : Pos} {Q : Value → Shared → Prop} (V : Value → Prop) (F₀ : Fr h₀ L s.heap m)
    (hclos : closureFor scope env = pure cl) (hcell : ∀ y ∈ scope.names, y.2 ≠ .cell) (hkind : scope.kind = .function)
    (hnames : ∀ y ∈ scope.names, y.2 = .local → scope.names.lookup y.1 = some .local) (hx : scope.names.lookup x = some .local) (hh : A.handled = none)
    (h : wpAny (model prog w) A (eval iter env) (fun xv s₁ => Hold (∃ ax vs ns k news, xv = .ref ax ∧ Fr h₀ L s₁.heap m ∧ News h₀ L s₁.heap news ∧ (ax, listOf (vs : List Value).toArray k) ∈ news ∧ IntsAre vs ns ∧ ns.length ≤ 1000 ∧
      (∀ (c : Int) t I oI C oC D m₂ ys h tk, LCg.NsObj oC m₂ → m₂ x = some (.int c t) → Fr h₀ L h m → News h₀ L h ((I, oI) :: (C, oC) :: (D, LCg.lst ys) :: news) → LCg.Off3 I C D news → ((@Ne Nat I C) ∧ (@Ne Nat I D) ∧ (@Ne Nat C D)) →
        wpAny (model prog w) A (eval elt (compEnvC scope cl C env)) (EltEnd h₀ L m ((I, oI) :: (C, oC) :: (D, LCg.lst ys) :: news) s₁ V) (fun _ _ => False) { s₁ with heap := h, toks := tk }) ∧
      (∀ ys, ys.length = ns.length → (∀ (i : Nat) y, ys[i]? = some y → V y) → ∀ D h tk, Fr h₀ L h m → News h₀ L h ((D, LCg.lst ys) :: news) → LCg.Off1 D news → Q (.ref D) { s₁ with heap := h, toks := tk }))) E s)
    (hs : ∀ x, foldedSetIterable iter env x = pure x := by intro _; rfl) :
    wpAny (model prog w) A (eval (.ListComp elt [⟨.Name x px, iter, [], 0⟩] scope pos) env) Q E s := by
  refine LCg.ListComp_U F₀ hclos hcell hkind hnames hx (wpAny_mono h (fun xv s₁ h₁ => ?_) fun _ _ e => e) hs
  obtain ⟨ax, vs, ns, k, news, rfl, F, N, hm, hi, hsz, turn, fin⟩ := h₁
  have hl := hi.length
  refine LCg.CompSrc.ledger hh F N hm (by rw [List.size_toArray, sizeLine_eq]; omega) fun g => ?_
  rw [List.size_toArray]
  refine rest_V (fun _ y => V y) (fun i v I oI C oC D m₂ ys h tk hi' hv hC hx' F' N' off ne => ?_) (.inr ⟨_, hm, rfl, _, rfl⟩) (fun ys hl' hy D h tk F' N' o => fin ys (hl'.trans hl) hy D h tk F' N' o)
  have hv' : vs[i]? = some v := by simpa using hv
  obtain ⟨c, t, rfl⟩ : ∃ c t, v = .int c t := by
    clear hv hx' turn fin hl hm N' N F' F hsz hi'
    induction hi generalizing i with
    | nil => simp at hv'
    | cons c t _ ih =>
      cases i with
      | zero => simp at hv'; exact ⟨c, t, hv'.symm⟩
      | succ i => exact ih i (by simpa using hv')
  exact turn c t I oI C oC D m₂ ys h tk hC hx' F' N' off ne
end
end Mine
end

section
open PySem PySem.W PyProof.Rows PySem.Calls PyProof.V
namespace Mine
def LstPost (h₀ : Heap) (L : Addr) (x : Str) (stored : List Str) (m₀ : Str → Option Value) (led : List (Addr × Obj)) (Q : Flow → Shared → Prop) (s₁ : Shared) (f : Flow) (s₂ : Shared) : Prop :=
  match f with
  | .ret v => Q (.ret v) s₂
  | .brk => Q .next s₂
  | _ => ∃ h' tk' m', s₂ = { s₁ with heap := h', toks := tk' } ∧ Fr h₀ L h' m' ∧ News h₀ L h' led ∧ ∀ z, z ≠ x → stored.contains z = false → m' z = m₀ z
section
variable {prog : Program} {w : World} {A : Around} {E : Value → Shared → Prop} {s : Shared} {env : Env} {h₀ : Heap} {x : Str} {body : List Stmt} {Q : Flow → Shared → Prop}
theorem for_lst {l : Addr} {vs : List Value} {ns : List Int} {nn : Nat} {m₀ : Str → Option Value} {news : List (Addr × Obj)} (stored : List Str)
    (hh : A.handled = none) (hl : (l, listOf vs.toArray nn) ∈ news) (hi : IntsAre vs ns) (F : Fr h₀ env.locals s.heap m₀) (N : News h₀ env.locals s.heap news)
    (turn : ∀ (i : Nat) n t (u : Str → Option Value) h tk own, ns[i]? = some n → OwnOff own (news.map (·.1)) →
      Fr h₀ env.locals h (fun y => if y = x then some (.int n t) else if stored.contains y then u y else m₀ y) → News h₀ env.locals h (news ++ own) →
      wpAny (model prog w) A (execs body env) (LstPost h₀ env.locals x stored m₀ (news ++ own) Q { s with heap := h, toks := tk }) E { s with heap := h, toks := tk })
    (done : ∀ (u : Str → Option Value) h tk, Fr h₀ env.locals h (fun y => if y = x then u y else if stored.contains y then u y else m₀ y) → News h₀ env.locals h news → Q .next { s with heap := h, toks := tk }) :
    wpAny (model prog w) A (pyIter (.ref l)) (fun it s₂ => LoopAtV prog w A h₀ env x body Q E it s₂) E s := by
  have eqm : ∀ {m₁ : Str → Option Value}, (∀ z, z ≠ x → stored.contains z = false → m₁ z = m₀ z) → ∀ v : Str → Option Value, (fun y => if y = x then v y else m₁ y) = fun y => if y = x then v y else if stored.contains y = true then m₁ y else m₀ y := fun {m₁} h v => by
    funext y
    by_cases hy : y = x
    · rw [if_pos hy, if_pos hy]
    · rw [if_neg hy, if_neg hy]
      cases hs : stored.contains y with
      | true => rfl
      | false => exact h y hy hs
  refine iter_invNL (fun _ m nx => nx = news ∧ ∀ z, z ≠ x → stored.contains z = false → m z = m₀ z) hh hl hi F N ⟨rfl, fun _ _ _ => rfl⟩ ?_ ?_
  · rintro i n t m₁ nx h tk own hn _ hoff _ ⟨rfl, hm⟩ F₁ N₁
    have F₂ : Fr h₀ env.locals h (fun y => if y = x then some (.int n t) else if stored.contains y = true then m₁ y else m₀ y) := by
      rw [← eqm hm (fun _ => some (.int n t))]; exact F₁
    refine wpAny_mono (turn i n t m₁ h tk own hn hoff F₂ N₁) (fun f s₂ q => ?_) fun _ _ y => y
    have up : (∃ h' tk' m', s₂ = { { s with heap := h, toks := tk } with heap := h', toks := tk' } ∧ Fr h₀ env.locals h' m' ∧ News h₀ env.locals h' (nx ++ own) ∧ ∀ z, z ≠ x → stored.contains z = false → m' z = m₀ z) →
        InvEndN h₀ env.locals (fun m' nx' => (l, listOf vs.toArray nn) ∈ nx' ∧ nx' = nx ∧ ∀ z, z ≠ x → stored.contains z = false → m' z = m₀ z) own (nx.map (·.1)) { s with heap := h, toks := tk } s₂ := by
      rintro ⟨h', tk', m', rfl, F', N', e⟩
      exact ⟨h', tk', m', nx ++ own, nx, rfl, F', N', fun p hp => List.mem_append_left _ hp, fun p hp => List.mem_append_right _ hp, rfl, hl, rfl, e⟩
    cases f with
    | ret v => exact q
    | brk => exact q
    | next => exact up q
    | cont => exact up q
  · rintro m₁ nx h tk _ ⟨rfl, hm⟩ F₁ N₁
    refine done m₁ h tk ?_ N₁
    have := eqm hm m₁
    have e2 : (fun y => if y = x then m₁ y else m₁ y) = m₁ := by funext y; split <;> rfl
    rw [← this, e2]; exact F₁
end
section
variable {prog : Program} {w : World} {A : Around} {E : Value → Shared → Prop} {s : Shared} {h₀ : Heap} {L : Addr} {m : Str → Option Value} {env : Env}
theorem ListCompJ {elt iter : Expr} {x : Str} {px : Pos} {scope : Scope} {cl : List (Str × Addr)} {pos : Pos} {Q : Value → Shared → Prop} {news : List (Addr × Obj)} (V : Value → Prop) (F₀ : Fr h₀ L s.heap m) (_N₀ : News h₀ L s.heap news)
    (hclos : closureFor scope env = pure cl) (hcell : ∀ y ∈ scope.names, y.2 ≠ .cell) (hkind : scope.kind = .function)
    (hnames : ∀ y ∈ scope.names, y.2 = .local → scope.names.lookup y.1 = some .local) (hx : scope.names.lookup x = some .local) (hh : A.handled = none)
    (h : wpAny (model prog w) A (eval iter env) (fun xv s₁ => Hold (∃ ax vs ns k h' tk, xv = .ref ax ∧ s₁ = { s with heap := h', toks := tk } ∧ Fr h₀ L h' m ∧ News h₀ L h' ((ax, listOf (vs : List Value).toArray k) :: news) ∧ IntsAre vs ns ∧ ns.length ≤ 1000)) E s)
    (turn : ∀ (ax : Addr) (vs : List Value) (k : Nat) (c : Int) t I oI C oC D m₂ ys h tk, LCg.NsObj oC m₂ → m₂ x = some (.int c t) → Fr h₀ L h m → News h₀ L h ((I, oI) :: (C, oC) :: (D, LCg.lst ys) :: (ax, listOf vs.toArray k) :: news) →
        wpAny (model prog w) A (eval elt (compEnvC scope cl C env)) (EltEnd h₀ L m ((I, oI) :: (C, oC) :: (D, LCg.lst ys) :: (ax, listOf vs.toArray k) :: news) s V) (fun _ _ => False) { s with heap := h, toks := tk })
    (fin : ∀ ys, (∀ (i : Nat) y, ys[i]? = some y → V y) → ∀ D h tk, Fr h₀ L h m → News h₀ L h ((D, LCg.lst ys) :: news) → LCg.Off1 D news → Q (.ref D) { s with heap := h, toks := tk })
    (hs : ∀ x, foldedSetIterable iter env x = pure x := by intro _; rfl) :
    wpAny (model prog w) A (eval (.ListComp elt [⟨.Name x px, iter, [], 0⟩] scope pos) env) Q E s := by
  refine ListCompL V F₀ hclos hcell hkind hnames hx hh (wpAny_mono h (fun xv s₁ h₁ => ?_) fun _ _ e => e) hs
  obtain ⟨ax, vs, ns, k, h', tk, rfl, rfl, F, N, hi, hl⟩ := h₁
  refine ⟨ax, vs, ns, k, _, rfl, F, N, List.mem_cons_self, hi, hl, ?_, ?_⟩
  · intro c t I oI C oC D m₂ ys h tk hC hx' F' N' _ _
    exact turn ax vs k c t I oI C oC D m₂ ys h tk hC hx' F' N'
  · intro ys _ hV D h tk F' N' o
    refine fin ys hV D h tk F' (fun p hp => N' p ?_) o.2
    rcases List.mem_cons.mp hp with rfl | hp
    · exact List.mem_cons_self
    · exact List.mem_cons_of_mem _ (List.mem_cons_of_mem _ hp)
end
end Mine
end

section
open PySem PySem.W PyProof.Rows PySem.Spec PySem.Calls
namespace Mine
abbrev Ca (w : World) (mean : ExcName → Option Value) (mg mb : Str → Option Value) (f : Addr) (k : Nat) (news : List (Addr × Obj)) (pre : Prop) (vs : List Value) (R : Tok → Value) : Prop :=
  ∀ (dp un : Nat) (gd : Option (List Code)) (cn : Str) (cs : Scope) (a : Addr) (ccd : Value) (cl : List (Str × Addr)) (outer : List Env) (A₀ : Around) (base h₀ : Heap) (L : Addr) (m : Str → Option Value) (s : Shared) (Q E : Value → Shared → Prop),
    Below A₀ base outer h₀ → Fr h₀ L s.heap m → (hdC.heap_39 w.params).In h₀ → News h₀ L s.heap news → Top hdC.view_39 (looseW hdC.view_39 []) mean mg mb h₀ → cs.kind = .function → pre → dp + k < recursionLimit → un + 8 * k < cLine → CbRet h₀ L m news s Q R →
      wpAny (model PySem.Challenge.rw_ph0049_01.row.prog w) (ktrTop dp un gd cn cs L a ccd cl outer) (call (.ref f) vs) Q E s
theorem ca_use {w : World} {mean : ExcName → Option Value} {mg mb : Str → Option Value} {f : Addr} {k : Nat} {news : List (Addr × Obj)} {pre : Prop} {vs : List Value} {R : Tok → Value}
    {dp un : Nat} {gd : Option (List Code)} {cn : Str} {cs : Scope} {a : Addr} {ccd : Value} {cl : List (Str × Addr)} {outer : List Env} {A₀ : Around} {base h₀ : Heap} {L : Addr} {m : Str → Option Value} {s : Shared} {Q E : Value → Shared → Prop}
    (C : Ca w mean mg mb f k news pre vs R) (B : Below A₀ base outer h₀) (F : Fr h₀ L s.heap m) (X : (hdC.heap_39 w.params).In h₀) (N : News h₀ L s.heap news) (T : Top hdC.view_39 (looseW hdC.view_39 []) mean mg mb h₀) (hk : cs.kind = .function) (hp : pre) (hd : dp + k < recursionLimit) (hu : un + 8 * k < cLine)
    (h : ∀ t h' tk', Fr h₀ L h' m → News h₀ L h' news → Q (R t) { s with heap := h', toks := tk' }) :
    wpAny (model PySem.Challenge.rw_ph0049_01.row.prog w) (ktrTop dp un gd cn cs L a ccd cl outer) (call (.ref f) vs) Q E s := C dp un gd cn cs a ccd cl outer A₀ base h₀ L m s Q E B F X N T hk hp hd hu h

def subCost (x y : Str) : Int := if x == y then 0 else if Txt.lower x == Txt.lower y then 1 else 2

theorem sub_ca (w : World) (mean : ExcName → Option Value) (mg mb : Str → Option Value) (news : List (Addr × Obj)) (x y : Str) (t u : Tok) :
    Ca w mean mg mb 21 1 news (x.length ≤ 100 ∧ y.length ≤ 100) [.str x t, .str y u] (fun t => .int (subCost x y) t) := by
  unfold Ca; dsimp only [CbRet]
  w_top off
  k_fill
  intros; rename_i hpre _ _ hret
  obtain ⟨hx, hy⟩ := hpre
  refine wpAny_call ?_
  k_dflt cell_enter
  k_steps
  all_goals refine cb_retI hret ?_ (by assumption) (by assumption)
  all_goals (unfold subCost; simp_all)
end Mine
end

section
open PySem PySem.W PyProof.Rows PySem.Spec PySem.Calls
namespace Mine
abbrev Cc (w : World) (mean : ExcName → Option Value) (mg mb : Str → Option Value) (f : Addr) (k : Nat) (news : List (Addr × Obj)) (pre : Prop) (vs : List Value) (R : Tok → Value) : Prop :=
  ∀ (dp un : Nat) (cn : Str) (cs : Scope) (a : Addr) (ccd : Value) (cl : List (Str × Addr)) (outer : List Env) (A₀ : Around) (base h₀ : Heap) (L : Addr) (m : Str → Option Value) (s : Shared) (Q E : Value → Shared → Prop),
    Below A₀ base outer h₀ → Fr h₀ L s.heap m → (hdC.heap_39 w.params).In h₀ → News h₀ L s.heap news → Top hdC.view_39 (looseW hdC.view_39 []) mean mg mb h₀ → cs.kind = .function → pre → dp + k < recursionLimit → un + 8 * k < cLine → CbRet h₀ L m news s Q R →
      wpC (model PySem.Challenge.rw_ph0049_01.row.prog w) (ktrTop dp un (some []) cn cs L a ccd cl outer) (call (.ref f) vs) Q E s

section
variable {prog : Program} {w : World} {A : Around} {E : Value → Shared → Prop} {s : Shared} {h₀ : Heap} {L : Addr} {m : Str → Option Value} {news : List (Addr × Obj)}
theorem ba_call_K {n : Int} {t : Tok} {Q : Value → Shared → Prop} (hg : A.guards = some []) (h0 : 0 ≤ n) (h1 : n ≤ 100000) (F : Fr h₀ L s.heap m) (N : News h₀ L s.heap news)
    (h : ∀ x h', Fr h₀ L h' m → News h₀ L h' ((x, baObj (List.replicate n.toNat 0)) :: news) → (∀ p ∈ news, p.1 < x) → Q (.ref x) { s with heap := h' }) :
    wpC (model prog w) A (call (.type "bytearray") [.int n t]) Q E s := by
  refine ba_call hg h0 h1 fun h' e1 e2 => h _ h' (F.keeps e2) (fun p hp => ?_) (fun p hp => Heap.lt_size (N p hp).1)
  rcases List.mem_cons.mp hp with rfl | hp
  · exact ⟨by rw [e1]; simp [baObj], Nat.ne_of_gt F.ns.lt, next_is_new F⟩
  · exact ⟨e2 _ _ (N p hp).1, (N p hp).2⟩
theorem ba_set_K {a : Addr} {b : List UInt8} {x : UInt8} {k v : Int} {t u : Tok} {rest : List (Addr × Obj)} {Q : Unit → Shared → Prop} (F : Fr h₀ L s.heap m) (N : News h₀ L s.heap ((a, baObj b) :: rest)) (off : ∀ p ∈ rest, p.1 ≠ a) (h0 : 0 ≤ k) (hn : k < b.length) (hv : v = (x.toNat : Int)) (hz : b.length ≤ 100000)
    (h : ∀ h', Fr h₀ L h' m → News h₀ L h' ((a, baObj (b.set k.toNat x)) :: rest) → Q () { s with heap := h' }) :
    wpAny (model prog w) A (setItem (.ref a) (.int k t) (.int v u)) Q E s := by
  subst hv
  have z := N (a, baObj b) List.mem_cons_self
  have hx := x.toNat_lt
  refine ba_set z.1 h0 hn (by omega) (by omega) hz fun h' e1 e2 => ?_
  have ex : ((x.toNat : Int).toNat.toUInt8) = x := by simp
  rw [ex] at e1
  refine h h' (F.change e2 z.2.1 z.2.2) fun p hp => ?_
  rcases List.mem_cons.mp hp with rfl | hp
  · exact ⟨e1, z.2⟩
  · exact ⟨e2.extBut _ _ (off p hp) (N p (List.mem_cons_of_mem _ hp)).1, (N p (List.mem_cons_of_mem _ hp)).2⟩
end

def swInner (d : List UInt8) (k i : Nat) : Nat → List UInt8 → List UInt8
  | 0, o => o
  | j + 1, o => (swInner d k i j o).set (i + k - 1 - j) (d.getD (i + j) 0)
def swOuter (d : List UInt8) (k : Nat) : Nat → List UInt8
  | 0 => List.replicate d.length 0
  | q + 1 => swInner d k (q * k) k (swOuter d k q)
theorem swInner_length (d : List UInt8) (k i : Nat) (o : List UInt8) : ∀ j, (swInner d k i j o).length = o.length
  | 0 => rfl
  | j + 1 => by simp [swInner, swInner_length d k i o j]
theorem swOuter_length (d : List UInt8) (k : Nat) : ∀ q, (swOuter d k q).length = d.length
  | 0 => by simp [swOuter]
  | q + 1 => by simp [swOuter, swInner_length, swOuter_length d k q]
theorem rangeSize_blocks {n k q : Nat} (hk : 1 ≤ k) (h : n = q * k) : Builtin.Range.rangeSize 0 (n : Int) (k : Int) = (q : Int) := by
  unfold Builtin.Range.rangeSize
  rw [if_pos (by omega)]
  cases q with
  | zero => simp at h; subst h; simp
  | succ q =>
    have h1 : n = q * k + k := by rw [h, Nat.succ_mul]
    have hz : (0 : Int) < (n : Int) := by omega
    rw [if_pos hz]
    have e : (n : Int) - 0 - 1 = (k - 1 : Int) + (q : Int) * (k : Int) := by rw [h1]; push_cast; omega
    rw [e, Int.add_mul_ediv_right _ _ (by omega), Int.ediv_eq_zero_of_lt (by omega) (by omega)]
    push_cast; omega
theorem rangeSize_one (k : Nat) : Builtin.Range.rangeSize 0 (k : Int) 1 = (k : Int) := by
  unfold Builtin.Range.rangeSize
  split <;> (try split) <;> omega
theorem small_of {a b c : Int} (h1 : 0 ≤ a ∧ a ≤ 100000) (h2 : 0 ≤ b ∧ b ≤ 100000) (h3 : 0 ≤ c ∧ c ≤ 100000) : Builtin.Range.small a b c = true := by
  unfold Builtin.Range.small
  have hs : 0 ≤ Builtin.Range.rangeSize a b c ∧ Builtin.Range.rangeSize a b c ≤ 100001 := by
    unfold Builtin.Range.rangeSize
    split
    · rename_i hc
      split
      · have := Int.ediv_le_self (a := b - a - 1) c (by omega)
        have := Int.ediv_nonneg (a := b - a - 1) (b := c) (by omega) (by omega)
        omega
      · omega
    · have : c = 0 := by omega
      subst this
      split <;> simp
  simp only [Builtin.Range.rangeFitsLong, Bool.and_eq_true, Bool.or_eq_true, decide_eq_true_eq, beq_iff_eq]
  by_cases hc : c > 0
  · rw [if_pos hc]
    simp only [Bool.and_eq_true, decide_eq_true_eq]
    omega
  · rw [if_neg hc]
    simp only [Bool.and_eq_true, decide_eq_true_eq]
    omega

section
local macro_rules | `(tactic| walk_at "exec For Name Call cons nil") => `(tactic| refine Hold.mk ?_)
local macro_rules | `(tactic| walk_at "pyIter ref") => `(tactic| refine Hold.mk ?_)
theorem swap_cc (w : World) (mean : ExcName → Option Value) (mg mb : Str → Option Value) (news : List (Addr × Obj)) (d : List UInt8) (k q : Nat) (t u : Tok) :
    Cc w mean mg mb 35 1 news (1 ≤ k ∧ k ≤ 100 ∧ d.length = q * k ∧ d.length ≤ 100) [.bytes d.toArray t, .int (k : Int) u] (fun t => .bytes (swOuter d k q).toArray t) := by
  dsimp only [Cc, CbRet]
  w_top off
  k_fill
  intro dp un cn cs a ccd cl outer A₀ base h₀ L m s Q E B F X N T hk ⟨hk1, hk2, hdk, hd⟩ hdp hun hret
  refine wpC_call ?_
  refine' enterC ?k1 ?k2 ?k3 ?k4 ?k5 ?kA ?kF ?kK ?k6 ?k7 ?k8 ?k9 ?kB ?_ ?c2 ?c3 ?c4 ?c5
  case kA => exact rfl
  case kF => exact rfl
  case kK => assumption
  case k1 => k_asm
  case k2 => k_asm
  case k3 => k_asm
  case k4 => k_asm
  case k5 => k_asm
  case k6 => k_is
  case k7 => k_is
  case k8 => ktr_room
  case k9 => exact BindsTo.of_eq rfl
  case c5 => decide
  case kB => exact locs rfl
  case c2 => exact rfl
  case c3 => exact rfl
  case c4 => exact rfl
  intro g' L' h' FG' F' N' B' X' T' l1
  refine wpC_execs_cons (wpC_Assign (CallC ?_) rfl)
  k_steps
  refine callWithC_type ?_
  k_steps
  refine ba_call_K rfl (by omega) (by simp; omega) (by assumption) (by assumption) ?_
  intro x h'' F'' N'' l2
  k_steps
  refine wpC_of ?_
  k_steps
  refine Hold.out ?_
  rename_i F3 N3
  refine For_invV g' rfl rfl ?_
  k_steps
  refine Hold.out ?_
  rename IsRange _ _ _ _ _ _ _ _ => hr
  rename Fr _ _ _ _ => F4
  rename News _ _ _ _ => N4
  simp only [List.size_toArray] at hr N4
  have hsz : Builtin.Range.rangeSize 0 (d.length : Int) (k : Int) = (q : Int) := rangeSize_blocks hk1 hdk
  refine for_rng (σ := List UInt8) (n := q) (fun o => (x, baObj o) :: news) (fun _ => []) [Str.ofString "j"] (fun i o => o = swOuter d k i) (List.replicate d.length 0) (x :: news.map (·.1)) rfl hr (small_of (by omega) (by omega) (by omega)) hsz F4 N4 (by simp) (by simp) rfl ?_ ?_
  · intro i o t u h tk own hi ho hoff F5 N5
    subst ho
    k_steps
    refine Hold.out ?_
    rename_i F6 N6
    refine For_invV g' rfl rfl ?_
    k_steps
    refine Hold.out ?_
    rename IsRange _ _ _ _ _ _ _ _ => hr2
    rename Fr _ _ _ _ => F7
    rename News _ _ _ _ => N7
    refine for_rng (σ := List UInt8) (n := k) (fun o => (x, baObj o) :: news ++ own) (fun _ => []) [] (fun j o => o = swInner d k (i * k) j (swOuter d k i)) (swOuter d k i) (x :: news.map (·.1) ++ own.map (·.1)) rfl hr2 (small_of (by omega) (by omega) (by omega)) (rangeSize_one k) F7 N7 (by simp) (by simp) rfl ?_ ?_
    · intro j o t' u' h' tk' own' hj ho hoff' F8 N8
      subst ho
      have hb : i * k + k ≤ d.length := by rw [hdk, ← Nat.succ_mul]; exact Nat.mul_le_mul_right k hi
      k_steps
      have hl9 : (swInner d k (i * k) j (swOuter d k i)).length = d.length := by rw [swInner_length, swOuter_length]
      refine ba_set_K (x := d.getD (i * k + j) 0) (rest := news ++ own ++ own') F8 N8 ?_ (by omega) (by omega) ?_ (by omega) ?_
      · intro p hp
        rcases List.mem_append.mp hp with hp | hp
        · rcases List.mem_append.mp hp with hp | hp
          · exact Nat.ne_of_lt (l2 p hp)
          · exact hoff p hp x List.mem_cons_self
        · exact hoff' p hp x (by simp)
      · have e9 : (0 + (i : Int) * (k : Int) + (0 + (j : Int) * 1)) = ((i * k + j : Nat) : Int) := by push_cast; omega
        rw [e9, Int.toNat_natCast]
      · intro h9 F9 N9
        have e9 : (0 + (i : Int) * (k : Int) + (k : Int) - 1 - (0 + (j : Int) * 1)).toNat = i * k + k - 1 - j := by
          have : (0 + (i : Int) * (k : Int) + (k : Int) - 1 - (0 + (j : Int) * 1)) = ((i * k + k - 1 - j : Nat) : Int) := by omega
          rw [this, Int.toNat_natCast]
        rw [e9] at N9
        k_steps
        refine ⟨swInner d k (i * k) (j + 1) (swOuter d k i), _, _, _, _, rfl, F9, N9, ?_, ?_, by simp, ?_, rfl⟩
        · intro p hp
          simp only [List.cons_append, List.mem_cons, List.mem_append] at hp ⊢
          rcases hp with hp | hp | hp
          · exact .inl hp
          · exact .inr (.inl (.inl hp))
          · exact .inr (.inl (.inr hp))
        · intro p hp
          exact List.mem_cons_of_mem _ (List.mem_append_right _ hp)
        · intro z hz _ _
          simp [kstB, hz]
    · intro o u' h' tk' ho F9 N9
      subst ho
      k_steps
      refine ⟨swOuter d k (i + 1), _, _, _, _, rfl, F9, N9, ?_, ?_, by simp, ?_, rfl⟩
      · intro p hp
        exact List.mem_append_left _ hp
      · intro p hp
        exact List.mem_append_right _ hp
      · intro z hz _ hz2
        have hz3 : z ≠ Str.ofString "j" := by intro e; subst e; simp at hz2
        simp [kstB, hz, hz3]
  · intro o u' h' tk' ho F9 N9
    subst ho
    k_steps
    refine ba_bytes (b := swOuter d k q) (N9 _ List.mem_cons_self).1 (by rw [swOuter_length]; omega) fun t9 k9 => ?_
    refine leaveK_ F9 (fun p hp => N9 p (List.mem_cons_of_mem _ hp)) fun F10 N10 => ?_
    exact hret t9 h' k9 F10 N10
end
end Mine
end

section
open PySem PySem.W PyProof.Rows PySem.Spec PySem.Calls
namespace Mine
section
variable {prog : Program} {w : World} {A : Around} {E : Value → Shared → Prop} {s : Shared} {value slice : PySem.Expr} {d r : List UInt8} {t : Tok} {h₀ : Heap} {L : Addr} {m : Str → Option Value} {news : List (Addr × Obj)} {l u : Value} {lo hi : Option Int} {Q : Value → Shared → Prop}
theorem slice_L (hF : Fr h₀ L s.heap m) (hN : News h₀ L s.heap news) (hl : IsPart l lo) (hu : IsPart u hi) (hz : d.length ≤ 100000)
    (e : (d.drop (lo.elim 0 (clipAt d.length))).take (hi.elim d.length (clipAt d.length) - lo.elim 0 (clipAt d.length)) = r)
    (h : ∀ h' t' k, Fr h₀ L h' m → News h₀ L h' news → Q (.bytes r.toArray t') { s with heap := h', toks := k })
    (hs : subscripted slice false (.bytes d.toArray t) (.ref s.heap.objs.size) = operate [.ref s.heap.objs.size, .bytes d.toArray t] (getItem (.bytes d.toArray t) (.ref s.heap.objs.size)) := by with_unfolding_all rfl)
    (ht : ∀ r, letTemporaryGo value (.bytes d.toArray t) r = pure () := by intro _; with_unfolding_all rfl) :
    wpAny (model prog w) A (subscriptTail value slice (.bytes d.toArray t) (.ref s.heap.objs.size)) Q E { s with heap := s.heap.push { cls := .type "slice", data := .fields #[l, u, .none] } } := by
  refine KBc.slice_K (ks := KBw.bInts d.toArray) hF hN rfl hl hu (by rw [KBw.ints_length, List.size_toArray]; omega) (fun h' t' k F' N' _ => ?_) hs ht
  have e2 : KBy.picked d.toArray lo hi = r.toArray := by
    rw [KBc.picked_eq]; simp only [List.size_toArray]; rw [e]
  rw [e2]; exact h h' t' k F' N'
end
theorem ints_V {f : UInt8 → UInt8} : ∀ {d : List UInt8} {ys : List Value}, ys.length = d.length → (∀ (i : Nat) (c : UInt8) (y : Value), d[i]? = some c → ys[i]? = some y → ∃ t, y = Value.int ((f c).toNat : Int) t) → IntsAre ys (d.map fun c => ((f c).toNat : Int))
  | [], [], _, _ => .nil
  | c :: d, y :: ys, hl, h => by
    obtain ⟨t, rfl⟩ := h 0 c y rfl rfl
    exact .cons _ t (ints_V (by simpa using hl) fun i c' y' e1 e2 => h (i + 1) c' y' (by simpa using e1) (by simpa using e2))
  | [], _ :: _, hl, _ => by simp at hl
  | _ :: _, [], hl, _ => by simp at hl
section
variable {prog : Program} {w : World} {A : Around} {E : Value → Shared → Prop} {s : Shared} {h₀ : Heap} {L : Addr} {m : Str → Option Value} {news : List (Addr × Obj)} {Q : Value → Shared → Prop}
theorem bytes_V {D : Addr} {ys : List Value} {d : List UInt8} {f : UInt8 → UInt8} (F : Fr h₀ L s.heap m) (N : News h₀ L s.heap ((D, LCg.lst ys) :: news)) (hh : A.handled = none) (hl : ys.length = d.length) (hz : d.length ≤ 100000)
    (hV : ∀ (i : Nat) (c : UInt8) (y : Value), d[i]? = some c → ys[i]? = some y → ∃ t, y = Value.int ((f c).toNat : Int) t)
    (h : ∀ h' t k, Fr h₀ L h' m → News h₀ L h' ((D, LCg.lst ys) :: news) → Q (.bytes (d.map f).toArray t) { s with heap := h', toks := k }) : wpAny (model prog w) A (call (.type "bytes") [.ref D]) Q E s := by
  refine bytes_K F N (vs := ys) ⟨_, (N _ List.mem_cons_self).1, rfl, _, rfl⟩ (ints_V hl hV) (fun n hn => ?_) (by rw [sizeLine_eq]; omega) hh fun h' t k F' N' _ => ?_
  · obtain ⟨c, _, rfl⟩ := List.mem_map.mp hn
    have := (f c).toNat_lt
    omega
  · have e : (List.map (fun n : Int => n.toNat.toUInt8) (d.map fun c => ((f c).toNat : Int))) = d.map f := by
      rw [List.map_map]
      exact List.map_congr_left fun c _ => by simp
    rw [e]; exact h h' t k F' N'
end
theorem cc_use {w : World} {mean : ExcName → Option Value} {mg mb : Str → Option Value} {f : Addr} {k : Nat} {news : List (Addr × Obj)} {pre : Prop} {vs : List Value} {R : Tok → Value}
    {dp un : Nat} {cn : Str} {cs : Scope} {a : Addr} {ccd : Value} {cl : List (Str × Addr)} {outer : List Env} {A₀ : Around} {base h₀ : Heap} {L : Addr} {m : Str → Option Value} {s : Shared} {Q E : Value → Shared → Prop}
    (C : Cc w mean mg mb f k news pre vs R) (B : Below A₀ base outer h₀) (F : Fr h₀ L s.heap m) (X : (hdC.heap_39 w.params).In h₀) (N : News h₀ L s.heap news) (T : Top hdC.view_39 (looseW hdC.view_39 []) mean mg mb h₀) (hk : cs.kind = .function) (hp : pre) (hd : dp + k < recursionLimit) (hu : un + 8 * k < cLine)
    (h : ∀ t h' tk', Fr h₀ L h' m → News h₀ L h' news → Q (R t) { s with heap := h', toks := tk' }) :
    wpC (model PySem.Challenge.rw_ph0049_01.row.prog w) (ktrTop dp un (some []) cn cs L a ccd cl outer) (call (.ref f) vs) Q E s := C dp un cn cs a ccd cl outer A₀ base h₀ L m s Q E B F X N T hk hp hd hu h
theorem xor_byte (c : UInt8) : Builtin.bitXor (c.toNat : Int) 32 = ((c ^^^ 32).toNat : Int) := by
  have key : ∀ n : Fin 256, Builtin.bitXor ((UInt8.ofNat n.val).toNat : Int) 32 = ((UInt8.ofNat n.val ^^^ 32).toNat : Int) := by decide +kernel
  have := key ⟨c.toNat, c.toNat_lt⟩
  simpa using this
theorem swap_cc2 (w : World) (mean : ExcName → Option Value) (mg mb : Str → Option Value) (news : List (Addr × Obj)) (d : List UInt8) (k q : Nat) (kk : Int) (e : kk = (k : Int)) (t u : Tok) :
    Cc w mean mg mb 35 1 news (1 ≤ k ∧ k ≤ 100 ∧ d.length = q * k ∧ d.length ≤ 100) [.bytes d.toArray t, .int kk u] (fun t => .bytes (swOuter d k q).toArray t) := by
  subst e
  exact swap_cc w mean mg mb news d k q t u
def flip (d : List UInt8) : List UInt8 := d.map (· ^^^ 32)
def parts (d : List UInt8) (k : Nat) : List UInt8 :=
  (if k = 0 then flip (d.take k) else swOuter (flip (d.take k)) k 1) ++ swOuter (d.drop k) (d.length - k) 1
section
local macro_rules | `(tactic| walk_at "eval ListComp BinOp") => `(tactic| refine Hold.mk ?_)
local macro_rules | `(tactic| walk_at "subscriptTail Name Slice bytes ref") => `(tactic| refine Hold.mk ?_)
theorem parts_cc (w : World) (mean : ExcName → Option Value) (mg mb : Str → Option Value) (news : List (Addr × Obj)) (d : List UInt8) (k : Nat) (t u : Tok) :
    Cc w mean mg mb 40 2 news (k < d.length ∧ d.length ≤ 10) [.bytes d.toArray t, .int (k : Int) u] (fun t => .bytes (parts d k).toArray t) := by
  dsimp only [Cc, CbRet]
  w_top off
  k_fill
  intro dp un cn cs a ccd cl outer A₀ base h₀ L m s Q E B F X N T hk ⟨hk1, hd⟩ hdp hun hret
  refine wpC_call ?_
  refine' enterC ?k1 ?k2 ?k3 ?k4 ?k5 ?kA ?kF ?kK ?k6 ?k7 ?k8 ?k9 ?kB ?_ ?c2 ?c3 ?c4 ?c5
  case kA => exact rfl
  case kF => exact rfl
  case kK => assumption
  case k1 => k_asm
  case k2 => k_asm
  case k3 => k_asm
  case k4 => k_asm
  case k5 => k_asm
  case k6 => k_is
  case k7 => k_is
  case k8 => ktr_room
  case k9 => exact BindsTo.of_eq rfl
  case c5 => decide
  case kB => exact locs rfl
  case c2 => exact rfl
  case c3 => exact rfl
  case c4 => exact rfl
  intro g' L' h' FG' F' N' B' X' T' l1
  refine wpC_execs_any ?_
  k_steps
  refine Hold.out ?_
  refine ListCompB (cl := []) (fun c y => ∃ t, y = .int ((c ^^^ 32).toNat : Int) t) F' (by with_unfolding_all rfl) (by decide) (by rfl) (by decide) (by rfl) rfl ?_
  k_steps
  refine Hold.out ?_
  refine slice_L (r := d.take k) (s := ⟨_, _, _, _, _⟩) F' N' (by constructor) (by constructor) (by omega) ?_ ?_
  · simp only [Option.elim_none, Option.elim_some, clipAt_nat, List.drop_zero, Nat.sub_zero]
    rw [Nat.min_eq_left (by omega)]
  · intro h3 t3 k3 F3 N3
    refine ⟨_, _, _, rfl, F3, N3, ?_, ?_, ?_⟩
    · rw [List.length_take, sizeLine_eq]; omega
    · intro c t4 I oI C oC D m₂ ys h4 tk4 hc hC hx4 F4 N4 off ne
      k_steps
      exact ⟨_, _, rfl, F4, N4, _, by rw [xor_byte]⟩
    · intro ys hl hV D h5 tk5 F5 N5 o5
      k_steps
      refine bytes_V F5 N5 rfl hl (by rw [List.length_take]; omega) hV ?_
      intro h6 t6 k6 F6 N6
      k_steps
      refine Hold.out ?_
      refine slice_L (r := d.drop k) (s := ⟨_, _, _, _, _⟩) F6 N6 (by constructor) (by constructor) (by omega) ?_ ?_
      · simp only [Option.elim_none, Option.elim_some, clipAt_nat]
        rw [Nat.min_eq_left (by omega)]
        exact List.take_of_length_le (by rw [List.length_drop]; exact Nat.le_refl _)
      · intro h7 t7 k7 F7 N7
        k_steps
        refine wpC_execs_cons (wpC_Return (wpC_BinOp (wpC_IfExp ?_)))
        k_steps
        · refine CallC ?_
          k_steps
          refine callWithC (K := hdC.heap_39 w.params) (by k_is) (wpC_of ?_)
          k_steps
          rename Fr _ _ _ _ => F8
          rename News _ _ _ _ => N8
          refine cc_use (swap_cc w _ _ _ _ (flip (d.take k)) k 1 _ _) B' F8 X' N8 T' rfl ⟨by omega, by omega, by simp [flip]; omega, by simp [flip]; omega⟩ ?_ ?_ ?_
          · ktr_room
          · ktr_units
          · intro t9 h9 tk9 F9 N9
            refine CallC ?_
            k_steps
            refine callWithC (K := hdC.heap_39 w.params) (by k_is) (wpC_of ?_)
            k_steps
            rename Fr _ _ _ _ => F10
            rename News _ _ _ _ => N10
            refine cc_use (swap_cc2 w _ _ _ _ (d.drop k) (d.length - k) 1 _ (by simp only [List.size_toArray]; omega) _ _) B' F10 X' N10 T' rfl ⟨by omega, by omega, by simp, by simp; omega⟩ ?_ ?_ ?_
            · ktr_room
            · ktr_units
            · intro t11 h11 tk11 F11 N11
              refine KBy.add_bytes ?_ fun t12 k12 => ?_
              · simp only [List.size_toArray, swOuter_length, flip, List.length_map, List.length_take, List.length_drop]; omega
              · refine leaveK_ F11 (fun p hp => N11 p (List.mem_cons_of_mem _ (List.mem_cons_of_mem _ hp))) fun F13 N13 => ?_
                have e13 : (swOuter (flip (d.take k)) k 1).toArray ++ (swOuter (d.drop k) (d.length - k) 1).toArray = (parts d k).toArray := by
                  rw [parts, if_neg (by omega)]; simp
                dsimp only
                rw [e13]
                exact hret t12 h11 k12 F13 N13
        · refine wpC_of ?_
          k_steps
          refine CallC ?_
          k_steps
          refine callWithC (K := hdC.heap_39 w.params) (by k_is) (wpC_of ?_)
          k_steps
          rename Fr _ _ _ _ => F10
          rename News _ _ _ _ => N10
          refine cc_use (swap_cc2 w _ _ _ _ (d.drop k) (d.length - k) 1 _ (by simp only [List.size_toArray]; omega) _ _) B' F10 X' N10 T' rfl ⟨by omega, by omega, by simp, by simp; omega⟩ ?_ ?_ ?_
          · ktr_room
          · ktr_units
          · intro t11 h11 tk11 F11 N11
            refine KBy.add_bytes ?_ fun t12 k12 => ?_
            · simp only [List.size_toArray, swOuter_length, flip, List.length_map, List.length_take, List.length_drop]; omega
            · refine leaveK_ F11 (fun p hp => N11 p (List.mem_cons_of_mem _ (List.mem_cons_of_mem _ hp))) fun F13 N13 => ?_
              have e13 : (List.map (fun c => c ^^^ 32) (d.take k)).toArray ++ (swOuter (d.drop k) (d.length - k) 1).toArray = (parts d k).toArray := by
                rw [parts, if_pos (by omega)]; simp [flip]
              dsimp only
              rw [e13]
              exact hret t12 h11 k12 F13 N13
end
end Mine
end

section
open PySem PySem.W PyProof.Rows PySem.Spec PySem.Calls
namespace Mine
theorem by_slot_join : Slot "bytes" "join" "bytes.join" :=
  .of (owner := "bytes") (n := "join") (by rw [typeLookup_type, builtinLookup_eq_fast]; kernel_rfl) (by decide +kernel) (by decide +kernel) (by decide +kernel)
    (by first | exact .inl (by decide +kernel) | exact .inr (by decide +kernel)) (by rw [isSubtype_type]; kernel_rfl)
theorem by_entry_join : entryFor table "bytes.join" = some Builtin.«bytes.join» := by first | exact entryFor_of_fast (by kernel_rfl) | exact entryFor_of_tree (by kernel_rfl)
theorem by_args_join (x i : Value) : argsOk "bytes.join" ⟨[x, i], []⟩ := by kernel_rfl
theorem by_type_join : typeOf (.builtin "bytes.join") = pure (.type "method_descriptor") := by show builtinType _ = _; rw [builtinType_eq_fast]; kernel_rfl
section
variable {prog : Program} {w : World} {A : Around} {E : Value → Shared → Prop} {s : Shared} {t : Tok}
theorem join_get {M : Model} {b : Array UInt8} {pl : Sem Bool} {Q : Value × List Value → Shared → Prop} (h : Q (.builtin "bytes.join", [.bytes b t]) s) : wpAny M A (getMethod (.bytes b t) "join" pl) Q E s := by
  with_reducible exact KBd.method_of (.bytes b t) (typeIs_bytes _ _ _) by_slot_join by_type_join KBd.noRef h
def bysVal (l : List (List UInt8 × Tok)) : List Value := l.map fun p => .bytes p.1.toArray p.2
theorem by_buffer : typeLookup (.type "bytes") "__buffer__" = pure (some (.builtin "bytes.__buffer__")) := by rw [typeLookup_type, builtinLookup_eq_fast]; kernel_rfl
theorem by_no_release : typeLookup (.type "bytes") "__release_buffer__" = pure none := by rw [typeLookup_type, builtinLookup_eq_fast]; kernel_rfl
theorem by_sub : isSubtype (.type "bytes") (.type "bytes") = pure true := by rw [isSubtype_type]; kernel_rfl
theorem take_by {id : String} {b : Array UInt8} {Q : Option (Array UInt8 × Option Value) → Shared → Prop} (h : Q (some (b, none)) s) :
    wpAny (model prog w) A (Builtin.Bytes.takeBufferQuiet? id (.bytes b t) 0) Q E s := by
  have hT : s.TypeIs (.bytes b t) "bytes" := PySem.W.typeIs_bytes _ _ _
  have e : "bytes.__buffer__".dropRight ("__buffer__".length + 1) = "bytes" := by decide +kernel
  have own : ∀ {P : Bool → Shared → Prop} {E' : Value → Shared → Prop}, P true s → wpAny (model prog w) A (Builtin.Bytes.slotIsOwn (.bytes b t) "__buffer__") P E' s := fun {P E'} hP => by
    unfold Builtin.Bytes.slotIsOwn
    refine wpAny_bind (wpAny_specialOf hT by_buffer ?_)
    show wpAny _ _ (if _ then _ else _) _ _ _
    refine bm_if_false (by decide +kernel) ?_
    rw [e]
    exact wpAny_isInstance hT by_sub hP
  unfold Builtin.Bytes.takeBufferQuiet?
  refine wpAny_bind (wpAny_attempt ?_)
  unfold Builtin.Bytes.takeBuffer?
  refine wpAny_bind (wpAny_specialOf hT by_buffer ?_)
  refine wpAny_bind (own ?_)
  refine bm_if_false rfl ?_
  refine wpAny_bind (wpAny_specialOf hT by_buffer ?_)
  refine wpAny_bind ?_
  unfold Builtin.Bytes.buffer?
  refine wpAny_bind (wpAny_specialOf hT by_buffer ?_)
  refine wpAny_bind (own ?_)
  refine bm_if_false rfl ?_
  refine wpAny_bind (wpAny_specialOf hT by_buffer ?_)
  refine wpAny_bind ?_
  unfold Builtin.Bytes.ownRelease
  refine wpAny_bind ?_
  unfold Builtin.Bytes.slotIsOwn
  refine wpAny_bind (wpAny_specialOf hT by_no_release ?_)
  refine wpAny_pure (wpAny_pure ?_)
  refine bm_if_false rfl ?_
  refine wpAny_bind (wpAny_of_eq (a := b) rfl ?_)
  exact wpAny_pure (wpAny_pure (wpAny_pure h))
theorem joinLet_by {l : List (List UInt8 × Tok)} {keep : List Value} {Q : Unit → Shared → Prop} (h : Q () s) :
    wpAny (model prog w) A (Builtin.Bytes.joinLetGo (l.map fun p => ((Value.bytes p.1.toArray p.2 : Value), (none : Option Value))) keep) Q E s := by
  induction l with
  | nil => exact wpAny_pure h
  | cons p l ih =>
    unfold Builtin.Bytes.joinLetGo
    dsimp only [List.map_cons]
    exact wpAny_bind (wpAny_letGo ih)
theorem joined_flat (parts : List (Array UInt8)) : Builtin.Bytes.joined #[] parts = (parts.map (·.toList)).flatten.toArray := by
  unfold Builtin.Bytes.joined
  have key : ∀ (l : List (Array UInt8)) (i : Nat) (out : Array UInt8), (l.zipIdx i).foldl (fun out (p, i) => (if i > 0 then out ++ (#[] : Array UInt8) else out) ++ p) out = out ++ (l.map (·.toList)).flatten.toArray := by
    intro l
    induction l with
    | nil => intro i out; simp
    | cons p l ih =>
      intro i out
      rw [List.zipIdx_cons, List.foldl_cons, ih]
      apply Array.toList_inj.mp
      simp
  rw [key]; simp
theorem foldl_sizes (l : List (List UInt8 × Tok)) : ∀ a : Nat, (l.map (·.1.toArray)).toArray.foldl (· + ·.size) a = a + (l.map (·.1)).flatten.length := by
  intro a
  rw [List.foldl_toArray]
  induction l generalizing a with
  | nil => simp
  | cons p l ih => rw [List.map_cons, List.foldl_cons, ih]; simp; omega
theorem join_tree_by (t : Tok) {D : Addr} {k : Nat} {l : List (List UInt8 × Tok)} {Q : Value → Shared → Prop} (hD : s.heap.get? D = some (listOf (bysVal l).toArray k)) (h2 : 2 ≤ l.length) (hz : (l.map (·.1)).flatten.length ≤ 100000)
    (h : ∀ t' tk, Q (.bytes (l.map (·.1)).flatten.toArray t') { s with toks := tk }) :
    wpAny (model prog w) A (Builtin.«bytes.join» ⟨[.bytes #[] t, .ref D], []⟩) (fun fin s' => ∃ v, fin = .done (.ret v) ∧ Q v s') E s := by
  have hT : s.TypeIs (.ref D) "list" := ⟨_, hD, rfl⟩
  unfold Builtin.«bytes.join» Builtin.Bytes.joinM
  dsimp only
  refine wpAny_bind (wpAny_of_eq (a := (.bytes #[] t, .ref D)) rfl ?_)
  refine bm_if_true rfl ?_
  refine wpAny_bind ?_
  unfold Builtin.Bytes.joinItems
  refine wpAny_bind (wpAny_typeOf hT ?_)
  refine bm_if_true rfl (wpAny_pure ?_)
  refine wpAny_bind (wpAny_seqItems hD rfl ?_)
  dsimp only
  refine bm_if_true rfl ?_
  obtain ⟨p, q, r, rfl⟩ : ∃ p q r, l = p :: q :: r := by
    match l, h2 with
    | p :: q :: r, _ => exact ⟨p, q, r, rfl⟩
  refine wpAny_bind ?_
  rw [KPc.range_list]
  generalize hl : p :: q :: r = l at hD h2 hz h ⊢
  have hsz : (bysVal l).toArray.size = l.length := by simp [bysVal]
  rw [hsz]
  refine wpAny_forIn_list _ (fun rest b s' => s' = s ∧ ∃ i, i ≤ l.length ∧ rest = List.range' i (l.length - i) 1 ∧ b = (((l.take i).map (·.1.toArray)).toArray, (l.take i).map fun p => ((Value.bytes p.1.toArray p.2 : Value), (none : Option Value)))) _ ?_ ?_ _ _ ⟨rfl, 0, Nat.zero_le _, rfl, rfl⟩
  · rintro x rest b s' ⟨rfl, i, hi, hr, rfl⟩
    have hlt : i < l.length := by
      rcases Nat.lt_or_ge i l.length with h | h
      · exact h
      · rw [Nat.sub_eq_zero_of_le h] at hr; simp at hr
    have hn : l.length - i = (l.length - (i + 1)) + 1 := by omega
    rw [hn, List.range'_succ] at hr
    obtain ⟨rfl, rfl⟩ := List.cons.inj hr
    refine wpAny_bind (wpAny_seqItems hD rfl ?_)
    dsimp only
    refine bm_if_false ?_ ?_
    · have z : ((l.take x).map fun p => ((Value.bytes p.1.toArray p.2 : Value), (none : Option Value))).any (fun x => x.1.onHeap) = false := by
        rw [List.any_eq_false]
        intro q hq
        obtain ⟨p, _, rfl⟩ := List.mem_map.mp hq
        exact Bool.false_ne_true
      rw [z]; rfl
    obtain ⟨p, hp⟩ : ∃ p, l[x]? = some p := ⟨l[x], List.getElem?_eq_getElem hlt⟩
    have hv : (bysVal l).toArray.getD x Value.none = .bytes p.1.toArray p.2 := by
      rw [Array.getD_eq_getD_getElem?]; simp [bysVal, hp]
    rw [hv]
    refine wpAny_bind (wpAny_holding (take_by ?_))
    dsimp only
    refine wpAny_bind (wpAny_seqItems hD rfl ?_)
    dsimp only
    refine bm_if_false (by rw [hsz]; simp) (wpAny_pure ?_)
    refine ⟨rfl, x + 1, hlt, rfl, ?_⟩
    rw [List.take_add_one, hp]
    simp
  · rintro b s' ⟨rfl, i, hi, hr, rfl⟩
    have hil : i = l.length := by
      have := congrArg List.length hr
      simp at this; omega
    subst hil
    rw [List.take_length]
    dsimp only
    refine wpAny_bind (wpAny_of_eq (a := #[]) rfl ?_)
    refine bm_if_false ?_ ?_
    · unfold Builtin.Bytes.tooLong
      rw [foldl_sizes, sizeLine_eq]
      exact decide_eq_false (by simp; simp at hz; omega)
    rw [joined_flat]
    refine wpAny_bind (wpAny_mkBytes ?_ ?_)
    · refine wpAny_bind (wpAny_holding (wpAny_point ?_))
      refine wpAny_bind (joinLet_by ?_)
      refine wpAny_pure ⟨_, rfl, ?_⟩
      have e : (List.map (fun x : Array UInt8 => x.toList) (List.map (fun x : List UInt8 × Tok => x.1.toArray) l).toArray.toList) = l.map (·.1) := by simp
      rw [e]
      exact h _ _
    · have e : (List.map (fun x : Array UInt8 => x.toList) (List.map (fun x : List UInt8 × Tok => x.1.toArray) l).toArray.toList) = l.map (·.1) := by simp
      rw [e, sizeLine_eq, List.size_toArray]; omega
theorem join_by (t : Tok) {D : Addr} {k : Nat} {l : List (List UInt8 × Tok)} {Q : Value → Shared → Prop} (hD : s.heap.get? D = some (listOf (bysVal l).toArray k)) (h2 : 2 ≤ l.length) (hz : (l.map (·.1)).flatten.length ≤ 100000)
    (h : ∀ t' tk, Q (.bytes (l.map (·.1)).flatten.toArray t') { s with toks := tk }) :
    wpAny (model prog w) A (call (.builtin "bytes.join") [.bytes #[] t, .ref D]) Q E s := by
  refine wpAny_call_entry by_slot_join (PySem.W.typeIs_bytes _ _ _) by_entry_join ?_ (by_args_join _ _)
  exact join_tree_by t hD h2 hz h
end
end Mine
end

section
open PySem PySem.W PyProof.Rows PySem.Spec PySem.Calls
namespace Mine
theorem ints_some : ∀ {ys : List Value} {P : Nat → Int → Prop}, (∀ i y, ys[i]? = some y → ∃ e t, P i e ∧ y = Value.int e t) → ∃ es, IntsAre ys es ∧ es.length = ys.length ∧ ∀ i e, es[i]? = some e → P i e
  | [], P, _ => ⟨[], .nil, rfl, fun i e h => by simp at h⟩
  | y :: ys, P, h => by
    obtain ⟨e, t, hp, rfl⟩ := h 0 y rfl
    obtain ⟨es, h1, h2, h3⟩ := ints_some (P := fun i e => P (i + 1) e) fun i y hy => h (i + 1) y (by simpa using hy)
    refine ⟨e :: es, .cons _ t h1, by simp [h2], fun i e' he => ?_⟩
    cases i with
    | zero => simp at he; subst he; exact hp
    | succ i => exact h3 i e' (by simpa using he)
theorem bys_some {f : Nat → List UInt8} : ∀ {ys : List Value} (a : Nat), (∀ i y, ys[i]? = some y → ∃ t, y = Value.bytes (f (a + i)).toArray t) → ∃ l, ys = bysVal l ∧ l.map (·.1) = (List.range' a ys.length).map f
  | [], a, _ => ⟨[], rfl, rfl⟩
  | y :: ys, a, h => by
    obtain ⟨t, rfl⟩ := h 0 y rfl
    obtain ⟨l, h1, h2⟩ := bys_some (ys := ys) (a + 1) fun i y hy => by
      obtain ⟨t, e⟩ := h (i + 1) y (by simpa using hy)
      exact ⟨t, by rw [e, Nat.add_assoc, Nat.add_comm 1 i]⟩
    refine ⟨(f a, t) :: l, ?_, ?_⟩
    · show _ :: _ = _ :: bysVal l
      rw [h1]; rfl
    · rw [List.map_cons, h2, List.length_cons, List.range'_succ]; rfl
section
variable {prog : Program} {w : World} {A : Around} {E : Value → Shared → Prop} {s : Shared} {h₀ : Heap} {L D : Addr} {m : Str → Option Value} {news : List (Addr × Obj)}
theorem menu_K {vs : List Value} {n : Nat} {k : Int} {u : Tok} {value slice : PySem.Expr} {Q : Value → Shared → Prop} (ns : List Int) (N : News h₀ L s.heap news) (hm : (D, listOf vs.toArray n) ∈ news) (hi : IntsAre vs ns) (h0 : 0 ≤ k) (h1 : k < ns.length) (hfit : k < 2 ^ 63) (h : ∀ x, ns.getD k.toNat 0 = x → ∀ t, Q (.int x t) s)
    (hs : subscripted slice false (.ref D) (.int k u) = operate [.ref D, .int k u] (getItem (.ref D) (.int k u)) := by with_unfolding_all rfl) :
    wpAny (model prog w) A (subscriptTail value slice (.ref D) (.int k u)) Q E s := ksa_sub N hm hi h0 h1 hfit (h _ rfl) hs
theorem min_Q {a : Nat} {t u : Tok} {Q : Value → Shared → Prop} (hh : A.handled = none) (F : Fr h₀ L s.heap m) (N : News h₀ L s.heap news)
    (h : ∀ (q : Nat) h' tk t, q ≤ 2 → Fr h₀ L h' m → News h₀ L h' news → Q (.int (q : Int) t) { s with heap := h', toks := tk }) : wpAny (model prog w) A (call (.builtin "min") [.int 2 t, .int ((a : Int).fdiv 2) u]) Q E s := by
  refine min_two_N hh F N fun h' tk F' N' => ?_
  have hd : (a : Int).fdiv 2 = ((a / 2 : Nat) : Int) := by
    rw [Int.fdiv_eq_ediv_of_nonneg _ (by decide)]; rfl
  rw [hd]
  by_cases c : ((a / 2 : Nat) : Int) < 2
  · rw [if_pos c, if_pos c]; exact h (a / 2) h' tk _ (by omega) F' N'
  · rw [if_neg c, if_neg c]; exact h 2 h' tk _ (by omega) F' N'
theorem add_L {a b : List UInt8} {t u : Tok} {Q : Value → Shared → Prop} (hz : a.length + b.length ≤ 100000) (h : ∀ t k, Q (.bytes (a ++ b).toArray t) { s with toks := k }) :
    wpAny (model prog w) A (binaryOp .Add (.bytes a.toArray t) (.bytes b.toArray u)) Q E s := by
  refine KBy.add_bytes ?_ fun t k => ?_
  · simp only [List.size_toArray]; omega
  · have e : a.toArray ++ b.toArray = (a ++ b).toArray := by simp
    rw [e]; exact h t k
theorem bytes_W {ys : List Value} {es : List Int} {Q : Value → Shared → Prop} (F : Fr h₀ L s.heap m) (N : News h₀ L s.heap ((D, LCg.lst ys) :: news)) (hh : A.handled = none) (he : IntsAre ys es) (hb : ∀ e ∈ es, 0 ≤ e ∧ e < 256) (hz : es.length ≤ 1000)
    (h : ∀ (d : List UInt8) h' t k, d = es.map (fun n : Int => n.toNat.toUInt8) → Fr h₀ L h' m → News h₀ L h' ((D, LCg.lst ys) :: news) → Q (.bytes d.toArray t) { s with heap := h', toks := k }) : wpAny (model prog w) A (call (.type "bytes") [.ref D]) Q E s := by
  have hl9 := he.length
  refine bytes_K F N (vs := ys) ⟨_, (N _ List.mem_cons_self).1, rfl, _, rfl⟩ he (fun n hn => ?_) (by rw [sizeLine_eq]; omega) hh fun h' t k F' N' _ => h _ h' t k rfl F' N'
  have := hb n hn
  omega
end
section
variable {prog : Program} {w : World} {A : Around} {E : Value → Shared → Prop} {s : Shared} {h₀ : Heap} {L : Addr} {m : Str → Option Value} {env : Env}
theorem ListCompH {elt iter : PySem.Expr} {x : Str} {px : Pos} {scope : Scope} {cl : List (Str × Addr)} {pos : Pos} {Q : Value → Shared → Prop} (V : UInt8 → Value → Prop) (F₀ : Fr h₀ L s.heap m)
    (hclos : closureFor scope env = pure cl) (hcell : ∀ y ∈ scope.names, y.2 ≠ .cell) (hkind : scope.kind = .function)
    (hnames : ∀ y ∈ scope.names, y.2 = .local → scope.names.lookup y.1 = some .local) (hx : scope.names.lookup x = some .local) (hh : A.handled = none)
    (h : wpAny (model prog w) A (eval iter env) (fun xv s₁ => Hold (∃ (d : List UInt8) (t : Tok) (news : List (Addr × Obj)), xv = .bytes d.toArray t ∧ Fr h₀ L s₁.heap m ∧ News h₀ L s₁.heap news ∧ d.length ≤ sizeLine ∧
      (∀ (c : UInt8) t I oI C oC D m₂ ys h tk, c ∈ d → LCg.NsObj oC m₂ → m₂ x = some (.int (c.toNat : Int) t) → Fr h₀ L h m → News h₀ L h ((I, oI) :: (C, oC) :: (D, LCg.lst ys) :: news) → LCg.Off3 I C D news → ((@Ne Nat I C) ∧ (@Ne Nat I D) ∧ (@Ne Nat C D)) →
        wpAny (model prog w) A (eval elt (compEnvC scope cl C env)) (EltEnd h₀ L m ((I, oI) :: (C, oC) :: (D, LCg.lst ys) :: news) s₁ (V c)) (fun _ _ => False) { s₁ with heap := h, toks := tk }) ∧
      (∀ ys, ys.length = d.length → (∀ (i : Nat) (c : UInt8) (y : Value), d[i]? = some c → ys[i]? = some y → V c y) → ∀ D h tk, Fr h₀ L h m → News h₀ L h ((D, LCg.lst ys) :: news) → LCg.Off1 D news → Q (.ref D) { s₁ with heap := h, toks := tk }))) E s)
    (hs : ∀ x, foldedSetIterable iter env x = pure x := by intro _; rfl) :
    wpAny (model prog w) A (eval (.ListComp elt [⟨.Name x px, iter, [], 0⟩] scope pos) env) Q E s :=
  ListCompB V F₀ hclos hcell hkind hnames hx hh h hs
theorem ListCompCH {elt iter : PySem.Expr} {x : Str} {px : Pos} {scope : Scope} {cl : List (Str × Addr)} {pos : Pos} {Q : Value → Shared → Prop} (V : Nat → Value → Prop) (_F₀ : Fr h₀ L s.heap m)
    (hclos : closureFor scope env = pure cl) (hcell : ∀ y ∈ scope.names, y.2 ≠ .cell) (hkind : scope.kind = .function)
    (hnames : ∀ y ∈ scope.names, y.2 = .local → scope.names.lookup y.1 = some .local) (hx : scope.names.lookup x = some .local) (hh : A.handled = none)
    (h : wpAny (model prog w) A (eval iter env) (fun xv s₁ => Hold (∃ r a b t u v n news, xv = .ref r ∧ Fr h₀ L s₁.heap m ∧ News h₀ L s₁.heap news ∧ IsRange s₁.heap r a b 1 t u v ∧ Builtin.Range.small a b 1 = true ∧ Builtin.Range.rangeSize a b 1 = ((n : Nat) : Int) ∧ n ≤ sizeLine ∧
      (∀ (i : Nat) t I oI C oC D m₂ ys h tk, i < n → LCg.NsObj oC m₂ → m₂ x = some (.int (a + (i : Int)) t) → Fr h₀ L h m → News h₀ L h ((I, oI) :: (C, oC) :: (D, LCg.lst ys) :: news) → LCg.Off3 I C D news → ((@Ne Nat I C) ∧ (@Ne Nat I D) ∧ (@Ne Nat C D)) →
        wpC (model prog w) A (eval elt (compEnvC scope cl C env)) (EltEnd h₀ L m ((I, oI) :: (C, oC) :: (D, LCg.lst ys) :: news) s₁ (V i)) (fun _ _ => False) { s₁ with heap := h, toks := tk }) ∧
      (∀ ys, ys.length = n → (∀ i y, ys[i]? = some y → V i y) → ∀ D h tk, Fr h₀ L h m → News h₀ L h ((D, LCg.lst ys) :: news) → LCg.Off1 D news → Q (.ref D) { s₁ with heap := h, toks := tk }))) E s)
    (hs : ∀ x, foldedSetIterable iter env x = pure x := by intro _; rfl) :
    wpC (model prog w) A (eval (.ListComp elt [⟨.Name x px, iter, [], 0⟩] scope pos) env) Q E s :=
  ListCompC V hclos hcell hkind hnames hx hh h hs
end
theorem parts_cc2 (w : World) (mean : ExcName → Option Value) (mg mb : Str → Option Value) (news : List (Addr × Obj)) (d : List UInt8) (k : Nat) (kk : Int) (e : kk = (k : Int)) (t u : Tok) :
    Cc w mean mg mb 40 2 news (k < d.length ∧ d.length ≤ 10) [.bytes d.toArray t, .int kk u] (fun t => .bytes (parts d k).toArray t) := by
  subst e
  exact parts_cc w mean mg mb news d k t u
theorem flip_length (d : List UInt8) : (flip d).length = d.length := by simp [flip]
theorem parts_length {d : List UInt8} {k : Nat} (hk : k ≤ d.length) : (parts d k).length = d.length := by
  unfold parts
  rw [List.length_append, swOuter_length, List.length_drop]
  split
  · rw [flip_length, List.length_take]; omega
  · rw [swOuter_length, flip_length, List.length_take]; omega
def tapeIn (row : List UInt8) (n : Nat) : List UInt8 := ((List.range' 0 (2 * n)).map fun k => parts (if k < n then row else flip row) (k % n)).flatten
def tapeOf (row : List UInt8) (n : Nat) : List UInt8 := ((List.range' 0 (2 * n)).map fun k => ((row ++ flip row ++ row).drop k).take n).flatten
theorem flat_const {α : Type} {n : Nat} : ∀ {l : List (List α)}, (∀ x ∈ l, x.length = n) → l.flatten.length = l.length * n
  | [], _ => by simp
  | x :: l, h => by
    rw [List.flatten_cons, List.length_append, flat_const fun y hy => h y (List.mem_cons_of_mem _ hy), h x List.mem_cons_self, List.length_cons, Nat.succ_mul, Nat.add_comm]
theorem tapeIn_length {row : List UInt8} {n : Nat} (h : row.length = n) (hn : 1 ≤ n) : (tapeIn row n).length = 2 * n * n := by
  unfold tapeIn
  rw [flat_const (n := n), List.length_map, List.length_range']
  intro x hx
  obtain ⟨k, _, rfl⟩ := List.mem_map.mp hx
  have := Nat.mod_lt k hn
  rw [parts_length]
  · split <;> simp [h, flip_length]
  · split <;> simp [h, flip_length] <;> omega
theorem row_byte {T stp : Int} {od es : List Int} (h1 : ∀ (i : Nat) (e : Int), od[i]? = some e → e = 0 ∨ e = 1) (h2 : ∀ (i : Nat) (e : Int), es[i]? = some e → e = 97 + (T + stp * (i : Int)).fmod 26 - 32 * od.getD i 0) :
    ∀ (i : Nat) (e : Int), es[i]? = some e → ∃ o, (o = 0 ∨ o = 1) ∧ e = 97 + (T + stp * (i : Int)).fmod 26 - 32 * o := fun i e he => by
  refine ⟨od.getD i 0, ?_, h2 i e he⟩
  rw [List.getD_eq_getElem?_getD]
  cases h : od[i]? with
  | none => exact .inl rfl
  | some o => exact h1 i o h
theorem row_bound {T stp : Int} {es : List Int} (h : ∀ (i : Nat) (e : Int), es[i]? = some e → ∃ o, (o = 0 ∨ o = 1) ∧ e = 97 + (T + stp * (i : Int)).fmod 26 - 32 * o) : ∀ e ∈ es, 0 ≤ e ∧ e < 256 := fun e he => by
  obtain ⟨i, hi⟩ := List.getElem?_of_mem he
  obtain ⟨o, ho, rfl⟩ := h i e hi
  have h1 := Int.fmod_nonneg_of_pos (T + stp * (i : Int)) (b := 26) (by decide)
  have h2 := Int.fmod_lt_of_pos (T + stp * (i : Int)) (b := 26) (by decide)
  omega
theorem tapeOf_length {row : List UInt8} {n : Nat} (h : row.length = n) : (tapeOf row n).length = 2 * n * n := by
  unfold tapeOf
  rw [flat_const (n := n), List.length_map, List.length_range']
  intro x hx
  obtain ⟨k, hk, rfl⟩ := List.mem_map.mp hx
  have := List.mem_range'_1.mp hk
  simp [h, flip_length]
  omega
theorem mod_hi {i q : Nat} (_ : i < 2 * (3 + q)) : (0 + (i : Int)).fmod (3 + (q : Int)) = ((i % (3 + q) : Nat) : Int) := by
  rw [Int.zero_add, Int.fmod_eq_emod_of_nonneg _ (by omega)]
  push_cast; rfl
theorem mod2 (x : Int) : x.fmod 2 = 0 ∨ x.fmod 2 = 1 := by
  have h1 := Int.fmod_nonneg_of_pos x (b := 2) (by decide)
  have h2 := Int.fmod_lt_of_pos x (b := 2) (by decide)
  omega
theorem step_mem {k x : Int} (h0 : 0 ≤ k) (h1 : k < 8) (h : ([1, 3, 5, 7, 9, 11, 15, 17] : List Int).getD k.toNat 0 = x) : x ∈ ([1, 3, 5, 7, 9, 11, 15, 17] : List Int) := by
  obtain ⟨j, rfl⟩ := Int.eq_ofNat_of_zero_le h0
  have hj : j < 8 := by omega
  rw [Int.toNat_natCast, List.getD_eq_getElem?_getD, List.getElem?_eq_getElem (by simpa using hj), Option.getD_some] at h
  rw [← h]
  exact List.getElem_mem _
end Mine
end

section
open PySem PySem.W PyProof.Rows PySem.Calls
namespace Mine
def txt (l : List Nat) : Str := ⟨l.toArray⟩
theorem txt_length (l : List Nat) : (txt l).length = l.length := by simp [txt, Str.length]
theorem txt_inj {l l' : List Nat} : (txt l == txt l') = true ↔ l = l' := by
  constructor
  · intro h
    have h := beq_iff_eq.mp h
    simpa [txt] using h
  · rintro rfl; simp
theorem txt_ne {l l' : List Nat} : (txt l == txt l') = false ↔ l ≠ l' := by
  rw [← Bool.not_eq_true, txt_inj]
theorem item_nat {l : List Nat} {p : Int} {q : Nat} (hp : p = (q : Int)) (h : q < l.length) : Txt.item (txt l) p = txt [l.getD q 0] := by
  subst hp
  unfold Txt.item Txt.charAt
  have e : seqIndex? (q : Int) (txt l).length = some q := by
    have h1 : ¬ (q : Int) < 0 := by omega
    have h2 : (q : Int) < (l.length : Int) := by omega
    simp [seqIndex?, txt_length, h1, h2]
  rw [e]
  simp [txt, h]
theorem item_neg {l : List Nat} {p : Int} {q : Nat} (hp : p = -(q : Int)) (h0 : 1 ≤ q) (h : q ≤ l.length) : Txt.item (txt l) p = txt [l.getD (l.length - q) 0] := by
  subst hp
  unfold Txt.item Txt.charAt
  have e : seqIndex? (-(q : Int)) (txt l).length = some (l.length - q) := by
    have h1 : -(q : Int) < 0 := by omega
    have h2 : 0 ≤ -(q : Int) + (l.length : Int) := by omega
    have h3 : (-(q : Int) + (l.length : Int)) = ((l.length - q : Nat) : Int) := by omega
    simp only [seqIndex?, txt_length, if_pos h1, h3]
    simp; omega
  rw [e]
  have : l.length - q < l.length := by omega
  simp [txt, this]
theorem slice_from {l : List Nat} {p : Int} {q : Nat} (hp : p = (q : Int)) (h : q ≤ l.length) : Txt.slice (txt l) (some p) none = txt (l.drop q) := by
  subst hp
  rw [slice_from_eq (b := (l.length : Int)) (by omega) (by rw [txt_length]; omega) (by rw [txt_length])]
  have e : ((l.length : Int) - (q : Int)).toNat = l.length - q := by omega
  simp only [txt, Int.toNat_natCast, e]
  rw [List.take_of_length_le (by simp)]
theorem slice_to_neg {l : List Nat} {p : Int} {q : Nat} (hp : p = -(q : Int)) (h0 : 1 ≤ q) (h : q ≤ l.length) : Txt.slice (txt l) none (some p) = txt (l.take (l.length - q)) := by
  subst hp
  have z := beq_iff_eq.mp (slice_closes_to_neg (x := txt l) (j := -(q : Int)) (k := ((l.length - q : Nat) : Int)) (by omega) (by rw [txt_length]; omega) (by rw [txt_length]; omega))
  rw [z]
  simp [txt]
end Mine
namespace Mine
theorem pre_hit {H U V T : List Nat} {p : Int} (hp0 : 0 ≤ p) (hp1 : p ≤ H.length) (hU : 1 ≤ U.length) (hV : 1 ≤ V.length) (hd : U.getD 0 0 ≠ V.getD 0 0) :
    (Txt.item (txt (H ++ (U ++ T))) p == Txt.item (txt (H ++ (V ++ T))) p) = decide (p < H.length) := by
  obtain ⟨q, rfl⟩ := Int.eq_ofNat_of_zero_le hp0
  rw [item_nat (q := q) rfl (by simp; omega), item_nat (q := q) rfl (by simp; omega)]
  by_cases hq : q < H.length
  · have e : ∀ R : List Nat, (H ++ R).getD q 0 = H.getD q 0 := fun R => by simp [List.getD_eq_getElem?_getD, List.getElem?_append_left hq]
    rw [e, e]
    have : ((q : Int) < (H.length : Int)) := by omega
    simp [this]
  · have hq : q = H.length := by omega
    subst hq
    have e : ∀ R : List Nat, 1 ≤ R.length → (H ++ (R ++ T)).getD H.length 0 = R.getD 0 0 := fun R hR => by
      rw [List.getD_eq_getElem?_getD, List.getElem?_append_right (Nat.le_refl _), Nat.sub_self, List.getElem?_append_left (by omega), List.getD_eq_getElem?_getD]
    rw [e U hU, e V hV]
    simp only [Int.lt_irrefl, decide_false]
    rw [txt_ne]
    intro h; exact hd (by simpa using h)
theorem post_hit {U V T : List Nat} {n : Nat} {p : Int} {c : Nat} (hp : p = -((c + 1 : Nat) : Int)) (hc : c ≤ T.length) (hn : 1 ≤ n) (hU : U.length = n) (hV : V.length = n) (hd : U.getD (n - 1) 0 ≠ V.getD (n - 1) 0) :
    (Txt.item (txt (U ++ T)) p == Txt.item (txt (V ++ T)) p) = decide (c < T.length) := by
  rw [item_neg (q := c + 1) hp (by omega) (by simp; omega), item_neg (q := c + 1) hp (by omega) (by simp; omega)]
  have l1 : ∀ R : List Nat, R.length = n → (R ++ T).length - (c + 1) = n + T.length - (c + 1) := fun R h => by simp [h]
  rw [l1 U hU, l1 V hV]
  by_cases hq : c < T.length
  · have e : ∀ R : List Nat, R.length = n → (R ++ T).getD (n + T.length - (c + 1)) 0 = T.getD (T.length - (c + 1)) 0 := fun R hR => by
      rw [List.getD_eq_getElem?_getD, List.getElem?_append_right (by omega), List.getD_eq_getElem?_getD]
      congr 2; omega
    rw [e U hU, e V hV]
    simp [hq]
  · have hq' : c = T.length := by omega
    have e : ∀ R : List Nat, R.length = n → (R ++ T).getD (n + T.length - (c + 1)) 0 = R.getD (n - 1) 0 := fun R hR => by
      rw [List.getD_eq_getElem?_getD, List.getElem?_append_left (by omega), List.getD_eq_getElem?_getD]
      congr 2; omega
    rw [e U hU, e V hV]
    simp only [hq, decide_false]
    rw [txt_ne]
    intro h; exact hd (by simpa using h)
end Mine
namespace Mine
theorem slice_nn (l : List Nat) : Txt.slice (txt l) none none = txt l := by
  have e : Txt.slice (txt l) none none = StrLaws.sliceText (txt l) (some ((0 : Nat) : Int)) (some ((txt l).length : Int)) := by
    show StrLaws.sliceText (txt l) none none = _
    unfold StrLaws.sliceText
    rw [StrLaws.sliceIdx_none_lo, StrLaws.sliceIdx_none_hi]
    rfl
  rw [e, StrLaws.sliceText_nat _ (Nat.zero_le _) (Nat.le_refl _)]
  simp [txt, Str.length]
section
variable {prog : Program} {w : World} {A : Around} {E : Value → Shared → Prop} {s : Shared} {value slice : PySem.Expr} {l : List Nat} {t : Tok} {h₀ : Heap} {L : Addr} {m : Str → Option Value} {news : List (Addr × Obj)} {Q : Value → Shared → Prop}
theorem slice_none (hF : Fr h₀ L s.heap m) (hN : News h₀ L s.heap news) (hsz : l.length ≤ 100000) (h : ∀ h' t' k, Fr h₀ L h' m → News h₀ L h' news → Q (.str (txt l) t') { s with heap := h', toks := k })
    (hs : subscripted slice false (.str (txt l) t) (.ref s.heap.objs.size) = operate [.ref s.heap.objs.size, .str (txt l) t] (getItem (.str (txt l) t) (.ref s.heap.objs.size)) := by with_unfolding_all rfl)
    (ht : ∀ r, letTemporaryGo value (.str (txt l) t) r = pure () := by intro _; with_unfolding_all rfl) :
    wpAny (model prog w) A (subscriptTail value slice (.str (txt l) t) (.ref s.heap.objs.size)) Q E { s with heap := s.heap.push { cls := .type "slice", data := .fields #[.none, .none, .none] } } :=
  slice_strN_nn hF hN (fun h' t' k F' N' => by rw [slice_nn]; exact h h' t' k F' N') hs ht (by rw [txt_length, sizeLine_eq]; omega)
theorem slice_F {i : Int} {ui : Tok} (q : Nat) (hi : i = (q : Int)) (hq : q ≤ l.length) (hF : Fr h₀ L s.heap m) (hN : News h₀ L s.heap news) (hsz : l.length ≤ 100000) (h : ∀ h' t' k, Fr h₀ L h' m → News h₀ L h' news → Q (.str (txt (l.drop q)) t') { s with heap := h', toks := k })
    (hs : subscripted slice false (.str (txt l) t) (.ref s.heap.objs.size) = operate [.ref s.heap.objs.size, .str (txt l) t] (getItem (.str (txt l) t) (.ref s.heap.objs.size)) := by with_unfolding_all rfl)
    (ht : ∀ r, letTemporaryGo value (.str (txt l) t) r = pure () := by intro _; with_unfolding_all rfl) :
    wpAny (model prog w) A (subscriptTail value slice (.str (txt l) t) (.ref s.heap.objs.size)) Q E { s with heap := s.heap.push { cls := .type "slice", data := .fields #[.int i ui, .none, .none] } } :=
  slice_strN_sn hF hN (fun h' t' k F' N' => by rw [slice_from hi hq]; exact h h' t' k F' N') hs ht (by rw [txt_length, sizeLine_eq]; omega)
theorem slice_T {i : Int} {ui : Tok} (q : Nat) (hi : i = -(q : Int)) (h1 : 1 ≤ q) (hq : q ≤ l.length) (hF : Fr h₀ L s.heap m) (hN : News h₀ L s.heap news) (hsz : l.length ≤ 100000) (h : ∀ h' t' k, Fr h₀ L h' m → News h₀ L h' news → Q (.str (txt (l.take (l.length - q))) t') { s with heap := h', toks := k })
    (hs : subscripted slice false (.str (txt l) t) (.ref s.heap.objs.size) = operate [.ref s.heap.objs.size, .str (txt l) t] (getItem (.str (txt l) t) (.ref s.heap.objs.size)) := by with_unfolding_all rfl)
    (ht : ∀ r, letTemporaryGo value (.str (txt l) t) r = pure () := by intro _; with_unfolding_all rfl) :
    wpAny (model prog w) A (subscriptTail value slice (.str (txt l) t) (.ref s.heap.objs.size)) Q E { s with heap := s.heap.push { cls := .type "slice", data := .fields #[.none, .int i ui, .none] } } :=
  slice_strN_ns hF hN (fun h' t' k F' N' => by rw [slice_to_neg hi h1 hq]; exact h h' t' k F' N') hs ht (by rw [txt_length, sizeLine_eq]; omega)
theorem txt_truthy {Q : Bool → Shared → Prop} (h : l ≠ []) (hl : l.length ≤ 100000) (hq : ∀ k, Q true { s with toks := k }) : wpAny (model prog w) A (truthy (.str (txt l) t)) Q E s := by
  refine P.truthy_str (by rw [txt_length]; omega) ?_
  have e : (((txt l).length : Int) != 0) = true := by
    rw [txt_length]
    have := List.length_pos_iff.mpr h
    simp only [bne_iff_ne, ne_eq]
    omega
  rw [e]; exact hq _
end
end Mine
end

section
open PySem PySem.W PyProof.Rows PySem.Spec PySem.Calls
namespace Mine
theorem txt_append (a b : List Nat) : txt a ++ txt b = txt (a ++ b) := by
  show (⟨(txt a).cps ++ (txt b).cps⟩ : Str) = _
  simp [txt]
theorem join_txt (l : List Nat) : PySem.Txt.join (Str.ofString "") (l.map fun a => txt [a]) = txt l := by
  show Builtin.Str.glued (Str.ofString "") _ = _
  rw [StrLaws.glued_eq_join]
  have e0 : Str.ofString "" = txt [] := by decide
  rw [e0]
  induction l with
  | nil => rfl
  | cons a l ih =>
    cases l with
    | nil => rfl
    | cons b l =>
      show txt [a] ++ txt [] ++ Str.join (txt []) ((b :: l).map fun a => txt [a]) = _
      rw [ih, txt_append, txt_append]
      rfl
def codes (d : List UInt8) : List Nat := d.map UInt8.toNat
section
variable {prog : Program} {w : World} {A : Around} {E : Value → Shared → Prop} {s : Shared} {h₀ : Heap} {L D : Addr} {m : Str → Option Value} {news : List (Addr × Obj)}
theorem strjoin_V {ys : List Value} {d : List UInt8} {t : Tok} {Q : Value → Shared → Prop} (N : News h₀ L s.heap ((D, LCg.lst ys) :: news)) (hl : ys.length = d.length) (hz : d.length ≤ 1000)
    (hV : ∀ (i : Nat) (c : UInt8) (y : Value), d[i]? = some c → ys[i]? = some y → ∃ t, y = Value.str (txt [c.toNat]) t)
    (h : ∀ t' k, Q (.str (txt (codes d)) t') { s with toks := k }) : wpAny (model prog w) A (call (.builtin "str.join") [.str (Str.ofString "") t, .ref D]) Q E s := by
  refine KT.join_1 (l := codes d) (g := fun a => txt [a]) ⟨_, (N _ List.mem_cons_self).1, rfl, _, rfl⟩ ?_ (fun a _ => by rw [txt_length]; rfl) (by simp [codes]; omega) fun t' k _ => ?_
  · refine carriedAll_of_get _ _ (by simp [codes, hl]) fun j v hv => ?_
    have hj : j < d.length := by rw [← hl]; exact (List.getElem?_eq_some_iff.mp hv).1
    obtain ⟨t, rfl⟩ := hV j d[j] v (List.getElem?_eq_getElem hj) hv
    exact ⟨_, by simp [codes, hj], .str _ _⟩
  · rw [join_txt]; exact h t' k
end
def wordOf (row : List UInt8) (n k : Nat) : List UInt8 := ((row ++ flip row ++ row).drop k).take n
theorem tape_slice {row : List UInt8} {n i : Nat} (h : row.length = n) (hi : i < 2 * n) : ((tapeOf row n).drop (i * n)).take n = wordOf row n i := by
  have key : ∀ (l : List (List UInt8)) (i : Nat) (x : List UInt8), (∀ y ∈ l, y.length = n) → l[i]? = some x → (l.flatten.drop (i * n)).take n = x := by
    intro l
    induction l with
    | nil => intro i x _ hx; simp at hx
    | cons y l ih =>
      intro i x hy hx
      have hy0 := hy y List.mem_cons_self
      cases i with
      | zero =>
        simp at hx; subst hx
        rw [Nat.zero_mul, List.drop_zero, List.flatten_cons, ← hy0, List.take_left]
      | succ i =>
        rw [List.flatten_cons, Nat.succ_mul, Nat.add_comm, ← List.drop_drop, show List.drop n (y ++ l.flatten) = l.flatten by rw [← hy0, List.drop_left]]
        exact ih i x (fun z hz => hy z (List.mem_cons_of_mem _ hz)) (by simpa using hx)
  refine key _ i _ (fun y hy => ?_) ?_
  · obtain ⟨k, hk, rfl⟩ := List.mem_map.mp hy
    have := List.mem_range'_1.mp hk
    simp [h, flip_length]
    omega
  · rw [List.getElem?_map, List.getElem?_range' hi]
    simp [wordOf]
theorem fmod_in (c : Int) (q : Nat) : 0 ≤ c.fmod (2 * (3 + (q : Int))) ∧ c.fmod (2 * (3 + (q : Int))) < 2 * (3 + (q : Int)) :=
  ⟨Int.fmod_nonneg_of_pos _ (by omega), Int.fmod_lt_of_pos _ (by omega)⟩
theorem wordOf_length {row : List UInt8} {n k : Nat} (h : row.length = n) (hk : k < 2 * n) : (wordOf row n k).length = n := by
  simp [wordOf, h, flip_length]
  omega
end Mine
end

section
open PySem PySem.W PyProof.Rows PySem.Spec PySem.Calls
namespace Mine
theorem block_at {n : Nat} : ∀ {l : List (List UInt8)} {i : Nat} {x : List UInt8}, (∀ y ∈ l, y.length = n) → l[i]? = some x → (l.flatten.drop (i * n)).take n = x
  | [], i, x, _, hx => by simp at hx
  | y :: l, 0, x, hy, hx => by
    simp at hx; subst hx
    rw [Nat.zero_mul, List.drop_zero, List.flatten_cons, ← hy y List.mem_cons_self, List.take_left]
  | y :: l, i + 1, x, hy, hx => by
    have hy0 := hy y List.mem_cons_self
    rw [List.flatten_cons, Nat.succ_mul, Nat.add_comm, ← List.drop_drop, show List.drop n (y ++ l.flatten) = l.flatten by rw [← hy0, List.drop_left]]
    exact block_at (fun z hz => hy z (List.mem_cons_of_mem _ hz)) (by simpa using hx)
theorem swInner_app (d A : List UInt8) (k m : Nat) (hm : k ≤ m) (hd : A.length + k ≤ d.length) : ∀ j, j ≤ k →
    swInner d k A.length j (A ++ List.replicate m 0) = A ++ (List.replicate (k - j) 0 ++ (((d.drop A.length).take j).reverse ++ List.replicate (m - k) 0))
  | 0, _ => by
    rw [swInner, List.take_zero, List.reverse_nil, List.nil_append, List.replicate_append_replicate]
    congr 2; omega
  | j + 1, hj => by
    rw [swInner, swInner_app d A k m hm hd j (by omega)]
    have e1 : A.length + k - 1 - j = A.length + (k - (j + 1)) := by omega
    have e2 : k - j = (k - (j + 1)) + 1 := by omega
    have hx : (d.drop A.length)[j]? = some (d.getD (A.length + j) 0) := by
      rw [List.getElem?_drop, List.getD_eq_getElem?_getD, List.getElem?_eq_getElem (by omega)]; rfl
    rw [e1, e2, List.set_append_right _ _ (by omega), Nat.add_sub_cancel_left, List.replicate_succ', List.append_assoc, List.set_append_right _ _ (by simp), List.length_replicate, Nat.sub_self,
      List.take_add_one, hx, Option.toList_some, List.reverse_append]
    simp
theorem swOuter_flat {l : List (List UInt8)} {k : Nat} (hk : ∀ x ∈ l, x.length = k) : ∀ q, q ≤ l.length →
    swOuter l.flatten k q = ((l.take q).map List.reverse).flatten ++ List.replicate ((l.length - q) * k) 0
  | 0, _ => by
    rw [swOuter, flat_const hk]; simp
  | q + 1, hq => by
    have hA : (((l.take q).map List.reverse).flatten).length = q * k := by
      rw [flat_const (n := k), List.length_map, List.length_take, Nat.min_eq_left (by omega)]
      intro x hx
      obtain ⟨y, hy, rfl⟩ := List.mem_map.mp hx
      rw [List.length_reverse]
      exact hk y (List.mem_of_mem_take hy)
    have hm : (l.length - q) * k = (l.length - (q + 1)) * k + k := by rw [← Nat.succ_mul]; congr 1; omega
    have hd : q * k + k ≤ l.flatten.length := by rw [flat_const hk, ← Nat.succ_mul]; exact Nat.mul_le_mul_right _ hq
    have hs : (l.flatten.drop (q * k)).take k = l[q] := block_at hk (List.getElem?_eq_getElem hq)
    rw [swOuter, swOuter_flat hk q (by omega)]
    have key := swInner_app l.flatten ((l.take q).map List.reverse).flatten k ((l.length - q) * k) (by omega) (by rw [hA]; exact hd) k (Nat.le_refl _)
    rw [hA] at key
    rw [key, hs, Nat.sub_self, List.replicate_zero, List.nil_append, List.take_add_one, List.getElem?_eq_getElem hq, hm, Nat.add_sub_cancel, Option.toList_some, List.map_append, List.flatten_append, List.append_assoc]
    congr 1
    simp
theorem swOuter_one (x : List UInt8) : swOuter x x.length 1 = x.reverse := by
  have := swOuter_flat (l := [x]) (k := x.length) (by simp) 1 (by simp)
  simpa using this
theorem flip_flip (d : List UInt8) : flip (flip d) = d := by
  simp only [flip, List.map_map]
  rw [show ((fun x : UInt8 => x ^^^ 32) ∘ fun x => x ^^^ 32) = id by funext x; simp [UInt8.xor_assoc], List.map_id]
theorem flip_take (d : List UInt8) (k : Nat) : flip (d.take k) = (flip d).take k := by simp [flip, List.map_take]
theorem parts_rev {d : List UInt8} {k : Nat} (hk : k ≤ d.length) : (parts d k).reverse = d.drop k ++ (flip d).take k := by
  have h1 : swOuter (d.drop k) (d.length - k) 1 = (d.drop k).reverse := by rw [← List.length_drop]; exact swOuter_one _
  have h2 : (if k = 0 then flip (d.take k) else swOuter (flip (d.take k)) k 1) = (flip (d.take k)).reverse := by
    split
    · subst k; rfl
    · have := swOuter_one (flip (d.take k))
      rwa [flip_length, List.length_take, Nat.min_eq_left hk] at this
  unfold parts
  rw [h1, h2, List.reverse_append, List.reverse_reverse, List.reverse_reverse, flip_take]
theorem tape_law' {row : List UInt8} {n : Nat} (h : row.length = n) (hn : 1 ≤ n) : swOuter (tapeIn row n) n (2 * n) = tapeOf row n := by
  have hlf : (flip row).length = n := by rw [flip_length, h]
  have hl : ∀ x ∈ (List.range' 0 (2 * n)).map fun k => parts (if k < n then row else flip row) (k % n), x.length = n := by
    intro x hx
    obtain ⟨k, _, rfl⟩ := List.mem_map.mp hx
    have := Nat.mod_lt k hn
    rw [parts_length]
    · split <;> simp [h, flip_length]
    · split <;> simp [h, flip_length] <;> omega
  have key := swOuter_flat hl (2 * n) (by simp)
  have e0 : ((List.range' 0 (2 * n)).map fun k => parts (if k < n then row else flip row) (k % n)).length = 2 * n := by simp
  rw [List.take_of_length_le (by rw [e0]; exact Nat.le_refl _), e0, Nat.sub_self, Nat.zero_mul, List.replicate_zero, List.append_nil, List.map_map] at key
  unfold tapeIn tapeOf
  rw [key]
  congr 1
  refine List.map_congr_left fun k hk => ?_
  have hk2 := (List.mem_range'_1.mp hk).2
  show (parts _ _).reverse = _
  by_cases c : k < n
  · rw [if_pos c, Nat.mod_eq_of_lt c, parts_rev (by omega), List.append_assoc, List.drop_append_of_le_length (by omega), List.take_append, List.length_drop, h, List.take_of_length_le (l := row.drop k) (by rw [List.length_drop]; omega)]
    rw [show n - (n - k) = k by omega, List.take_append_of_le_length (by omega)]
  · have e : k % n = k - n := by rw [Nat.mod_eq_sub_mod (by omega), Nat.mod_eq_of_lt (by omega)]
    rw [if_neg c, e, parts_rev (by omega), flip_flip, List.append_assoc, List.drop_append, List.drop_of_length_le (l := row) (by omega), List.nil_append, h, List.drop_append_of_le_length (l₁ := flip row) (by omega), List.take_append, List.length_drop, hlf,
      List.take_of_length_le (l := (flip row).drop (k - n)) (by rw [List.length_drop]; omega)]
    rw [show n - (n - (k - n)) = k - n by omega]
end Mine
end

section
open PySem PySem.W PyProof.Rows PySem.Spec PySem.Calls
namespace Mine
/-- what a while leaves -/
def WhEnd {σ : Type} (h₀ : Heap) (L : Addr) (Led : σ → List (Addr × Obj)) (ps : σ → List (Str × Value)) (m₀ : Str → Option Value) (P : σ → Prop) (s₁ s₂ : Shared) : Prop :=
  ∃ c h' tk m' news', s₂ = { s₁ with heap := h', toks := tk } ∧ Fr h₀ L h' m' ∧ News h₀ L h' news' ∧ (∀ p ∈ Led c, p ∈ news') ∧ (∀ p ∈ ps c, m' p.1 = some p.2) ∧ (∀ z, (∀ p ∈ ps c, z ≠ p.1) → m' z = m₀ z) ∧ P c
section
variable {prog : Program} {w : World} {A : Around} {E : Value → Shared → Prop} {Q : Flow → Shared → Prop} {s : Shared} {env : Env} {h₀ : Heap} {L : Addr}
theorem while_to {σ : Type} {test : Expr} {body : List Stmt} {pos : Pos} {m₀ : Str → Option Value} (Led : σ → List (Addr × Obj)) (ps : σ → List (Str × Value)) (P D : σ → Prop) (μ : σ → Nat) (c₀ : σ)
    (F : Fr h₀ L s.heap m₀) (N : News h₀ L s.heap (Led c₀)) (hk : ∀ p ∈ ps c₀, m₀ p.1 = some p.2) (hp : P c₀)
    (turn : ∀ (c : σ) h tk, P c → Fr h₀ L h (kstB m₀ (ps c)) → News h₀ L h (Led c) →
      wpAny (model prog w) A (isTrue test env (eval test env)) (fun b s₂ =>
        if b = true then wpAny (model prog w) A (execs body env) (fun f s₃ => match f with | .next => WhEnd h₀ L Led ps m₀ (fun c' => P c' ∧ μ c' < μ c) s s₃ | _ => False) E s₂ else WhEnd h₀ L Led ps m₀ D s s₂) E { s with heap := h, toks := tk })
    (done : ∀ (c : σ) h tk, D c → Fr h₀ L h (kstB m₀ (ps c)) → News h₀ L h (Led c) → Q .next { s with heap := h, toks := tk })
    (hE : PassesOwn (model prog w) A env E := by passes_own) :
    wpAny (model prog w) A (exec (.While test body [] pos) env) Q E s := by
  have fr : ∀ {h : Heap} {c : σ} {m₁ : Str → Option Value}, (∀ p ∈ ps c, m₁ p.1 = some p.2) → (∀ z, (∀ p ∈ ps c, z ≠ p.1) → m₁ z = m₀ z) → Fr h₀ L h m₁ → Fr h₀ L h (kstB m₀ (ps c)) := fun {h c m₁} h1 h2 F => by
    have em : kstB m₀ (ps c) = m₁ := by
      funext y
      exact kstB_eq h1 fun hn => (h2 y hn).symm
    rw [em]; exact F
  refine While_inv2 (fun n m nx => ∃ c : σ, nx = Led c ∧ μ c = n ∧ (∀ p ∈ ps c, m p.1 = some p.2) ∧ (∀ z, (∀ p ∈ ps c, z ≠ p.1) → m z = m₀ z) ∧ P c) F N ⟨c₀, rfl, rfl, hk, fun _ _ => rfl, hp⟩ ?_ hE
  rintro n m₁ nx h tk F₁ N₁ ⟨c, hnx, hsz, h1, h2, hp'⟩
  rw [hnx] at N₁
  rw [← hsz]
  refine wpAny_mono (turn c h tk hp' (fr h1 h2 F₁) N₁) (fun b s₂ p => ?_) fun _ _ x => x
  cases b with
  | false =>
    simp only [Bool.false_eq_true, if_false] at p ⊢
    obtain ⟨c', h', tk', m', news', rfl, F', N', hl, e1, e2, e3⟩ := p
    exact done c' h' tk' e3 (fr e1 e2 F') fun q hq => N' q (hl q hq)
  | true =>
    simp only [if_true] at p ⊢
    refine wpAny_mono p (fun f s₃ q => ?_) fun _ _ x => x
    cases f with
    | next =>
      obtain ⟨c', h', tk', m', news', rfl, F', N', hl, e1, e2, e3, e4⟩ := q
      exact ⟨h', tk', m', Led c', μ c', rfl, F', fun q hq => N' q (hl q hq), e4, c', rfl, rfl, e1, e2, e3⟩
    | _ => exact q.elim
end
end Mine
end

section
open PySem PySem.W PyProof.Rows PySem.Spec PySem.Calls
namespace Mine
structure DS where
  d : Int
  r : Int
  m : Int
  w : List Int
def dpStep (c : Int) (i : Nat) (S : DS) : DS :=
  let x := S.w.getD i 0
  let a := (if x < S.r then x else S.r) + 2
  let r := if S.d + c < a then S.d + c else a
  ⟨x, r, if r < S.m then r else S.m, S.w.set i r⟩
def dpRow (c : Nat → Int) (b : Int) (w : List Int) : Nat → DS
  | 0 => ⟨b, b, 9223372036854775807, w⟩
  | i + 1 => dpStep (c i) i (dpRow c b w i)
def dpRows (c : Nat → Nat → Int) (n : Nat) : Nat → DS
  | 0 => ⟨0, 0, 0, rangeInts 2 2 n⟩
  | b + 1 => dpRow (c b) ((b : Int) * 2) (dpRows c n b).w n
theorem dpRow_length (c : Nat → Int) (b : Int) (w : List Int) : ∀ i, (dpRow c b w i).w.length = w.length
  | 0 => rfl
  | i + 1 => by simp [dpRow, dpStep, dpRow_length c b w i]
theorem dpRows_length (c : Nat → Nat → Int) (n : Nat) : ∀ b, (dpRows c n b).w.length = n
  | 0 => by simp [dpRows, rangeInts]
  | b + 1 => by rw [dpRows, dpRow_length, dpRows_length c n b]
def levCost (U V : List Nat) (b i : Nat) : Int := subCost (txt [V.getD b 0]) (txt [U.getD i 0])
section
variable {prog : Program} {w : World} {A : Around} {E : Value → Shared → Prop} {s : Shared} {h₀ : Heap} {L : Addr} {m : Str → Option Value} {news : List (Addr × Obj)} {Q : Value → Shared → Prop}
theorem list_rngK {r : Addr} {a b c : Int} {t u v : Tok} (n : Nat) (hh : A.handled = none) (F : Fr h₀ L s.heap m) (N : News h₀ L s.heap news)
    (hr : IsRange s.heap r a b c t u v) (hsmall : Builtin.Range.small a b c = true) (hn : Builtin.Range.rangeSize a b c = (n : Int)) (hlen : n ≤ 2 ^ 24)
    (h : ∀ D h' tk ys k, Fr h₀ L h' m → News h₀ L h' ((D, listOf ys.toArray k) :: news) → (∀ p ∈ news, p.1 ≠ D) → IntsAre ys (rangeInts a c n) → Q (.ref D) { s with heap := h', toks := tk }) :
    wpAny (model prog w) A (call (.type "list") [.ref r]) Q E s := by
  refine list_rangeD hh F N hr hsmall hn hlen fun h' tk ys F' N' hk hnew _ P C => ?_
  obtain ⟨k, hP⟩ := P.1
  refine h _ h' tk ys k F' (fun p hp => ?_) P.2 ?_
  · rcases List.mem_cons.mp hp with rfl | hp
    · exact ⟨hP, P.ne_locals F', hnew⟩
    · exact N' p hp
  · exact ints_of_carried C
end
theorem rangeSize_two (n : Nat) : Builtin.Range.rangeSize 2 (2 * ((n : Int) + 1)) 2 = (n : Int) := by
  unfold Builtin.Range.rangeSize
  rw [if_pos (by omega)]
  split <;> omega
end Mine
end

section
open PySem PySem.W PyProof.Rows PySem.Spec PySem.Calls
namespace Mine
def NE (l : List Nat) : Prop := l ≠ []
theorem NE.out {l : List Nat} (h : NE l) : l ≠ [] := h
section
variable {prog : Program} {w : World} {A : Around} {E : Value → Shared → Prop} {s : Shared} {env : Env} {value slice : PySem.Expr} {l : List Nat} {t : Tok} {h₀ : Heap} {L : Addr} {m : Str → Option Value} {news : List (Addr × Obj)} {Q : Value → Shared → Prop}
def OrN (p : Int) (t : Tok) (v : Value) : Prop := (p = 0 ∧ v = .none) ∨ (p ≠ 0 ∧ v = .int p t)
theorem or_none {x : Str} {pos p1 p2 : Pos} (h1 : wpAny (model prog w) A (eval (.Name x p1) env) (fun v s₁ => ∃ p t, v = .int p t ∧ ∀ v', OrN p t v' → Q v' s₁) E s) :
    wpAny (model prog w) A (eval (.BoolOp .Or [.Name x p1, .Constant .none 0 p2] pos) env) Q E s := by
  refine BoolOp_or (wpAny_mono h1 (fun v s₁ hv => ?_) fun _ _ z => z)
  obtain ⟨p, t, rfl, hQ⟩ := hv
  refine P.truthy_int ?_
  by_cases hp : p = 0
  · subst hp
    exact BoolOp_one (wpAny_Constant_none (hQ _ (.inl ⟨rfl, rfl⟩)))
  · have e : (p != 0) = true := by simpa using hp
    rw [e]
    exact hQ _ (.inr ⟨hp, rfl⟩)
theorem slice_O {i : Int} {ui : Tok} {v : Value} (q : Nat) (hv : OrN i ui v) (hi : i = -(q : Int)) (hq : q ≤ l.length) (hF : Fr h₀ L s.heap m) (hN : News h₀ L s.heap news) (hsz : l.length ≤ 100000) (h : ∀ h' t' k, Fr h₀ L h' m → News h₀ L h' news → Q (.str (txt (l.take (l.length - q))) t') { s with heap := h', toks := k })
    (hs : subscripted slice false (.str (txt l) t) (.ref s.heap.objs.size) = operate [.ref s.heap.objs.size, .str (txt l) t] (getItem (.str (txt l) t) (.ref s.heap.objs.size)) := by with_unfolding_all rfl)
    (ht : ∀ r, letTemporaryGo value (.str (txt l) t) r = pure () := by intro _; with_unfolding_all rfl) :
    wpAny (model prog w) A (subscriptTail value slice (.str (txt l) t) (.ref s.heap.objs.size)) Q E { s with heap := s.heap.push { cls := .type "slice", data := .fields #[.none, v, .none] } } := by
  rcases hv with ⟨rfl, rfl⟩ | ⟨hn, rfl⟩
  · have : q = 0 := by omega
    subst this
    refine slice_none hF hN hsz (fun h' t' k F' N' => ?_) hs ht
    have := h h' t' k F' N'
    rwa [Nat.sub_zero, List.take_length] at this
  · exact slice_T q hi (by omega) hq hF hN hsz h hs ht
end
section
variable {prog : Program} {w : World} {A : Around} {E : Value → Shared → Prop} {s : Shared} {h₀ : Heap} {L D : Addr} {m : Str → Option Value} {rest : List (Addr × Obj)} {vs : List Value} {ns : List Int} {n : Nat} {k x : Int} {t u : Tok}
theorem name_map {h : Heap} (_F : Fr h₀ L h m) : ∃ m' : Str → Option Value, m' = m := ⟨m, rfl⟩
theorem kst_out {l : List Str} {u mm : Str → Option Value} {ps : List (Str × Value)} {z : Str} (h : l.contains z = false) (hp : ∀ p ∈ ps, z ≠ p.1) : kstB (fun z => if l.contains z = true then u z else mm z) ps z = mm z := by
  induction ps with
  | nil =>
    show (if l.contains z = true then u z else mm z) = mm z
    rw [h]; rfl
  | cons p r ih =>
    show (if z = p.1 then some p.2 else kstB _ r z) = mm z
    rw [if_neg (hp p List.mem_cons_self)]
    exact ih fun q hq => hp q (List.mem_cons_of_mem _ hq)
theorem min_K {a b c : Int} {r : List (Addr × Obj)} {Q : Value → Shared → Prop} (hx : (if b < a then b else a) = c) (hh : A.handled = none) (F : Fr h₀ L s.heap m) (N : News h₀ L s.heap r)
    (h : ∀ h' tk t, Fr h₀ L h' m → News h₀ L h' r → Q (.int c t) { s with heap := h', toks := tk }) : wpAny (model prog w) A (call (.builtin "min") [.int a t, .int b u]) Q E s := by
  subst hx
  exact min_two_N hh F N fun h' tk F' N' => h h' tk _ F' N'
theorem row_set_K {Q : Unit → Shared → Prop} (F : Fr h₀ L s.heap m) (N : News h₀ L s.heap ((D, listOf vs.toArray n) :: rest)) (off : ∀ p ∈ rest, p.1 ≠ D) (hi : IntsAre vs ns) (j : Nat) (hk : k = (j : Int)) (h1 : j < ns.length) (hfit : ns.length ≤ 100000)
    (h : ∀ h', Fr h₀ L h' m → News h₀ L h' ((D, listOf (vs.set j (.int x u)).toArray n) :: rest) → IntsAre (vs.set j (.int x u)) (ns.set j x) → Q () { s with heap := h' }) :
    wpAny (model prog w) A (setItem (.ref D) (.int k t) (.int x u)) Q E s := by
  subst hk
  refine ksa_set (n := n) F N (news' := (D, listOf (vs.set j (.int x u)).toArray n) :: rest) (by rw [Int.toNat_natCast]; exact .head off) hi (by omega) (by omega) (by omega) fun h' F' N' hi' _ _ => h h' F' N' (by rw [Int.toNat_natCast] at hi'; exact hi')
end
structure IS where
  vs : List Value
  d : Int
  r : Int
  m : Int
  td : Tok
  tr : Tok
  tm : Tok
section
local macro_rules | `(tactic| walk_at "call builtin:min cons nil") => `(tactic| refine Hold.mk ?_)
local macro_rules | `(tactic| walk_at "setItem ref int") => `(tactic| refine Hold.mk ?_)
local macro_rules | `(tactic| walk_at "call type:list cons nil") => `(tactic| refine Hold.mk ?_)
local macro_rules | `(tactic| walk_at "call ref cons nil") => `(tactic| refine Hold.mk ?_)
local macro_rules | `(tactic| walk_at "eval BoolOp Or cons") => `(tactic| ((with_reducible show wpAny _ _ (eval (Expr.BoolOp BoolOp.Or [Expr.Name _ _, Expr.Constant Const.none 0 _] _) _) _ _ _); refine or_none ?_))
local macro_rules | `(tactic| walk_at "exec While BoolOp cons nil") => `(tactic| refine Hold.mk ?_)
local macro_rules | `(tactic| walk_at "exec For Name Call cons nil") => `(tactic| refine Hold.mk ?_)
local macro_rules | `(tactic| walk_at "pyIter ref") => `(tactic| refine Hold.mk ?_)
local macro_rules | `(tactic| walk_at "subscriptTail Name Slice str ref") => `(tactic| refine Hold.mk ?_)
local macro_rules | `(tactic| walk_at "truthy str") => `(tactic| (first | refine txt_truthy (NE.out (by assumption)) (by first | omega | (simp; omega)) ?_ | refine txt_truthy (by assumption) (by first | omega | (simp; omega)) ?_); intro _)
local macro_rules | `(tactic| walk_at "subscriptTail Name BinOp str int") => `(tactic| (refine KXi.item (by assumption) (by omega) (by omega) (by omega) ?_; intro _))
local macro_rules | `(tactic| walk_at "execs cons") => `(tactic| ((with_reducible show wpAny _ _ (execs [Stmt.AugAssign (Expr.Name (Str.ofString "post") _) _ _ _] _) _ _ _); refine wpAny_execs_cons ?_; dsimp only))
theorem lev_ca (w : World) (mean : ExcName → Option Value) (mg mb : Str → Option Value) (news : List (Addr × Obj)) (H U V T : List Nat) (n : Nat) (mx : Int) (t u v : Tok) :
    Ca w mean mg mb 28 2 news (U.length = n ∧ V.length = n ∧ 1 ≤ n ∧ n ≤ 10 ∧ H.length ≤ 10 ∧ T.length ≤ 10 ∧ U.getD 0 0 ≠ V.getD 0 0 ∧ U.getD (n - 1) 0 ≠ V.getD (n - 1) 0 ∧ 0 ≤ mx ∧ ∀ b, b < n → (dpRows (levCost U V) n (b + 1)).m ≤ mx) [.str (txt (H ++ (U ++ T))) t, .str (txt (H ++ (V ++ T))) u, .int mx v] (fun t => .int (dpRows (levCost U V) n n).r t) := by
  unfold Ca; dsimp only [CbRet]
  w_top off
  k_fill
  intro dp un gd cn cs a ccd cl outer A₀ base h₀ L m s Q E B F X N TT hk ⟨hU, hV, hn1, hn2, hH, hT, hd0, hd1, hmx, hbail⟩ hdp hun hret
  have lx : (txt (H ++ (U ++ T))).length = H.length + n + T.length := by rw [txt_length]; simp; omega
  have ly : (txt (H ++ (V ++ T))).length = H.length + n + T.length := by rw [txt_length]; simp; omega
  refine wpAny_call ?_
  k_dflt cell_enter
  k_steps
  · exfalso
    rename ((txt _ == txt _) = true) => he
    have he := txt_inj.mp he
    have he2 := List.append_inj_left (List.append_cancel_left he) (by omega)
    exact hd0 (by rw [he2])
  refine Hold.out ?_
  rename Fr _ _ _ _ => F2
  rename News _ _ _ _ => N2
  refine while_to (σ := Int × Tok) (fun _ => news) (fun c => [(Str.ofString "pre", .int c.1 c.2)]) (fun c => 0 ≤ c.1 ∧ c.1 ≤ H.length) (fun c => c.1 = H.length) (fun c => (H.length - c.1).toNat) (0, _) F2 N2 (by exact List.forall_mem_cons.mpr ⟨by with_unfolding_all rfl, List.forall_mem_nil _⟩) ⟨by omega, by omega⟩ ?_ ?_
  · rintro ⟨p, tp⟩ h3 tk3 ⟨hp0, hp1⟩ F3 N3
    clear F2 N2
    dsimp only at hp0 hp1 F3
    have hit := pre_hit (T := T) hp0 hp1 (U := U) (V := V) (by omega) (by omega) hd0
    obtain ⟨q, hq⟩ := Int.eq_ofNat_of_zero_le hp0
    have ne1 : (H ++ (U ++ T)).drop q ≠ [] := by intro h; have := congrArg List.length h; simp at this; omega
    have ne2 : (H ++ (V ++ T)).drop q ≠ [] := by intro h; have := congrArg List.length h; simp at this; omega
    k_steps
    refine Hold.out ?_
    refine slice_F (s := ⟨_, _, _, _, _⟩) q hq (by simp; omega) F3 N3 (by simp; omega) ?_
    clear F3 N3
    intro h4 t4 k4 F4 N4
    k_steps
    refine Hold.out ?_
    refine slice_F (s := ⟨_, _, _, _, _⟩) q hq (by simp; omega) F4 N4 (by simp; omega) ?_
    clear F4 N4
    intro h5 t5 k5 F5 N5
    k_steps
    · rename ((Txt.item _ _ == Txt.item _ _) = true) => he
      rw [hit] at he
      simp only [decide_eq_true_eq] at he
      rename Fr _ _ _ _ => F9
      rename News _ _ _ _ => N9
      dsimp only
      refine ⟨(p + 1, _), _, _, _, _, rfl, F9, N9, fun q hq => hq, List.forall_mem_cons.mpr ⟨by with_unfolding_all rfl, List.forall_mem_nil _⟩, fun z hz => ?_, ⟨by dsimp only; omega, by dsimp only; omega⟩, by dsimp only; omega⟩
      have hz := hz _ List.mem_cons_self
      dsimp only at hz
      simp [kstB, hz]
    · rename ((Txt.item _ _ == Txt.item _ _) = false) => he
      rw [hit] at he
      simp only [decide_eq_false_iff_not] at he
      rename Fr _ _ _ _ => F9
      rename News _ _ _ _ => N9
      refine ⟨(p, tp), _, _, _, _, rfl, F9, N9, fun q hq => hq, List.forall_mem_cons.mpr ⟨by with_unfolding_all rfl, List.forall_mem_nil _⟩, fun z hz => ?_, by dsimp only; omega⟩
      have hz := hz _ List.mem_cons_self
      dsimp only at hz
      simp [kstB, hz]
  · rintro ⟨p, tp⟩ h3 tk3 hp F3 N3
    clear F2 N2
    dsimp only at hp F3
    subst hp
    have lx2 : (txt (U ++ T)).length = n + T.length := by rw [txt_length]; simp; omega
    have ly2 : (txt (V ++ T)).length = n + T.length := by rw [txt_length]; simp; omega
    k_steps
    refine Hold.out ?_
    refine slice_F (s := ⟨_, _, _, _, _⟩) H.length rfl (by simp) F3 N3 (by simp; omega) ?_
    clear F3 N3
    intro h4 t4 k4 F4 N4
    rw [List.drop_left]
    k_steps
    refine Hold.out ?_
    rename Fr _ _ _ _ => F5
    rename News _ _ _ _ => N5
    refine slice_F (s := ⟨_, _, _, _, _⟩) H.length rfl (by simp) F5 N5 (by simp; omega) ?_
    clear F5 N5
    intro h6 t6 k6 F6 N6
    rw [List.drop_left]
    k_steps
    refine Hold.out ?_
    rename Fr _ _ _ _ => F7
    rename News _ _ _ _ => N7
    refine while_to (σ := Int × Tok) (fun _ => news) (fun c => [(Str.ofString "post", .int c.1 c.2)]) (fun c => c.1 ≤ 0 ∧ -c.1 ≤ T.length) (fun c => c.1 = -T.length) (fun c => (T.length + c.1).toNat) (0, _) F7 N7 (by exact List.forall_mem_cons.mpr ⟨by with_unfolding_all rfl, List.forall_mem_nil _⟩) ⟨by omega, by omega⟩ ?_ ?_
    · rintro ⟨p, tp⟩ h8 tk8 ⟨hp0, hp1⟩ F8 N8
      clear F7 N7
      dsimp only at hp0 hp1 F8
      obtain ⟨c, hc⟩ := Int.eq_ofNat_of_zero_le (a := -p) (by omega)
      have hit := Hold.out (post_hit (U := U) (V := V) (T := T) (p := p - 1) (c := c) (n := n) (by omega) (by omega) hn1 hU hV hd1)
      have ne1 : NE (U ++ T) := by intro h; have := congrArg List.length h; rw [List.length_append, List.length_nil] at this; omega
      have ne2 : NE (V ++ T) := by intro h; have := congrArg List.length h; rw [List.length_append, List.length_nil] at this; omega
      have ne3 : NE ((U ++ T).take ((U ++ T).length - c)) := by intro h; have := congrArg List.length h; rw [List.length_take, List.length_append, List.length_nil] at this; omega
      have ne4 : NE ((V ++ T).take ((V ++ T).length - c)) := by intro h; have := congrArg List.length h; rw [List.length_take, List.length_append, List.length_nil] at this; omega
      k_steps
      refine Hold.out ?_
      rename OrN _ _ _ => hv
      refine slice_O (s := ⟨_, _, _, _, _⟩) c hv (by omega) (by simp; omega) F8 N8 (by simp; omega) ?_
      clear F8 N8 hv
      intro h9 t9 k9 F9 N9
      k_steps
      refine Hold.out ?_
      rename OrN _ _ _ => hv2
      refine slice_O (s := ⟨_, _, _, _, _⟩) c hv2 (by omega) (by simp; omega) F9 N9 (by simp; omega) ?_
      clear F9 N9 hv2
      intro h10 t10 k10 F10 N10
      k_steps
      · rename ((Txt.item _ _ == Txt.item _ _) = true) => he
        rw [hit.mk] at he
        simp only [decide_eq_true_eq] at he
        rename Fr _ _ _ _ => F11
        rename News _ _ _ _ => N11
        dsimp only
        refine ⟨(p - 1, _), _, _, _, _, rfl, F11, N11, fun q hq => hq, List.forall_mem_cons.mpr ⟨by with_unfolding_all rfl, List.forall_mem_nil _⟩, fun z hz => ?_, ⟨by dsimp only; omega, by dsimp only; omega⟩, by dsimp only; omega⟩
        have hz := hz _ List.mem_cons_self
        dsimp only at hz
        simp [kstB, hz]
      · rename ((Txt.item _ _ == Txt.item _ _) = false) => he
        rw [hit.mk] at he
        simp only [decide_eq_false_iff_not] at he
        rename Fr _ _ _ _ => F11
        rename News _ _ _ _ => N11
        refine ⟨(p, tp), _, _, _, _, rfl, F11, N11, fun q hq => hq, List.forall_mem_cons.mpr ⟨by with_unfolding_all rfl, List.forall_mem_nil _⟩, fun z hz => ?_, by dsimp only; omega⟩
        have hz := hz _ List.mem_cons_self
        dsimp only at hz
        simp [kstB, hz]
    · rintro ⟨p, tp⟩ h8 tk8 hp F8 N8
      clear F7 N7
      dsimp only at hp F8
      subst hp
      k_steps
      rename OrN _ _ _ => hv1
      refine Hold.out ?_
      refine slice_O (s := ⟨_, _, _, _, _⟩) T.length hv1 rfl (by simp) F8 N8 (by simp; omega) ?_
      clear F8 N8
      intro h9 t9 k9 F9 N9
      rw [show (U ++ T).length - T.length = U.length by simp, List.take_left]
      k_steps
      rename OrN _ _ _ => hv2
      refine Hold.out ?_
      rename Fr _ _ _ _ => F10
      rename News _ _ _ _ => N10
      refine slice_O (s := ⟨_, _, _, _, _⟩) T.length hv2 rfl (by simp) F10 N10 (by simp; omega) ?_
      clear F10 N10
      intro h11 t11 k11 F11 N11
      rw [show (V ++ T).length - T.length = V.length by simp, List.take_left]
      have lU : (txt U).length = n := by rw [txt_length]; omega
      have lV : (txt V).length = n := by rw [txt_length]; omega
      have nU : NE U := by intro h; rw [h] at hU; simp at hU; omega
      have nV : NE V := by intro h; rw [h] at hV; simp at hV; omega
      k_steps
      refine Hold.out ?_
      rename IsRange _ _ _ _ _ _ _ _ => hr
      rename Fr _ _ _ _ => F12
      rename News _ _ _ _ => N12
      have eU : ((txt U).length : Int) = (n : Int) := by rw [lU]
      rw [eU] at hr
      refine list_rngK n rfl F12 N12 hr (small_of (by omega) (by omega) (by omega)) (rangeSize_two n) (by omega) ?_
      clear F12 N12
      intro D h13 tk13 ys k13 F13 N13 hD hys
      k_steps
      refine Hold.out ?_
      rename Fr _ _ _ _ => F14
      rename News _ _ _ _ => N14
      refine For_invVF F14 rfl rfl ?_
      k_steps
      refine Hold.out ?_
      rename IsRange _ _ _ _ _ _ _ _ => hr2
      rename Fr _ _ _ _ => F15
      rename News _ _ _ _ => N15
      obtain ⟨mB, hmB⟩ := name_map F15
      have eV : ((txt V).length : Int) = (n : Int) := by rw [lV]
      rw [eV] at hr2
      refine for_rng (σ := List Value × Int × Tok) (n := n) (fun c => (D, listOf c.1.toArray k13) :: news) (fun c => [(Str.ofString "result", .int c.2.1 c.2.2)]) [Str.ofString "bchar", Str.ofString "distance", Str.ofString "minimum", Str.ofString "index", Str.ofString "substitute", Str.ofString "insert_delete"] (fun b c => IntsAre c.1 (dpRows (levCost U V) n b).w ∧ c.2.1 = (dpRows (levCost U V) n b).r) (ys, 0, _) (D :: news.map (·.1)) rfl hr2 (small_of (by omega) (by omega) (by omega)) (rangeSize_one n) F15 N15 (by exact List.forall_mem_cons.mpr ⟨by with_unfolding_all rfl, List.forall_mem_nil _⟩) (by simp) ⟨hys, rfl⟩ ?_ ?_
      · rintro b ⟨vs, r, tr⟩ t16 u16 h16 tk16 own hb ⟨hvs, hr⟩ hoff F16 N16
        dsimp only at hvs hr F16 N16
        have hvl := hvs.length
        rw [dpRows_length] at hvl
        k_steps
        refine Hold.out ?_
        rename Fr _ _ _ _ => F17
        rename News _ _ _ _ => N17
        refine For_invVF F17 rfl rfl ?_
        k_steps
        refine Hold.out ?_
        rename IsRange _ _ _ _ _ _ _ _ => hr3
        rename Fr _ _ _ _ => F18
        rename News _ _ _ _ => N18
        obtain ⟨mA, hmA⟩ := name_map F18
        rw [eU] at hr3
        refine for_rng (σ := IS) (n := n) (fun c => (D, listOf c.vs.toArray k13) :: news ++ own) (fun c => [(Str.ofString "distance", .int c.d c.td), (Str.ofString "result", .int c.r c.tr), (Str.ofString "minimum", .int c.m c.tm)]) [Str.ofString "substitute", Str.ofString "insert_delete"]
          (fun i c => IntsAre c.vs (dpRow (levCost U V b) ((b : Int) * 2) (dpRows (levCost U V) n b).w i).w ∧ c.d = (dpRow (levCost U V b) ((b : Int) * 2) (dpRows (levCost U V) n b).w i).d ∧ c.r = (dpRow (levCost U V b) ((b : Int) * 2) (dpRows (levCost U V) n b).w i).r ∧ c.m = (dpRow (levCost U V b) ((b : Int) * 2) (dpRows (levCost U V) n b).w i).m)
          ⟨vs, _, _, _, _, _, _⟩ (D :: news.map (·.1) ++ own.map (·.1)) rfl hr3 (small_of (by omega) (by omega) (by omega)) (rangeSize_one n) F18 N18 (by exact List.forall_mem_cons.mpr ⟨by with_unfolding_all rfl, List.forall_mem_cons.mpr ⟨by with_unfolding_all rfl, List.forall_mem_cons.mpr ⟨by with_unfolding_all rfl, List.forall_mem_nil _⟩⟩⟩) (by simp) ?_ ?_ ?_
        · refine ⟨hvs, ?_, ?_, ?_⟩
          · show (0 + (b : Int) * 1) * 2 = (b : Int) * 2; omega
          · show (0 + (b : Int) * 1) * 2 = (b : Int) * 2; omega
          · rfl
        · rintro i ⟨vs', d, r', mm, td, tr', tm⟩ t19 u19 h19 tk19 own2 hi ⟨hvs', hd, hr', hm⟩ hoff2 F19 N19
          dsimp only at hvs' hd hr' hm F19 N19
          have ei : (0 + (i : Int) * 1).toNat = i := by omega
          have hvl' := hvs'.length
          rw [dpRow_length, dpRows_length] at hvl'
          k_steps
          refine Hold.out ?_
          rename Fr _ _ _ _ => F20
          rename News _ _ _ _ => N20
          rename Below _ _ _ _ => B20
          rename Frag.In _ _ => X20
          rename Top _ _ _ _ _ _ => T20
          have hc : subCost (Txt.item (txt V) (0 + (b : Int) * 1)) (Txt.item (txt U) (0 + (i : Int) * 1)) = levCost U V b i := by
            rw [item_nat (q := b) (by omega) (by omega), item_nat (q := i) (by omega) (by omega)]; rfl
          refine ca_use (sub_ca w _ _ _ _ _ _ _ _) B20 F20 X20 N20 T20 rfl ⟨by rw [item_nat (q := b) (by omega) (by omega), txt_length]; simp, by rw [item_nat (q := i) (by omega) (by omega), txt_length]; simp⟩ ?_ ?_ ?_
          · ktr_room
          · ktr_units
          · intro t21 h21 tk21 F21 N21
            rw [hc]
            k_steps
            refine Hold.out ?_
            rename Fr _ _ _ _ => F22
            rename News _ _ _ _ => N22
            refine min_K (c := if (dpRow (levCost U V b) ((b : Int) * 2) (dpRows (levCost U V) n b).w i).w.getD i 0 < (dpRow (levCost U V b) ((b : Int) * 2) (dpRows (levCost U V) n b).w i).r then (dpRow (levCost U V b) ((b : Int) * 2) (dpRows (levCost U V) n b).w i).w.getD i 0 else (dpRow (levCost U V b) ((b : Int) * 2) (dpRows (levCost U V) n b).w i).r) (by rw [ei, hr']) rfl F22 N22 ?_
            clear F22 N22
            intro h23 tk23 t23 F23 N23
            k_steps
            refine Hold.out ?_
            rename Fr _ _ _ _ => F24
            rename News _ _ _ _ => N24
            refine min_K (c := (dpRow (levCost U V b) ((b : Int) * 2) (dpRows (levCost U V) n b).w (i + 1)).r) (by rw [hd]; rfl) rfl F24 N24 ?_
            clear F24 N24
            intro h25 tk25 t25 F25 N25
            k_steps
            refine Hold.out ?_
            rename Fr _ _ _ _ => F26
            rename News _ _ _ _ => N26
            refine row_set_K (rest := news ++ own ++ own2) (ns := (dpRow (levCost U V b) ((b : Int) * 2) (dpRows (levCost U V) n b).w i).w) F26 N26 ?_ hvs' i (by omega) (by rw [dpRow_length, dpRows_length]; omega) (by rw [dpRow_length, dpRows_length]; omega) ?_
            · intro p hp
              rcases List.mem_append.mp hp with hp | hp
              · rcases List.mem_append.mp hp with hp | hp
                · exact hD p hp
                · exact hoff p hp D List.mem_cons_self
              · exact hoff2 p hp D (by simp)
            · clear F26 N26
              intro h27 F27 N27 hvs2
              k_steps
              · rename Fr _ _ _ _ => F28
                rename News _ _ _ _ => N28
                refine ⟨⟨vs'.set i (.int (dpRow (levCost U V b) ((b : Int) * 2) (dpRows (levCost U V) n b).w (i + 1)).r t25), _, (dpRow (levCost U V b) ((b : Int) * 2) (dpRows (levCost U V) n b).w (i + 1)).r, _, _, _, _⟩, _, _, _, _, rfl, F28, N28, ?_, ?_, (by exact List.forall_mem_cons.mpr ⟨by with_unfolding_all rfl, List.forall_mem_cons.mpr ⟨by with_unfolding_all rfl, List.forall_mem_cons.mpr ⟨by with_unfolding_all rfl, List.forall_mem_nil _⟩⟩⟩), ?_, hvs2, ?_, rfl, ?_⟩
                · intro p hp
                  simp only [List.cons_append, List.mem_cons, List.mem_append] at hp ⊢
                  rcases hp with hp | hp | hp
                  · exact .inl hp
                  · exact .inr (.inl (.inl hp))
                  · exact .inr (.inl (.inr hp))
                · intro p hp
                  exact List.mem_cons_of_mem _ (List.mem_append_right _ hp)
                · intro z hz hp hst
                  have z1 := hp _ List.mem_cons_self
                  have z2 := hp _ (List.mem_cons_of_mem _ List.mem_cons_self)
                  have z3 := hp _ (List.mem_cons_of_mem _ (List.mem_cons_of_mem _ List.mem_cons_self))
                  have z4 : z ≠ Str.ofString "substitute" := by intro e; subst e; simp at hst
                  have z5 : z ≠ Str.ofString "insert_delete" := by intro e; subst e; simp at hst
                  dsimp only at z1 z2 z3
                  refine Eq.trans (Eq.trans ?_ (kst_out (u := u19) (mm := mA) (ps := [(Str.ofString "distance", Value.int d td), (Str.ofString "result", Value.int r' tr'), (Str.ofString "minimum", Value.int mm tm)]) hst ?_)) (congrFun hmA z)
                  · subst hmA
                    simp only [if_neg z1, if_neg z2, if_neg z3, if_neg z4, if_neg z5, if_neg hz]
                  intro p hp'
                  rcases List.mem_cons.mp hp' with rfl | hp'
                  · exact z1
                  rcases List.mem_cons.mp hp' with rfl | hp'
                  · exact z2
                  rcases List.mem_cons.mp hp' with rfl | hp'
                  · exact z3
                  cases hp'
                · dsimp only
                  rw [ei]; rfl
                · show _ = if _ < _ then _ else _
                  rw [← hm]
                  dsimp only
                  first
                    | (rename (_ < mm) => hlt; exact (if_pos hlt).symm)
                    | (rename (¬ _ < mm) => hlt; exact (if_neg hlt).symm)
                    | (rename (mm ≤ _) => hlt; exact (if_neg (Int.not_lt.mpr hlt)).symm)
              · rename Fr _ _ _ _ => F28
                rename News _ _ _ _ => N28
                refine ⟨⟨vs'.set i (.int (dpRow (levCost U V b) ((b : Int) * 2) (dpRows (levCost U V) n b).w (i + 1)).r t25), _, (dpRow (levCost U V b) ((b : Int) * 2) (dpRows (levCost U V) n b).w (i + 1)).r, _, _, _, _⟩, _, _, _, _, rfl, F28, N28, ?_, ?_, (by exact List.forall_mem_cons.mpr ⟨by with_unfolding_all rfl, List.forall_mem_cons.mpr ⟨by with_unfolding_all rfl, List.forall_mem_cons.mpr ⟨by with_unfolding_all rfl, List.forall_mem_nil _⟩⟩⟩), ?_, hvs2, ?_, rfl, ?_⟩
                · intro p hp
                  simp only [List.cons_append, List.mem_cons, List.mem_append] at hp ⊢
                  rcases hp with hp | hp | hp
                  · exact .inl hp
                  · exact .inr (.inl (.inl hp))
                  · exact .inr (.inl (.inr hp))
                · intro p hp
                  exact List.mem_cons_of_mem _ (List.mem_append_right _ hp)
                · intro z hz hp hst
                  have z1 := hp _ List.mem_cons_self
                  have z2 := hp _ (List.mem_cons_of_mem _ List.mem_cons_self)
                  have z3 := hp _ (List.mem_cons_of_mem _ (List.mem_cons_of_mem _ List.mem_cons_self))
                  have z4 : z ≠ Str.ofString "substitute" := by intro e; subst e; simp at hst
                  have z5 : z ≠ Str.ofString "insert_delete" := by intro e; subst e; simp at hst
                  dsimp only at z1 z2 z3
                  refine Eq.trans (Eq.trans ?_ (kst_out (u := u19) (mm := mA) (ps := [(Str.ofString "distance", Value.int d td), (Str.ofString "result", Value.int r' tr'), (Str.ofString "minimum", Value.int mm tm)]) hst ?_)) (congrFun hmA z)
                  · subst hmA
                    simp only [if_neg z1, if_neg z2, if_neg z3, if_neg z4, if_neg z5, if_neg hz]
                  intro p hp'
                  rcases List.mem_cons.mp hp' with rfl | hp'
                  · exact z1
                  rcases List.mem_cons.mp hp' with rfl | hp'
                  · exact z2
                  rcases List.mem_cons.mp hp' with rfl | hp'
                  · exact z3
                  cases hp'
                · dsimp only
                  rw [ei]; rfl
                · show _ = if _ < _ then _ else _
                  rw [← hm]
                  dsimp only
                  first
                    | (rename (_ < mm) => hlt; exact (if_pos hlt).symm)
                    | (rename (¬ _ < mm) => hlt; exact (if_neg hlt).symm)
                    | (rename (mm ≤ _) => hlt; exact (if_neg (Int.not_lt.mpr hlt)).symm)
        · rintro ⟨vs3, d3, r3, m3, td3, tr3, tm3⟩ u3 h30 tk30 ⟨hvs3, hd3, hr3', hm3⟩ F30 N30
          dsimp only at hvs3 hd3 hr3' hm3 F30 N30
          have hb3 := hbail b hb
          rw [dpRows, ← hm3] at hb3
          k_steps
          rename Fr _ _ _ _ => F31
          rename News _ _ _ _ => N31
          refine ⟨(vs3, r3, _), _, _, _, _, rfl, F31, N31, ?_, ?_, (by exact List.forall_mem_cons.mpr ⟨by with_unfolding_all rfl, List.forall_mem_nil _⟩), ?_, hvs3, hr3'⟩
          · intro p hp
            exact List.mem_append_left _ hp
          · intro p hp
            exact List.mem_append_right _ hp
          · intro z hz hp hst
            have z1 := hp _ List.mem_cons_self
            dsimp only at z1
            have z2 : z ≠ Str.ofString "bchar" := by intro e; subst e; simp at hst
            have z3 : z ≠ Str.ofString "distance" := by intro e; subst e; simp at hst
            have z4 : z ≠ Str.ofString "minimum" := by intro e; subst e; simp at hst
            have z5 : z ≠ Str.ofString "index" := by intro e; subst e; simp at hst
            have z6 : z ≠ Str.ofString "substitute" := by intro e; subst e; simp at hst
            have z7 : z ≠ Str.ofString "insert_delete" := by intro e; subst e; simp at hst
            have hl2 : [Str.ofString "substitute", Str.ofString "insert_delete"].contains z = false := by
              simp only [List.contains_cons, List.contains_nil, Bool.or_false, Bool.or_eq_false_iff, beq_eq_false_iff_ne]
              exact ⟨z6, z7⟩
            refine Eq.trans (if_neg z5) (Eq.trans (kst_out (u := u3) (ps := [(Str.ofString "distance", Value.int d3 td3), (Str.ofString "result", Value.int r3 tr3), (Str.ofString "minimum", Value.int m3 tm3)]) hl2 ?_) ?_)
            · intro p hp'
              rcases List.mem_cons.mp hp' with rfl | hp'
              · exact z3
              rcases List.mem_cons.mp hp' with rfl | hp'
              · exact z1
              rcases List.mem_cons.mp hp' with rfl | hp'
              · exact z4
              cases hp'
            · refine Eq.trans (Eq.trans ?_ (kst_out (u := u16) (mm := mB) (ps := [(Str.ofString "result", Value.int r tr)]) hst (List.forall_mem_cons.mpr ⟨z1, List.forall_mem_nil _⟩))) (congrFun hmB z)
              subst hmB
              simp only [if_neg z1, if_neg z2, if_neg z3, if_neg z4, if_neg hz]
      · rintro ⟨vs4, r4, tr4⟩ u4 h40 tk40 ⟨hvs4, hr4⟩ F40 N40
        dsimp only at hvs4 hr4 F40 N40
        k_steps
        rename Fr _ _ _ _ => F41
        rename News _ _ _ _ => N41
        exact cb_retI hret hr4 F41 (fun p hp => N41 p (List.mem_cons_of_mem _ hp))
end
end Mine
end

section
open PySem PySem.W PyProof.Rows PySem.Spec PySem.Calls
namespace Mine
theorem lower_letter : ∀ (b : Fin 26) (c : Fin 2), Txt.lower (txt [97 + b.val - 32 * c.val]) = txt [97 + b.val] := by decide +kernel
theorem sub_letter {b b' c c' : Nat} (hb : b < 26) (hb' : b' < 26) (hc : c ≤ 1) (hc' : c' ≤ 1) :
    subCost (txt [97 + b - 32 * c]) (txt [97 + b' - 32 * c']) = if b = b' ∧ c = c' then 0 else if b = b' then 1 else 2 := by
  have h1 := lower_letter ⟨b, hb⟩ ⟨c, by omega⟩
  have h2 := lower_letter ⟨b', hb'⟩ ⟨c', by omega⟩
  dsimp only at h1 h2
  unfold subCost
  rw [h1, h2]
  have e1 : (txt [97 + b - 32 * c] == txt [97 + b' - 32 * c']) = decide (b = b' ∧ c = c') := by
    rw [Bool.eq_iff_iff, txt_inj, decide_eq_true_eq, List.cons.injEq]
    simp only [and_true]
    omega
  have e2 : (txt [97 + b] == txt [97 + b']) = decide (b = b') := by
    rw [Bool.eq_iff_iff, txt_inj, decide_eq_true_eq, List.cons.injEq]
    simp only [and_true]
    omega
  rw [e1, e2]
  simp only [decide_eq_true_eq]
/-- the row's letters: which letter, which size -/
structure Ring (row : List UInt8) (n : Nat) (b o : Nat → Nat) : Prop where
  len : row.length = n
  get : ∀ k, k < n → row[k]? = some (UInt8.ofNat (97 + b k - 32 * o k))
  hb : ∀ k, k < n → b k < 26
  ho : ∀ k, k < n → o k ≤ 1
  inj : ∀ k l, k < n → l < n → b k = b l → k = l
def rb (n : Nat) (b : Nat → Nat) (x : Nat) : Nat := b (x % n)
def ro (n : Nat) (o : Nat → Nat) (x : Nat) : Nat := if x < n then o x else 1 - o (x - n)
theorem flip_byte : ∀ (b : Fin 26) (c : Fin 2), UInt8.ofNat (97 + b.val - 32 * c.val) ^^^ 32 = UInt8.ofNat (97 + b.val - 32 * (1 - c.val)) := by decide +kernel
theorem Ring.word {row : List UInt8} {n : Nat} {b o : Nat → Nat} (R : Ring row n b o) {i p : Nat} (hi : i < 2 * n) (hp : p < n) :
    (codes (wordOf row n i))[p]? = some (97 + rb n b ((i + p) % (2 * n)) - 32 * ro n o ((i + p) % (2 * n))) := by
  have key : ∀ x, x < n → (row[x]?).map UInt8.toNat = some (97 + b x - 32 * o x) := fun x hx => by
    rw [R.get x hx]
    have := R.hb x hx
    simp
    omega
  have keyf : ∀ x, x < n → ((flip row)[x]?).map UInt8.toNat = some (97 + b x - 32 * (1 - o x)) := fun x hx => by
    have h1 := R.hb x hx
    have h2 := R.ho x hx
    have h3 := flip_byte ⟨b x, h1⟩ ⟨o x, by omega⟩
    dsimp only at h3
    rw [flip, List.getElem?_map, R.get x hx, Option.map_some, h3]
    simp
    omega
  have hlf : (flip row).length = n := by rw [flip_length, R.len]
  unfold codes wordOf
  rw [List.getElem?_map, List.getElem?_take_of_lt hp, List.getElem?_drop]
  have hn : 0 < n := by omega
  rcases Nat.lt_or_ge (i + p) n with h | h
  · rw [List.append_assoc, List.getElem?_append_left (by rw [R.len]; exact h), key _ h, Nat.mod_eq_of_lt (by omega)]
    simp only [rb, ro, if_pos h, Nat.mod_eq_of_lt h]
  · rcases Nat.lt_or_ge (i + p) (2 * n) with h2 | h2
    · rw [List.append_assoc, List.getElem?_append_right (by rw [R.len]; exact h), R.len, List.getElem?_append_left (by rw [hlf]; omega), keyf _ (by omega), Nat.mod_eq_of_lt h2]
      have e : (i + p) % n = i + p - n := by rw [Nat.mod_eq_sub_mod h, Nat.mod_eq_of_lt (by omega)]
      simp only [rb, ro, if_neg (Nat.not_lt.mpr h), e]
    · rw [List.getElem?_append_right (by rw [List.length_append, R.len, hlf]; omega), List.length_append, R.len, hlf, key _ (by omega)]
      have e : (i + p) % (2 * n) = i + p - 2 * n := by rw [Nat.mod_eq_sub_mod h2, Nat.mod_eq_of_lt (by omega)]
      have e2 : i + p - (n + n) = i + p - 2 * n := by omega
      have h3 : i + p - 2 * n < n := by omega
      rw [e, e2]
      simp only [rb, ro, if_pos h3, Nat.mod_eq_of_lt h3]
def ringCost (n i j : Nat) (b a : Nat) : Int :=
  if (j + b) % (2 * n) = (i + a) % (2 * n) then 0 else if (j + b) % n = (i + a) % n then 1 else 2
theorem Ring.same {row : List UInt8} {n : Nat} {b o : Nat → Nat} (R : Ring row n b o) {x y : Nat} (hx : x < 2 * n) (hy : y < 2 * n) :
    (rb n b x = rb n b y ↔ x % n = y % n) ∧ ((rb n b x = rb n b y ∧ ro n o x = ro n o y) ↔ x = y) := by
  have hn : 0 < n := by omega
  have h1 : rb n b x = rb n b y ↔ x % n = y % n := ⟨fun h => R.inj _ _ (Nat.mod_lt _ hn) (Nat.mod_lt _ hn) h, fun h => by rw [rb, rb, h]⟩
  refine ⟨h1, ?_⟩
  rw [h1]
  constructor
  · rintro ⟨h, ho⟩
    have m1 : ∀ z, z < 2 * n → z % n = if z < n then z else z - n := fun z hz => by
      split
      · rename_i h; exact Nat.mod_eq_of_lt h
      · rename_i h; rw [Nat.mod_eq_sub_mod (by omega), Nat.mod_eq_of_lt (by omega)]
    rw [m1 x hx, m1 y hy] at h
    unfold ro at ho
    by_cases a : x < n <;> by_cases c : y < n
    · rw [if_pos a, if_pos c] at h; exact h
    · rw [if_pos a, if_neg c] at h ho
      subst h
      have := R.ho (y - n) (by omega)
      omega
    · rw [if_neg a, if_pos c] at h ho
      subst h
      have := R.ho (x - n) (by omega)
      omega
    · rw [if_neg a, if_neg c] at h; omega
  · rintro rfl; exact ⟨rfl, rfl⟩
theorem Ring.cost {row : List UInt8} {n : Nat} {b o : Nat → Nat} (R : Ring row n b o) {i j p a : Nat} (hi : i < 2 * n) (hj : j < 2 * n) (hp : p < n) (ha : a < n) :
    levCost (codes (wordOf row n i)) (codes (wordOf row n j)) p a = ringCost n i j p a := by
  have hn : 0 < n := by omega
  have hx := Nat.mod_lt (j + p) (show 0 < 2 * n by omega)
  have hy := Nat.mod_lt (i + a) (show 0 < 2 * n by omega)
  unfold levCost ringCost
  rw [List.getD_eq_getElem?_getD, List.getD_eq_getElem?_getD, R.word hj hp, R.word hi ha]
  simp only [Option.getD_some]
  have so : ∀ z, z < 2 * n → ro n o z ≤ 1 := fun z hz => by
    unfold ro; split
    · exact R.ho _ (by assumption)
    · omega
  have b1 : rb n b ((j + p) % (2 * n)) < 26 := R.hb _ (Nat.mod_lt _ hn)
  have b2 : rb n b ((i + a) % (2 * n)) < 26 := R.hb _ (Nat.mod_lt _ hn)
  rw [sub_letter b1 b2 (so _ hx) (so _ hy)]
  obtain ⟨s1, s2⟩ := R.same hx hy
  rw [Nat.mod_mul_left_mod, Nat.mod_mul_left_mod] at s1
  by_cases h1 : (j + p) % (2 * n) = (i + a) % (2 * n)
  · rw [if_pos (s2.mpr h1), if_pos h1]
  · rw [if_neg (fun h => h1 (s2.mp h)), if_neg h1]
    by_cases h2 : (j + p) % n = (i + a) % n
    · rw [if_pos (s1.mpr h2), if_pos h2]
    · rw [if_neg (fun h => h2 (s1.mp h)), if_neg h2]
theorem Ring.ne {row : List UInt8} {n : Nat} {b o : Nat → Nat} (R : Ring row n b o) {i j p : Nat} (hi : i < 2 * n) (hj : j < 2 * n) (hp : p < n) (hij : i ≠ j) :
    (codes (wordOf row n i)).getD p 0 ≠ (codes (wordOf row n j)).getD p 0 := by
  have hn : 0 < n := by omega
  have hx := Nat.mod_lt (i + p) (show 0 < 2 * n by omega)
  have hy := Nat.mod_lt (j + p) (show 0 < 2 * n by omega)
  rw [List.getD_eq_getElem?_getD, List.getD_eq_getElem?_getD, R.word hi hp, R.word hj hp]
  simp only [Option.getD_some]
  intro h
  have so : ∀ z, z < 2 * n → ro n o z ≤ 1 := fun z hz => by
    unfold ro; split
    · exact R.ho _ (by assumption)
    · omega
  have b1 : rb n b ((i + p) % (2 * n)) < 26 := R.hb _ (Nat.mod_lt _ hn)
  have b2 : rb n b ((j + p) % (2 * n)) < 26 := R.hb _ (Nat.mod_lt _ hn)
  have o1 := so _ hx
  have o2 := so _ hy
  have e := (R.same hx hy).2.mp (by omega)
  have h1 : ∀ i, i < 2 * n → (i + p) % (2 * n) = if i + p < 2 * n then i + p else i + p - 2 * n := fun i hi => by
    split
    · rename_i h; exact Nat.mod_eq_of_lt h
    · rename_i h; rw [Nat.mod_eq_sub_mod (by omega), Nat.mod_eq_of_lt (by omega)]
  rw [h1 i hi, h1 j hj] at e
  split at e <;> split at e <;> omega
def min2 (a b : Int) : Int := if b < a then b else a
def dueOf (n i j : Nat) : Int :=
  let a : Int := ((j : Int) - (i : Int)).fmod (2 * (n : Int))
  let d := min2 a (2 * (n : Int) - a)
  min2 (min2 (4 * d) (4 * (n : Int) - 3 * d)) (2 * (n : Int))
def chk (n : Nat) : Bool := (List.range (2 * n)).all fun i => (List.range (2 * n)).all fun j => i == j || ((dpRows (ringCost n i j) n n).r == dueOf n i j && (List.range n).all fun b => decide ((dpRows (ringCost n i j) n (b + 1)).m ≤ dueOf n i j))
theorem chk3 : chk 3 = true := by decide +kernel
theorem chk4 : chk 4 = true := by decide +kernel
theorem chk5 : chk 5 = true := by decide +kernel
theorem due_same : ∀ n : Fin 6, ∀ i : Fin 10, i.val < 2 * n.val → dueOf n.val i.val i.val = 0 := by decide +kernel
theorem dpRow_congr {c c' : Nat → Int} {b : Int} {w : List Int} : ∀ {n : Nat}, (∀ i, i < n → c i = c' i) → dpRow c b w n = dpRow c' b w n
  | 0, _ => rfl
  | n + 1, h => by rw [dpRow, dpRow, dpRow_congr fun i hi => h i (Nat.lt_succ_of_lt hi), h n (Nat.lt_succ_self n)]
theorem dpRows_congr {c c' : Nat → Nat → Int} {n : Nat} : ∀ {k : Nat}, (∀ b i, b < k → i < n → c b i = c' b i) → dpRows c n k = dpRows c' n k
  | 0, _ => rfl
  | k + 1, h => by rw [dpRows, dpRows, dpRows_congr fun b i hb hi => h b i (Nat.lt_succ_of_lt hb) hi, dpRow_congr fun i hi => h k i (Nat.lt_succ_self k) hi]
theorem chk_out {n i j : Nat} (h : chk n = true) (hi : i < 2 * n) (hj : j < 2 * n) (hij : i ≠ j) :
    (dpRows (ringCost n i j) n n).r = dueOf n i j ∧ ∀ b, b < n → (dpRows (ringCost n i j) n (b + 1)).m ≤ dueOf n i j := by
  unfold chk at h
  rw [List.all_eq_true] at h
  have h1 := h i (List.mem_range.mpr hi)
  rw [List.all_eq_true] at h1
  have h2 := h1 j (List.mem_range.mpr hj)
  simp only [Bool.or_eq_true, beq_iff_eq, Bool.and_eq_true, List.all_eq_true, decide_eq_true_eq] at h2
  rcases h2 with h2 | h2
  · exact absurd h2 hij
  · exact ⟨h2.1, fun b hb => h2.2 b (List.mem_range.mpr hb)⟩
theorem Ring.dp {row : List UInt8} {n : Nat} {b o : Nat → Nat} (R : Ring row n b o) (h3 : 3 ≤ n) (h5 : n ≤ 5) {i j : Nat} (hi : i < 2 * n) (hj : j < 2 * n) (hij : i ≠ j) :
    (dpRows (levCost (codes (wordOf row n i)) (codes (wordOf row n j))) n n).r = dueOf n i j ∧ ∀ b, b < n → (dpRows (levCost (codes (wordOf row n i)) (codes (wordOf row n j))) n (b + 1)).m ≤ dueOf n i j := by
  have hc : chk n = true := by
    have : n = 3 ∨ n = 4 ∨ n = 5 := by omega
    rcases this with rfl | rfl | rfl
    · exact chk3
    · exact chk4
    · exact chk5
  obtain ⟨e1, e2⟩ := chk_out hc hi hj hij
  constructor
  · rw [dpRows_congr fun b' a hb' ha => R.cost hi hj hb' ha]; exact e1
  · intro b' hb'
    rw [dpRows_congr fun b a hb ha => R.cost hi hj (by omega) ha]; exact e2 b' hb'
end Mine
end

section
open PySem PySem.W PyProof.Rows PySem.Spec PySem.Calls
namespace Mine
local macro_rules | `(tactic| walk_at "exec Assign cons Constant") => `(tactic| refine Hold.mk ?_)
theorem lev_same_ca (w : World) (mean : ExcName → Option Value) (mg mb : Str → Option Value) (news : List (Addr × Obj)) (x : Str) (mx : Int) (t u v : Tok) :
    Ca w mean mg mb 28 2 news (x.length ≤ 100) [.str x t, .str x u, .int mx v] (fun t => .int 0 t) := by
  unfold Ca; dsimp only [CbRet]
  w_top off
  k_fill
  intro dp un gd cn cs a ccd cl outer A₀ base h₀ L m s Q E B F X N TT hk hx hdp hun hret
  refine wpAny_call ?_
  k_dflt cell_enter
  k_steps
  · rename Fr _ _ _ _ => F1
    rename News _ _ _ _ => N1
    exact cb_retI hret rfl F1 N1
  · exfalso
    rename ((_ == _) = false) => hne
    simp at hne
theorem Ca.weak {w : World} {mean : ExcName → Option Value} {mg mb : Str → Option Value} {f : Addr} {k : Nat} {news : List (Addr × Obj)} {pre pre' : Prop} {vs : List Value} {R : Tok → Value} (hp : pre' → pre) (C : Ca w mean mg mb f k news pre vs R) : Ca w mean mg mb f k news pre' vs R :=
  fun dp un gd cn cs a ccd cl outer A₀ base h₀ L m s Q E h1 h2 h3 h4 h5 h6 h7 h8 h9 h10 => C dp un gd cn cs a ccd cl outer A₀ base h₀ L m s Q E h1 h2 h3 h4 h5 h6 (hp h7) h8 h9 h10
theorem due_nonneg : ∀ n : Fin 6, ∀ i j : Fin 10, i.val < 2 * n.val → j.val < 2 * n.val → 0 ≤ dueOf n.val i.val j.val := by decide +kernel
theorem codes_length (d : List UInt8) : (codes d).length = d.length := by simp [codes]
theorem lev_due (w : World) (mean : ExcName → Option Value) (mg mb : Str → Option Value) (news : List (Addr × Obj)) {row : List UInt8} {n : Nat} {b o : Nat → Nat} (R : Ring row n b o) (h3 : 3 ≤ n) (h5 : n ≤ 5) {i j : Nat} (hi : i < 2 * n) (hj : j < 2 * n)
    (H T : List Nat) (mx : Int) (t u v : Tok) (x y : Str) (ex : x = txt (H ++ (codes (wordOf row n i) ++ T))) (ey : y = txt (H ++ (codes (wordOf row n j) ++ T))) :
    Ca w mean mg mb 28 2 news (H.length ≤ 10 ∧ T.length ≤ 10 ∧ dueOf n i j ≤ mx) [.str x t, .str y u, .int mx v] (fun t => .int (dueOf n i j) t) := by
  subst ex ey
  have lw : ∀ k, k < 2 * n → (codes (wordOf row n k)).length = n := fun k hk => by rw [codes_length, wordOf_length R.len hk]
  have h0 := due_nonneg ⟨n, by omega⟩ ⟨i, by omega⟩ ⟨j, by omega⟩ hi hj
  dsimp only at h0
  by_cases hij : i = j
  · subst hij
    have hd := due_same ⟨n, by omega⟩ ⟨i, by omega⟩ hi
    dsimp only at hd
    rw [hd]
    refine Ca.weak ?_ (lev_same_ca w mean mg mb news _ mx t u v)
    rintro ⟨h1, h2, _⟩
    have := lw i hi
    rw [txt_length, List.length_append, List.length_append, this]
    omega
  · obtain ⟨e1, e2⟩ := R.dp h3 h5 hi hj hij
    rw [← e1]
    refine Ca.weak ?_ (lev_ca w mean mg mb news H (codes (wordOf row n i)) (codes (wordOf row n j)) T n mx t u v)
    rintro ⟨h1, h2, hm⟩
    rw [e1] at hm
    exact ⟨lw i hi, lw j hj, by omega, by omega, h1, h2, R.ne hi hj (by omega) hij, R.ne hi hj (by omega) hij, by omega, fun b hb => Int.le_trans (e2 b hb) hm⟩
end Mine
end

section
open PySem PySem.W PyProof.Rows PySem.Spec PySem.Calls
namespace Mine
section
variable {prog : Program} {w : World} {A : Around} {E : Value → Shared → Prop} {s : Shared} {h₀ : Heap} {L D : Addr} {m : Str → Option Value} {news : List (Addr × Obj)}
theorem min_E2 {a b : Int} {t u : Tok} {Q : Value → Shared → Prop} (hh : A.handled = none) (F : Fr h₀ L s.heap m) (N : News h₀ L s.heap news)
    (h : ∀ (c : Int) h' tk t, c = min2 a b → Fr h₀ L h' m → News h₀ L h' news → Q (.int c t) { s with heap := h', toks := tk }) : wpAny (model prog w) A (call (.builtin "min") [.int a t, .int b u]) Q E s :=
  min_two_N hh F N fun h' tk F' N' => h _ h' tk _ rfl F' N'
theorem min_E3 {a b c : Int} {t u x : Tok} {Q : Value → Shared → Prop} (hh : A.handled = none) (F : Fr h₀ L s.heap m) (N : News h₀ L s.heap news)
    (h : ∀ (d : Int) h' tk t, d = min2 (min2 a b) c → Fr h₀ L h' m → News h₀ L h' news → Q (.int d t) { s with heap := h', toks := tk }) : wpAny (model prog w) A (call (.builtin "min") [.int a t, .int b u, .int c x]) Q E s := by
  refine min_three_ints hh fun h' tk hk => ?_
  have key := fun d tok e => h d h' tk tok e (F.grownK hk) (N.grown hk)
  unfold min2 at key
  by_cases hba : b < a
  · rw [if_pos hba] at key ⊢
    by_cases hc : c < b
    · rw [if_pos hc] at key ⊢; exact key _ _ rfl
    · rw [if_neg hc] at key ⊢; exact key _ _ rfl
  · rw [if_neg hba] at key ⊢
    by_cases hc : c < a
    · rw [if_pos hc] at key ⊢; exact key _ _ rfl
    · rw [if_neg hc] at key ⊢; exact key _ _ rfl
theorem word_K {ys : List Value} {x : Str} {k : Int} {u : Tok} {value slice : PySem.Expr} {Q : Value → Shared → Prop} (N : News h₀ L s.heap news) (hm : (D, LCg.lst ys) ∈ news) (j : Nat) (hk : k = (j : Int)) (hj : j < ys.length) (hz : ys.length ≤ 1000)
    (hV : ∀ y, ys[j]? = some y → ∃ t, y = Value.str x t) (h : ∀ t, Q (.str x t) s)
    (hs : subscripted slice false (.ref D) (.int k u) = operate [.ref D, .int k u] (getItem (.ref D) (.int k u)) := by with_unfolding_all rfl) :
    wpAny (model prog w) A (subscriptTail value slice (.ref D) (.int k u)) Q E s := by
  subst hk
  obtain ⟨t, ht⟩ := hV _ (List.getElem?_eq_getElem hj)
  have hl : s.heap.IsList D ys.toArray := ⟨_, (N _ hm).1, rfl, _, rfl⟩
  exact tail_any hl.typeIs slot_list_getitem.lookup (wpAny_getItem_list hl (by omega) (by omega) (by simp [List.getElem?_eq_getElem hj, ht]) (h t)) hs
theorem addT {x y : Str} {t u : Tok} {Q : Value → Shared → Prop} (a b : List Nat) (hx : x = txt a) (hy : y = txt b) (hz : a.length + b.length ≤ 1000) (h : ∀ t k, Q (.str (txt (a ++ b)) t) { s with toks := k }) :
    wpAny (model prog w) A (binaryOp .Add (.str x t) (.str y u)) Q E s := by
  subst hx hy
  refine PyProof.Rows.add_str (fun t' k => ?_) (by rw [txt_length, txt_length, sizeLine_eq]; omega)
  rw [txt_append]; exact h t' k
end
theorem min2_le_right (a b : Int) : min2 a b ≤ b := by
  unfold min2; split <;> omega
theorem s_nil : Str.ofString "" = txt [] := by decide
theorem s_A : Str.ofString "A" = txt [65] := by decide
theorem s_NO : Str.ofString "NO" = txt [78, 79] := by decide
end Mine
end

section
open PySem PySem.W PyProof.Rows PySem.Spec PySem.Calls
namespace Mine
theorem ring_of {T stp : Int} {n : Nat} {es : List Int} {row : List UInt8} (hn : n ≤ 5) (hs : stp ∈ ([1, 3, 5, 7, 9, 11, 15, 17] : List Int)) (hl : es.length = n)
    (h : ∀ (i : Nat) (e : Int), es[i]? = some e → ∃ o, (o = 0 ∨ o = 1) ∧ e = 97 + (T + stp * (i : Int)).fmod 26 - 32 * o) (hr : row = es.map fun x : Int => x.toNat.toUInt8) :
    ∃ b o, Ring row n b o := by
  have hb : ∀ k : Nat, 0 ≤ (T + stp * (k : Int)).fmod 26 ∧ (T + stp * (k : Int)).fmod 26 < 26 := fun k => ⟨Int.fmod_nonneg_of_pos _ (by decide), Int.fmod_lt_of_pos _ (by decide)⟩
  refine ⟨fun k => ((T + stp * (k : Int)).fmod 26).toNat, fun k => if es.getD k 0 = 97 + (T + stp * (k : Int)).fmod 26 then 0 else 1, ?_, ?_, ?_, ?_, ?_⟩
  · rw [hr, List.length_map, hl]
  · intro k hk
    have hk' : k < es.length := by omega
    obtain ⟨o, ho, he⟩ := h k es[k] (List.getElem?_eq_getElem hk')
    have hg : es.getD k 0 = es[k] := by rw [List.getD_eq_getElem?_getD, List.getElem?_eq_getElem hk']; rfl
    rw [hr, List.getElem?_map, List.getElem?_eq_getElem hk', Option.map_some]
    rw [hg]
    have hbk := hb k
    show some (UInt8.ofNat es[k].toNat) = _
    congr 2
    split
    · omega
    · omega
  · intro k _
    have hbk := hb k
    omega
  · intro k _
    split <;> omega
  · intro k l hk hl' e
    have hbk := hb k
    have hbl := hb l
    try dsimp only at e
    have e2 : (T + stp * (k : Int)).fmod 26 = (T + stp * (l : Int)).fmod 26 := by omega
    rw [Int.fmod_eq_emod_of_nonneg _ (by decide), Int.fmod_eq_emod_of_nonneg _ (by decide)] at e2
    simp only [List.mem_cons, List.not_mem_nil, or_false] at hs
    rcases hs with rfl | rfl | rfl | rfl | rfl | rfl | rfl | rfl <;> omega
end Mine
end

section
open PySem PySem.W PyProof.Rows PySem.Spec PySem.Calls
namespace Mine
def lawDef : List Stmt × Scope := match PySem.Challenge.pw_ph0049_01.main.body with
  | _ :: _ :: _ :: _ :: _ :: _ :: _ :: _ :: _ :: _ :: .FunctionDef _ _ (_ :: _ :: _ :: _ :: _ :: _ :: rest) _ _ _ scope _ _ _ :: _ => (rest, scope)
  | _ => ([], default)
local macro_rules | `(tactic| walk_at "call builtin:min cons nil") => `(tactic| refine Hold.mk ?_)
local macro_rules | `(tactic| walk_at "eval ListComp") => `(tactic| refine Hold.mk ?_)
local macro_rules | `(tactic| walk_at "getMethod bytes") => `(tactic| refine join_get ?_)
local macro_rules | `(tactic| walk_at "call builtin:bytes.join cons nil") => `(tactic| refine Hold.mk ?_)
local macro_rules | `(tactic| walk_at "subscriptTail BinOp") => `(tactic| refine Hold.mk ?_)
local macro_rules | `(tactic| walk_at "binaryOp Add bytes bytes") => `(tactic| (refine add_L (by simp only [List.length_append, flip_length]; omega) ?_; intro _ _))
local macro_rules | `(tactic| walk_at "exec Assign cons ListComp") => `(tactic| refine Hold.mk ?_)
local macro_rules | `(tactic| walk_at "subscriptTail Name Slice bytes ref") => `(tactic| refine Hold.mk ?_)
local macro_rules | `(tactic| walk_at "call builtin:str.join cons nil") => `(tactic| refine Hold.mk ?_)
local macro_rules | `(tactic| walk_at "exec For Name ListComp") => `(tactic| refine Hold.mk ?_)
local macro_rules | `(tactic| walk_at "exec For Name Call cons nil") => `(tactic| refine Hold.mk ?_)
local macro_rules | `(tactic| walk_at "subscriptTail Name Name ref int") => `(tactic| refine Hold.mk ?_)
local macro_rules | `(tactic| walk_at "binaryOp Add str str") => `(tactic| refine Hold.mk ?_)
local macro_rules | `(tactic| walk_at "call ref cons nil") => `(tactic| refine Hold.mk ?_)
local macro_rules | `(tactic| walk_at "pyIter ref") => `(tactic| refine Hold.mk ?_)
theorem law_rest (w : World) (s₁ : Shared) (mean : ExcName → Option Value) (mg mb : Str → Option Value) (fa : Addr) (cd : Value) (q : Nat) (hq : q ≤ 2) (row : List UInt8) {b o : Nat → Nat} (R : Ring row (3 + q) b o)
    (K0 : Below callerA s₁.heap [] s₁.heap) (KX : (hdC.heap_39 w.params).In s₁.heap) (T : Top hdC.view_39 (looseW hdC.view_39 []) mean mg mb s₁.heap)
    (lst : Addr) (vs : List Value) (ns : List Int) (hL : s₁.heap.IsList lst vs.toArray) (hI : IntsAre vs ns) (hnl : ns.length ≤ 63)
    (h : Heap) (tk : Nat) (m : Str → Option Value) (o1 o2 o6 o7 o8 : Obj) (t1 t2 t6 t7 t8 : Tok) (F : Fr s₁.heap s₁.heap.objs.size h m)
    (N : News s₁.heap s₁.heap.objs.size h [(s₁.heap.objs.size + 1 + 1 + 1 + 1 + 1 + 1 + 1 + 1, o8), (s₁.heap.objs.size + 1 + 1 + 1 + 1 + 1 + 1 + 1, o7), (s₁.heap.objs.size + 1 + 1 + 1 + 1 + 1 + 1, o6), (s₁.heap.objs.size + 1 + 1, o2), (s₁.heap.objs.size + 1, o1)])
    (d1 : o1.data = .cell (some (.ref lst))) (d2 : o2.data = .cell (some (.int (3 + (q : Int)) t2))) (d6 : o6.data = .cell (some (.bytes row.toArray t6))) (d7 : o7.data = .cell (some (.bytes (flip row).toArray t7)))
    (d8 : o8.data = .cell (some (.bytes (tapeOf row (3 + q)).toArray t8))) (Q : Flow → Shared → Prop)
    (hret : ∀ h' tk' m', Fr s₁.heap s₁.heap.objs.size h' m' → Q (.ret (.bool true)) { s₁ with heap := h', toks := tk' }) :
    wpAny (model PySem.Challenge.rw_ph0049_01.row.prog w) (callerA.deeper (envOfC (Str.ofString "law") lawDef.2 s₁.heap.objs.size fa cd)) (execs lawDef.1 (envOfC (Str.ofString "law") lawDef.2 s₁.heap.objs.size fa cd)) Q (fun _ _ => False)
      { s₁ with heap := h, toks := tk } := by
  have hrl := R.len
  revert KX
  k_fill
  intro KX
  w_top on
  unfold lawDef
  dsimp only [PySem.Challenge.pw_ph0049_01]
  (try k_fold)
  k_steps
  refine Hold.out ?_
  have hrs2 : Builtin.Range.rangeSize 0 (2 * (3 + (q : Int))) 1 = ((2 * (3 + q) : Nat) : Int) := by rw [show (2 * (3 + (q : Int))) = ((2 * (3 + q) : Nat) : Int) by push_cast; rfl]; exact rangeSize_one _
  rename Fr _ _ _ _ => F1
  rename News _ _ _ _ => N1
  refine ListCompR (cl := [(_, _), (_, _), (_, _)]) (fun k y => ∃ t, y = .bytes (((row ++ flip row ++ row).drop k).take (3 + q)).toArray t) F1 (by with_unfolding_all rfl) (by decide) (by rfl) (by decide) (by rfl) rfl ?_
  k_steps
  refine Hold.out ?_
  rename IsRange _ _ _ _ _ _ _ _ => hr2
  rename Fr _ _ _ _ => F2
  rename News _ _ _ _ => N2
  refine ⟨_, _, _, _, _, _, 2 * (3 + q), _, rfl, F2, N2, hr2, small_of (by omega) (by omega) (by omega), hrs2, by rw [sizeLine_eq]; omega, ?_, ?_⟩
  · intro i t3 I3 oI3 C3 oC3 D3 m3 ys3 h3 tk3 hi3 hC3 hx3 F3 N3 off3 ne3
    have hfl := flip_length row
    k_steps
    refine Hold.out ?_
    rename Fr _ _ _ _ => F5
    rename News _ _ _ _ => N5
    refine slice_L (d := row ++ flip row ++ row) (r := ((row ++ flip row ++ row).drop i).take (3 + q)) (lo := some (i : Int)) (hi := some ((i + (3 + q) : Nat) : Int)) (s := ⟨_, _, _, _, _⟩) F5 N5 ?_ ?_ ?_ ?_ ?_
    · rw [Int.zero_add]; constructor
    · rw [Int.zero_add, show (i : Int) + (3 + (q : Int)) = ((i + (3 + q) : Nat) : Int) by push_cast; rfl]; constructor
    · simp only [List.length_append, flip_length]; omega
    · have hl9 : (row ++ flip row ++ row).length = 3 * (3 + q) := by simp only [List.length_append, flip_length]; omega
      simp only [Option.elim_some, clipAt_nat, hl9]
      rw [Nat.min_eq_left (by omega), Nat.min_eq_left (by omega), Nat.add_sub_cancel_left]
    · intro h6 t6 k6 F6 N6
      exact ⟨_, _, rfl, F6, N6, _, rfl⟩
  · intro ys4 hys4 hV4 D4 h4 tk4 F4 N4 off4
    dsimp only [LCg.Off1] at off4
    obtain ⟨l4, hl4, hl5⟩ := bys_some (f := fun k => ((row ++ flip row ++ row).drop k).take (3 + q)) 0 (by simpa using hV4)
    rw [hys4] at hl5
    have hj : (l4.map (·.1)).flatten = tapeOf row (3 + q) := by rw [hl5]; rfl
    have hq2 : 2 * (3 + q) * (3 + q) ≤ 50 := by
      have : q = 0 ∨ q = 1 ∨ q = 2 := by omega
      rcases this with rfl | rfl | rfl <;> decide
    have hjl := tapeOf_length hrl
    have hl6 : l4.length = 2 * (3 + q) := by
      have := congrArg List.length hl5
      simpa using this
    subst hl4
    k_steps
    refine Hold.out ?_
    refine join_by _ (N4 _ List.mem_cons_self).1 (by omega) (by rw [hj, hjl]; omega) ?_
    intro t7 tk7
    rw [hj]
    k_steps
    · exfalso
      rename (_ != _) = true => hne
      simp at hne
    · refine Hold.out ?_
      rename Fr _ _ _ _ => F8
      rename News _ _ _ _ => N8
      refine AssignCompR (cl := [(_, _), (_, _)]) (fun k y => ∃ t, y = .str (txt (codes (wordOf row (3 + q) k))) t) F8 rfl (by with_unfolding_all rfl) (by with_unfolding_all rfl) (by decide) (by rfl) (by decide) (by rfl) (by rfl) (by rfl) rfl ?_
      k_steps
      refine Hold.out ?_
      rename IsRange _ _ _ _ _ _ _ _ => hr9
      rename Fr _ _ _ _ => F9
      rename News _ _ _ _ => N9
      refine ⟨_, _, _, _, _, _, 2 * (3 + q), _, rfl, F9, N9, hr9, small_of (by omega) (by omega) (by omega), hrs2, by rw [sizeLine_eq]; omega, ?_, ?_⟩
      · intro i t10 I10 oI10 C10 oC10 D10 m10 ys10 h10 tk10 hi10 hC10 hx10 F10 N10 off10 ne10
        k_steps
        refine Hold.out ?_
        refine ListCompH (cl := []) (fun c y => ∃ t, y = .str (txt [c.toNat]) t) F10 (by with_unfolding_all rfl) (by decide) (by rfl) (by decide) (by rfl) rfl ?_
        k_steps
        refine Hold.out ?_
        rename Fr _ _ _ _ => F11
        rename News _ _ _ _ => N11
        have hik : i * (3 + q) + (3 + q) ≤ 2 * (3 + q) * (3 + q) := by
          rw [← Nat.succ_mul]; exact Nat.mul_le_mul_right _ hi10
        have hwl : (wordOf row (3 + q) i).length = 3 + q := wordOf_length hrl hi10
        refine slice_L (d := tapeOf row (3 + q)) (r := wordOf row (3 + q) i) (lo := some ((i * (3 + q) : Nat) : Int)) (hi := some ((i * (3 + q) + (3 + q) : Nat) : Int)) (s := ⟨_, _, _, _, _⟩) F11 N11 ?_ ?_ ?_ ?_ ?_
        · rw [Int.zero_add, show (i : Int) * (3 + (q : Int)) = ((i * (3 + q) : Nat) : Int) by push_cast; rfl]; constructor
        · rw [Int.zero_add, show (i : Int) * (3 + (q : Int)) + (3 + (q : Int)) = ((i * (3 + q) + (3 + q) : Nat) : Int) by push_cast; rfl]; constructor
        · rw [hjl]; omega
        · simp only [Option.elim_some, clipAt_nat, hjl]
          rw [Nat.min_eq_left (by omega), Nat.min_eq_left (by omega), Nat.add_sub_cancel_left]
          exact tape_slice hrl hi10
        · intro h12 t12 k12 F12 N12
          refine ⟨wordOf row (3 + q) i, _, _, rfl, F12, N12, by rw [hwl, sizeLine_eq]; omega, ?_, ?_⟩
          · intro c t13 I13 oI13 C13 oC13 D13 m13 ys13 h13 tk13 hi13 hC13 hx13 F13 N13 off13 ne13
            have hc := c.toNat_lt
            k_steps
            rename Fr _ _ _ _ => F14
            rename News _ _ _ _ => N14
            exact ⟨_, _, rfl, F14, N14, _, rfl⟩
          · intro ys14 hys14 hV14 D14 h14 tk14 F14 N14 off14
            k_steps
            refine Hold.out ?_
            refine strjoin_V N14 hys14 (by rw [hwl]; omega) hV14 ?_
            intro t15 k15
            exact ⟨_, _, rfl, F14, fun p hp => N14 p (List.mem_cons_of_mem _ hp), _, rfl⟩
      · intro ys20 hys20 hV20 D20 h20 tk20 F20 N20 off20
        dsimp only [LCg.Off1] at off20
        k_steps
        refine Hold.out ?_
        rename Fr _ _ _ _ => F21
        rename News _ _ _ _ => N21
        refine For_invVF F21 rfl rfl ?_
        k_steps
        refine Hold.out ?_
        refine ListCompJ (cl := [(_, _)]) (fun y => ∃ e t, (0 ≤ e ∧ e < 2 * (3 + (q : Int))) ∧ y = .int e t) F21 N21 (by with_unfolding_all rfl) (by decide) (by rfl) (by decide) (by rfl) rfl ?_ ?_ ?_
        · k_steps
          · refine Hold.out ?_
            rename Fr _ _ _ _ => F22
            rename News _ _ _ _ => N22
            rename IntsAre _ (List.take _ _) => hI22
            exact ⟨_, _, _, _, _, _, rfl, rfl, F22, N22, hI22, by omega⟩
          · refine Hold.out ?_
            rename Fr _ _ _ _ => F22
            rename News _ _ _ _ => N22
            exact ⟨_, _, _, _, _, _, rfl, rfl, F22, N22, .cons _ _ .nil, by decide⟩
        · intro ax avs ak c t23 I23 oI23 C23 oC23 D23 m23 ys23 h23 tk23 hC23 hx23 F23 N23
          k_steps
          rename Fr _ _ _ _ => F25
          rename News _ _ _ _ => N25
          exact ⟨_, _, rfl, F25, N25, _, _, fmod_in c q, rfl⟩
        · intro ys24 hV24 D24 h24 tk24 F24 N24 off24
          dsimp only [LCg.Off1] at off24
          obtain ⟨es, hes, hesl, hesv⟩ := ints_some (P := fun _ e => 0 ≤ e ∧ e < 2 * (3 + (q : Int))) hV24
          have N26 : News s₁.heap s₁.heap.objs.size h24 [(D24, listOf ys24.toArray ys24.length), (D20, LCg.lst ys20), (s₁.heap.objs.size + 1 + 1, o2)] := fun p hp => N24 p (by
            simp only [List.mem_cons, List.not_mem_nil, or_false] at hp ⊢
            rcases hp with rfl | rfl | rfl <;> simp)
          clear N24
          k_steps
          refine Hold.out ?_
          refine for_lst [Str.ofString "j", Str.ofString "ahead", Str.ofString "d", Str.ofString "due", Str.ofString "head", Str.ofString "tail", Str.ofString "bound", Str.ofString "told"] rfl List.mem_cons_self hes F24 N26 ?_ ?_
          · intro ii e t27 u27 h27 tk27 own27 hii hoff27 F27 N27
            have he := hesv ii e hii
            obtain ⟨iN, rfl⟩ := Int.eq_ofNat_of_zero_le he.1
            have hiN : iN < 2 * (3 + q) := by omega
            try dsimp only at F27 N27
            k_steps
            refine Hold.out ?_
            rename Fr _ _ _ _ => F28
            rename News _ _ _ _ => N28
            refine For_invVF F28 rfl rfl ?_
            k_steps
            refine Hold.out ?_
            rename IsRange _ _ _ _ _ _ _ _ => hr29
            rename Fr _ _ _ _ => F29
            rename News _ _ _ _ => N29
            obtain ⟨mC, hmC⟩ := name_map F29
            refine for_rng (σ := Unit) (n := 2 * (3 + q)) (fun _ => [(D24, listOf ys24.toArray ys24.length), (D20, LCg.lst ys20), (s₁.heap.objs.size + 1 + 1, o2)] ++ own27) (fun _ => []) [Str.ofString "ahead", Str.ofString "d", Str.ofString "due", Str.ofString "head", Str.ofString "tail", Str.ofString "bound", Str.ofString "told"]
              (fun _ _ => True) () ([D24, D20, s₁.heap.objs.size + 1 + 1] ++ own27.map (·.1)) rfl hr29 (small_of (by omega) (by omega) (by omega)) hrs2 F29 N29 (fun _ hp => nomatch hp) (by simp) trivial ?_ ?_
            · rintro j _ t30 u30 h30 tk30 own30 hj _ hoff30 F30 N30
              try dsimp only at F30 N30
              k_steps
              refine Hold.out ?_
              rename Fr _ _ _ _ => F31
              rename News _ _ _ _ => N31
              refine min_E2 rfl F31 N31 ?_
              clear F31 N31
              intro d h32 tk32 t32 hd F32 N32
              k_steps
              refine Hold.out ?_
              rename Fr _ _ _ _ => F33
              rename News _ _ _ _ => N33
              refine min_E3 rfl F33 N33 ?_
              clear F33 N33
              intro due h34 tk34 t34 hdue F34 N34
              have hdd : due = dueOf (3 + q) iN j := by
                rw [hdue, hd]
                simp only [dueOf, Int.natCast_add, Int.zero_add, Int.mul_one]
                rfl
              have lwi : (codes (wordOf row (3 + q) iN)).length = 3 + q := by rw [codes_length, wordOf_length hrl hiN]
              have lwj : (codes (wordOf row (3 + q) j)).length = 3 + q := by rw [codes_length, wordOf_length hrl hj]
              have due_le : due ≤ 4 * (3 + (q : Int)) := by
                have := min2_le_right (min2 (4 * d) (4 * (3 + (q : Int)) - 3 * d)) (2 * (3 + (q : Int)))
                omega
              k_steps
              · refine Hold.out ?_
                rename News _ _ _ _ => N40
                refine word_K N40 (by simp) iN rfl (by rw [hys20]; omega) (by rw [hys20]; omega) (hV20 iN) ?_
                intro t41
                k_steps
                refine Hold.out ?_
                refine addT [] (codes (wordOf row (3 + q) iN)) s_nil rfl (by rw [lwi]; simp; omega) ?_
                intro t42 k42
                k_steps
                refine Hold.out ?_
                refine addT ([] ++ codes (wordOf row (3 + q) iN)) [] rfl s_nil (by rw [List.length_append, lwi]; simp; omega) ?_
                intro t43 k43
                k_steps
                refine Hold.out ?_
                refine word_K N40 (by simp) j (by omega) (by rw [hys20]; omega) (by rw [hys20]; omega) (hV20 j) ?_
                intro t45
                k_steps
                refine Hold.out ?_
                refine addT [] (codes (wordOf row (3 + q) j)) s_nil rfl (by rw [lwj]; simp; omega) ?_
                intro t46 k46
                k_steps
                refine Hold.out ?_
                refine addT ([] ++ codes (wordOf row (3 + q) j)) [] rfl s_nil (by rw [List.length_append, lwj]; simp; omega) ?_
                intro t47 k47
                k_steps
                refine Hold.out ?_
                rename Fr _ _ _ _ => F50
                rename News _ _ _ _ => N50
                refine ca_use (lev_due w _ _ _ _ R (by omega) (by omega) hiN hj [] [] _ _ _ _ _ _ rfl rfl) K0 F50 KX N50 T rfl ⟨by decide, by decide, by rw [← hdd]; exact Int.le_refl _⟩ ?_ ?_ ?_
                · ktr_room
                · ktr_units
                · intro t51 h51 tk51 F51 N51
                  rw [← hdd]
                  k_steps
                  · exfalso
                    rename (due ≠ due) => hne
                    exact hne rfl
                  · rename Fr _ _ _ _ => F60
                    rename News _ _ _ _ => N60
                    refine ⟨(), _, _, _, _, rfl, F60, N60, ?_, ?_, (fun _ hp => nomatch hp), ?_, trivial⟩
                    · intro p hp
                      simp only [List.cons_append, List.nil_append, List.mem_cons, List.mem_append] at hp ⊢
                      rcases hp with hp | hp | hp | hp
                      · subst hp; simp
                      · subst hp; simp
                      · subst hp; simp
                      · simp [hp]
                    · intro p hp
                      simp [hp]
                    · intro z hz _ hst
                      have z0 : z ≠ Str.ofString "ahead" := by intro e; subst e; simp at hst
                      have z1 : z ≠ Str.ofString "d" := by intro e; subst e; simp at hst
                      have z2 : z ≠ Str.ofString "due" := by intro e; subst e; simp at hst
                      have z3 : z ≠ Str.ofString "head" := by intro e; subst e; simp at hst
                      have z4 : z ≠ Str.ofString "tail" := by intro e; subst e; simp at hst
                      have z5 : z ≠ Str.ofString "bound" := by intro e; subst e; simp at hst
                      have z6 : z ≠ Str.ofString "told" := by intro e; subst e; simp at hst
                      refine Eq.trans (Eq.trans ?_ (kst_out (u := u30) (mm := mC) (ps := []) hst (fun _ hp => nomatch hp))) (congrFun hmC z)
                      subst hmC
                      simp only [if_neg z0, if_neg z1, if_neg z2, if_neg z3, if_neg z4, if_neg z5, if_neg z6, if_neg hz]

              · refine Hold.out ?_
                rename News _ _ _ _ => N40
                refine word_K N40 (by simp) iN rfl (by rw [hys20]; omega) (by rw [hys20]; omega) (hV20 iN) ?_
                intro t41
                k_steps
                refine Hold.out ?_
                refine addT [65] (codes (wordOf row (3 + q) iN)) s_A rfl (by rw [lwi]; simp; omega) ?_
                intro t42 k42
                k_steps
                refine Hold.out ?_
                refine addT ([65] ++ codes (wordOf row (3 + q) iN)) [78, 79] rfl s_NO (by rw [List.length_append, lwi]; simp; omega) ?_
                intro t43 k43
                k_steps
                refine Hold.out ?_
                refine word_K N40 (by simp) j (by omega) (by rw [hys20]; omega) (by rw [hys20]; omega) (hV20 j) ?_
                intro t45
                k_steps
                refine Hold.out ?_
                refine addT [65] (codes (wordOf row (3 + q) j)) s_A rfl (by rw [lwj]; simp; omega) ?_
                intro t46 k46
                k_steps
                refine Hold.out ?_
                refine addT ([65] ++ codes (wordOf row (3 + q) j)) [78, 79] rfl s_NO (by rw [List.length_append, lwj]; simp; omega) ?_
                intro t47 k47
                k_steps
                refine Hold.out ?_
                rename Fr _ _ _ _ => F50
                rename News _ _ _ _ => N50
                refine ca_use (lev_due w _ _ _ _ R (by omega) (by omega) hiN hj [65] [78, 79] _ _ _ _ _ _ rfl rfl) K0 F50 KX N50 T rfl ⟨by decide, by decide, by rw [← hdd]; exact due_le⟩ ?_ ?_ ?_
                · ktr_room
                · ktr_units
                · intro t51 h51 tk51 F51 N51
                  rw [← hdd]
                  k_steps
                  · exfalso
                    rename (due ≠ due) => hne
                    exact hne rfl
                  · rename Fr _ _ _ _ => F60
                    rename News _ _ _ _ => N60
                    refine ⟨(), _, _, _, _, rfl, F60, N60, ?_, ?_, (fun _ hp => nomatch hp), ?_, trivial⟩
                    · intro p hp
                      simp only [List.cons_append, List.nil_append, List.mem_cons, List.mem_append] at hp ⊢
                      rcases hp with hp | hp | hp | hp
                      · subst hp; simp
                      · subst hp; simp
                      · subst hp; simp
                      · simp [hp]
                    · intro p hp
                      simp [hp]
                    · intro z hz _ hst
                      have z0 : z ≠ Str.ofString "ahead" := by intro e; subst e; simp at hst
                      have z1 : z ≠ Str.ofString "d" := by intro e; subst e; simp at hst
                      have z2 : z ≠ Str.ofString "due" := by intro e; subst e; simp at hst
                      have z3 : z ≠ Str.ofString "head" := by intro e; subst e; simp at hst
                      have z4 : z ≠ Str.ofString "tail" := by intro e; subst e; simp at hst
                      have z5 : z ≠ Str.ofString "bound" := by intro e; subst e; simp at hst
                      have z6 : z ≠ Str.ofString "told" := by intro e; subst e; simp at hst
                      refine Eq.trans (Eq.trans ?_ (kst_out (u := u30) (mm := mC) (ps := []) hst (fun _ hp => nomatch hp))) (congrFun hmC z)
                      subst hmC
                      simp only [if_neg z0, if_neg z1, if_neg z2, if_neg z3, if_neg z4, if_neg z5, if_neg z6, if_neg hz]

            · rintro _ u31 h31 tk31 _ F31 N31
              k_steps
              rename Fr _ _ _ _ => F61
              rename News _ _ _ _ => N61
              refine ⟨_, _, _, rfl, F61, ?_, ?_⟩
              · first
                  | exact N61
                  | (rw [hesl]; exact N61)
              · intro z hz hst
                have hst2 := hst
                simp only [List.contains_cons, List.contains_nil, Bool.or_false, Bool.or_eq_false_iff, beq_eq_false_iff_ne] at hst2
                clear hmC
                have h7 : [Str.ofString "ahead", Str.ofString "d", Str.ofString "due", Str.ofString "head", Str.ofString "tail", Str.ofString "bound", Str.ofString "told"].contains z = false := by
                  simp only [List.contains_cons, List.contains_nil, Bool.or_false, Bool.or_eq_false_iff, beq_eq_false_iff_ne]
                  exact hst2.2
                refine Eq.trans (if_neg hst2.1) (Eq.trans (kst_out (u := u31) (ps := []) h7 (fun _ hp => nomatch hp)) ?_)
                dsimp only
                rw [if_neg hz, if_neg (by rw [hst]; exact Bool.false_ne_true)]
          · intro u32 h32 tk32 F32 N32
            k_steps
            exact hret _ _ _ F32
end Mine
end

section
open PySem PySem.W PyProof.Rows PySem.Spec PySem.Calls
namespace Mine
local macro_rules | `(tactic| walk_at "subscriptTail List cons BinOp ref int") => `(tactic| refine Hold.mk ?_)
local macro_rules | `(tactic| walk_at "call builtin:min cons nil") => `(tactic| refine Hold.mk ?_)
local macro_rules | `(tactic| walk_at "eval ListComp") => `(tactic| refine Hold.mk ?_)
local macro_rules | `(tactic| walk_at "eval ListComp BinOp") => `(tactic| refine Hold.mk ?_)
local macro_rules | `(tactic| walk_at "call type:bytes cons nil") => `(tactic| refine Hold.mk ?_)
local macro_rules | `(tactic| walk_at "getMethod bytes") => `(tactic| refine join_get ?_)
local macro_rules | `(tactic| walk_at "call builtin:bytes.join cons nil") => `(tactic| refine Hold.mk ?_)
theorem law_holds : PySem.Challenge.rw_ph0049_01.Holds := by
  refine hdC ?_
  k_fill
  intro w s₀ s₁ mg mb G Y fa o pm cd doc dV kV ho hd hcd hD hmg hg args vals as hpre hlay hrd hwl hlo
  have KX := kIn_of Y
  have X := (Ground.X G).1
  have V := (Ground.X G).2
  try w_nolog (first | (have GL := glob_more (Ground.glob G (by first | k_qdec | decide +kernel)) V) | (have GL := glob_more (Ground.glob G (by decide +kernel)) V))
  refine Ground.open G ?_
  intro T B D TE TW
  try (refine guard_noD D (by decide +kernel) ?_; clear D)
  obtain ⟨_, _, M⟩ := bmod_of_top T
  have TA := at_of_top T
  try (obtain ⟨_, _, he, B0⟩ := based_of_top T rfl hmg ho hd; have he' : cd = _ := he; subst he'; clear he)
  clear hmg
  wrow_args hpre hlay hrd hwl hlo
  refine enter_callC ?_
  w_top on
  have K0 := below_caller (Top.heap T)
  have he := Dflts.none hD rfl; subst he; have he := Dflts.noKw hD; subst he
  refine call_cellsC (by decide) ho (fd_plain hd) (Top.nolimit T) hcd rfl (kinds_of (by kinds_ok)) (by decide) fun h₁ tk₁ cells F N0 X0 => ?_
  cells_open X0
  clear hd TA
  k_drop
  (try k_fold)
  try clear X0
  refine wpC_execs_any ?_
  k_steps
  refine Hold.out ?_
  rename Fr _ _ _ _ => F1
  rename News _ _ _ _ => N1
  refine min_Q rfl F1 N1 ?_
  clear F1 N1
  intro q h1 tk1 t1 hq F1 N1
  k_steps
  refine wpC_execs_any ?_
  k_steps
  refine Hold.out ?_
  rename News _ _ _ _ => N2
  rename List Int => ns
  have h80 := Int.fmod_nonneg_of_pos (ns.sum.fdiv 26) (b := 8) (by decide)
  have h81 := Int.fmod_lt_of_pos (ns.sum.fdiv 26) (b := 8) (by decide)
  refine menu_K [1, 3, 5, 7, 9, 11, 15, 17] N2 List.mem_cons_self (.cons _ _ (.cons _ _ (.cons _ _ (.cons _ _ (.cons _ _ (.cons _ _ (.cons _ _ (.cons _ _ .nil)))))))) h80 h81 (by omega) ?_
  intro stp hstp t80
  have hst1 := step_mem h80 h81 hstp
  k_steps
  dsimp only
  refine wpC_execs_any ?_
  k_steps
  refine Hold.out ?_
  rename Fr _ _ _ _ => F3
  rename News _ _ _ _ => N3
  refine ListCompR (cl := [(Str.ofString "script", _)]) (fun _ y => ∃ e t, (e = 0 ∨ e = 1) ∧ y = .int e t) F3 (by with_unfolding_all rfl) (by decide) (by rfl) (by decide) (by rfl) rfl ?_
  k_steps
  refine Hold.out ?_
  rename IsRange _ _ _ _ _ _ _ _ => hr4
  rename Fr _ _ _ _ => F4
  rename News _ _ _ _ => N4
  have hrs : Builtin.Range.rangeSize 0 (3 + (q : Int)) 1 = ((3 + q : Nat) : Int) := by rw [show (3 + (q : Int)) = ((3 + q : Nat) : Int) by push_cast; rfl]; exact rangeSize_one _
  refine ⟨_, _, _, _, _, _, 3 + q, _, rfl, F4, N4, hr4, small_of (by omega) (by omega) (by omega), hrs, by rw [sizeLine_eq]; omega, ?_, ?_⟩
  · intro i t5 I5 oI5 C5 oC5 D5 m5 ys5 h5 tk5 hi5 hC5 hx5 F5 N5 off5 ne5
    k_steps
    · rename Fr _ _ _ _ => F6
      rename News _ _ _ _ => N6
      exact ⟨_, _, rfl, F6, N6, _, _, mod2 _, rfl⟩
    · rename Fr _ _ _ _ => F6
      rename News _ _ _ _ => N6
      first
        | exact ⟨_, _, rfl, F6, N6, _, _, mod2 _, rfl⟩
        | exact ⟨_, _, rfl, F6, N6, _, _, Or.inl rfl, rfl⟩
  · intro ys hys hV D6 h6 tk6 F6 N6 off6
    dsimp only [LCg.Off1] at off6
    obtain ⟨od, hod, hodl, hodv⟩ := ints_some hV
    rw [hys] at hodl
    k_steps
    dsimp only
    refine wpC_execs_any ?_
    k_steps
    refine Hold.out ?_
    rename Fr _ _ _ _ => F7
    rename News _ _ _ _ => N7
    have hstb : 1 ≤ stp ∧ stp ≤ 17 := by
      simp only [List.mem_cons, List.not_mem_nil, or_false] at hst1
      omega
    obtain ⟨hstb1, hstb2⟩ := hstb
    refine ListCompR (cl := [(_, _), (_, _), (_, _)]) (fun i y => ∃ e t, e = 97 + (ns.sum + stp * (i : Int)).fmod 26 - 32 * od.getD i 0 ∧ y = .int e t) F7 (by with_unfolding_all rfl) (by decide) (by rfl) (by decide) (by rfl) rfl ?_
    k_steps
    refine Hold.out ?_
    rename IsRange _ _ _ _ _ _ _ _ => hr8
    rename Fr _ _ _ _ => F8
    rename News _ _ _ _ => N8
    refine ⟨_, _, _, _, _, _, 3 + q, _, rfl, F8, N8, hr8, small_of (by omega) (by omega) (by omega), hrs, by rw [sizeLine_eq]; omega, ?_, ?_⟩
    · intro i t9 I9 oI9 C9 oC9 D9 m9 ys9 h9 tk9 hi9 hC9 hx9 F9 N9 off9 ne9
      k_steps
      rename Fr _ _ _ _ => F10
      rename News _ _ _ _ => N10
      exact ⟨_, _, rfl, F10, N10, _, _, by rw [Int.zero_add, Int.toNat_natCast], rfl⟩
    · intro ys2 hys2 hV2 D10 h10 tk10 F10 N10 off10
      dsimp only [LCg.Off1] at off10
      obtain ⟨es, hes, hesl, hesv⟩ := ints_some hV2
      rw [hys2] at hesl
      have hesb := row_byte hodv hesv
      k_steps
      refine Hold.out ?_
      refine bytes_W F10 N10 rfl hes (row_bound hesb) (by omega) ?_
      intro row h11 t11 k11 hrow F11 N11
      have hrl : row.length = 3 + q := by rw [hrow, List.length_map, hesl]
      k_steps
      dsimp only
      refine wpC_execs_any ?_
      k_steps
      refine Hold.out ?_
      rename Fr _ _ _ _ => F12
      rename News _ _ _ _ => N12
      refine ListCompH (cl := []) (fun c y => ∃ t, y = .int ((c ^^^ 32).toNat : Int) t) F12 (by with_unfolding_all rfl) (by decide) (by rfl) (by decide) (by rfl) rfl ?_
      k_steps
      refine Hold.out ?_
      refine ⟨row, _, _, rfl, F12, N12, by rw [sizeLine_eq]; omega, ?_, ?_⟩
      · intro c t13 I13 oI13 C13 oC13 D13 m13 ys13 h13 tk13 hi13 hC13 hx13 F13 N13 off13 ne13
        k_steps
        rename Fr _ _ _ _ => F14
        rename News _ _ _ _ => N14
        exact ⟨_, _, rfl, F14, N14, _, by rw [xor_byte]⟩
      · intro ys3 hys3 hV3 D15 h15 tk15 F15 N15 off15
        dsimp only [LCg.Off1] at off15
        k_steps
        refine Hold.out ?_
        refine bytes_V F15 N15 rfl hys3 (by omega) hV3 ?_
        intro h16 t16 k16 F16 N16
        k_steps
        dsimp only
        rename Fr _ _ _ _ => F17
        rename News _ _ _ _ => N17
        refine wpC_execs_cons (wpC_Assign (CallC ?_) rfl)
        k_steps
        refine callWithC (K := hdC.heap_39 w.params) (by k_is) (argsC (MethodCallC ?_) rfl)
        k_steps
        refine callWithC_builtin (argsC (ListCompCH (cl := [(_, _), (_, _), (_, _)]) (fun k y => ∃ t, y = .bytes (parts (if k < 3 + q then row else flip row) (k % (3 + q))).toArray t) F17 (by with_unfolding_all rfl) (by decide) (by rfl) (by decide) (by rfl) rfl ?_) rfl)
        k_steps
        refine Hold.out ?_
        rename IsRange _ _ _ _ _ _ _ _ => hr18
        rename Fr _ _ _ _ => F18
        rename News _ _ _ _ => N18
        have hrs2 : Builtin.Range.rangeSize 0 (2 * (3 + (q : Int))) 1 = ((2 * (3 + q) : Nat) : Int) := by rw [show (2 * (3 + (q : Int))) = ((2 * (3 + q) : Nat) : Int) by push_cast; rfl]; exact rangeSize_one _
        refine ⟨_, _, _, _, _, _, 2 * (3 + q), _, rfl, F18, N18, hr18, small_of (by omega) (by omega) (by omega), hrs2, by rw [sizeLine_eq]; omega, ?_, ?_⟩
        · intro i t19 I19 oI19 C19 oC19 D19 m19 ys19 h19 tk19 hi19 hC19 hx19 F19 N19 off19 ne19
          refine CallC ?_
          k_steps
          refine callWithC (K := hdC.heap_39 w.params) (by k_is) (wpC_of ?_)
          k_steps
          · rename Fr _ _ _ _ => F20
            rename News _ _ _ _ => N20
            refine cc_use (parts_cc2 w _ _ _ _ row (i % (3 + q)) _ (mod_hi hi19) _ _) K0 F20 KX N20 T rfl ⟨by rw [hrl]; exact Nat.mod_lt _ (by omega), by omega⟩ ?_ ?_ ?_
            · ktr_room
            · ktr_units
            · intro t21 h21 tk21 F21 N21
              exact ⟨_, _, rfl, F21, N21, _, by rw [if_pos (by omega)]⟩
          · rename Fr _ _ _ _ => F20
            rename News _ _ _ _ => N20
            refine cc_use (parts_cc2 w _ _ _ _ (flip row) (i % (3 + q)) _ (mod_hi hi19) _ _) K0 F20 KX N20 T rfl ⟨by rw [flip_length, hrl]; exact Nat.mod_lt _ (by omega), by rw [flip_length]; omega⟩ ?_ ?_ ?_
            · ktr_room
            · ktr_units
            · intro t21 h21 tk21 F21 N21
              exact ⟨_, _, rfl, F21, N21, _, by rw [if_neg (by omega)]⟩
        · intro ys4 hys4 hV4 D22 h22 tk22 F22 N22 off22
          dsimp only [LCg.Off1] at off22
          obtain ⟨l4, hl4, hl5⟩ := bys_some (f := fun k => parts (if k < 3 + q then row else flip row) (k % (3 + q))) 0 (by simpa using hV4)
          rw [hys4] at hl5
          have hj : (l4.map (·.1)).flatten = tapeIn row (3 + q) := by rw [hl5]; rfl
          have hjl := tapeIn_length hrl (by omega)
          have hq2 : 2 * (3 + q) * (3 + q) ≤ 50 := by
            have : q = 0 ∨ q = 1 ∨ q = 2 := by omega
            rcases this with rfl | rfl | rfl <;> decide
          have hl6 : l4.length = 2 * (3 + q) := by
            have := congrArg List.length hl5
            simpa using this
          subst hl4
          refine wpC_of ?_
          k_steps
          refine Hold.out ?_
          refine join_by _ (N22 _ List.mem_cons_self).1 (by omega) (by rw [hj, hjl]; omega) ?_
          intro t23 tk23
          rw [hj]
          refine wpC_of ?_
          k_steps
          refine cc_use (swap_cc2 w _ _ _ _ (tapeIn row (3 + q)) (3 + q) (2 * (3 + q)) _ (by push_cast; rfl) _ _) K0 F22 KX N22 T rfl ⟨by omega, by omega, hjl, by omega⟩ ?_ ?_ ?_
          · ktr_room
          · ktr_units
          · intro t24 h24 tk24 F24 N24
            rw [tape_law' hrl (by omega)]
            k_steps
            dsimp only
            refine wpC_of ?_
            rename Fr _ _ _ _ => F30
            rename News _ _ _ _ => N30
            rename (_ = Data.cell (some (Value.bytes (tapeOf _ _).toArray _))) => d8
            rename (_ = Data.cell (some (Value.bytes (List.map _ row).toArray _))) => d7
            rename (_ = Data.cell (some (Value.bytes row.toArray _))) => d6
            rename (_ = Data.cell (some (Value.int (3 + (q : Int)) _))) => d2
            rename (_ = Data.cell (bindC _ _ _ (Str.ofString "script"))) => d1
            rename (Heap.IsList _ _ _) => hLl
            rename (IntsAre _ ns) => hIi
            refine Exists.elim (ring_of (n := 3 + q) (by omega) hst1 hesl hesb hrow) fun b hb => Exists.elim hb fun o R => ?_
            refine law_rest w s₁ _ mg mb fa _ q hq row R K0 KX T _ _ ns hLl hIi (by omega) _ _ _ _ _ _ _ _ 0 _ _ _ _ F30 ?_ d1 d2 d6 d7 d8 _ ?_
            · exact List.forall_mem_cons.mpr ⟨N30 _ (by k_mem), List.forall_mem_cons.mpr ⟨N30 _ (by k_mem), List.forall_mem_cons.mpr ⟨N30 _ (by k_mem), List.forall_mem_cons.mpr ⟨N30 _ (by k_mem), List.forall_mem_cons.mpr ⟨N30 _ (by k_mem), List.forall_mem_nil _⟩⟩⟩⟩⟩
            · intro h99 tk99 m99 F99
              dsimp only
              refine GoodW.toG ?_
              k_steps
end Mine
end

theorem PySem.Challenge.cw_ph0049_01_holds : PySem.Challenge.rw_ph0049_01.Holds :=
  Mine.law_holds
