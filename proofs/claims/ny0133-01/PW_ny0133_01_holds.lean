import PyProof.Rows.All
import Wide.All
import OpenK.AllK
import Wide.FinOn
import PySem.Challenge.RW_ny0133_01
set_option Elab.async false
set_option compiler.extract_closed false

section
/-! part H1 -/
open PySem PySem.W PyProof.Rows
open PySem.Spec PySem.Calls
namespace Mine

/-- built-ins under which a bytearray counts as lent out -/
noncomputable def lends : List String := ["bytearray.__contains__", "bytearray.__mod__", "bytearray.__rmod__", "_struct.pack_into.held", "bytearray.find.held"] ++ Builtin.Bytes.decodersThatHold
noncomputable def okCode : Code → Bool
  | .builtin id _ => !lends.contains id
  | _ => true
/-- none of them is under way -/
noncomputable def Cl (Γ : PySem.Ctx) : Prop := okCode Γ.code = true ∧ ∀ x ∈ Γ.below, okCode x.1 = true

/-- as wpAny, of the stacks without such built-ins -/
noncomputable def wpC {α : Type} (M : Model) (A : Around) (t : Sem α) (Q : α → Shared → Prop) (E : Value → Shared → Prop) (s : Shared) : Prop :=
  ∀ Γ p, Γ.In A → Cl Γ → Sem.wp M Γ t (fun a _ s' => Q a s') (fun e _ s' => E e s') p s
noncomputable def codeC (M : Model) (A : Around) (c : Code) (R : Result → Shared → Prop) (s : Shared) : Prop :=
  ∀ Γ p, Γ.code = c → Γ.Below A → (∀ x ∈ Γ.below, okCode x.1 = true) → wpCode M Γ R p s

theorem thread_ends_C {prog : Program} {w : World} {t : Sem Fin} {s : Shared} {R : Result → Shared → Prop} (hreg : s.asleep)
    (h : wpC (model prog w) callerA t (fun fin s' => ∃ f, fin = .done f ∧ (R (.ok f) s' ∧ leftWithCleanup s'.gens = false)) (fun e s' => R (.error e) s' ∧ leftWithCleanup s'.gens = false) s) :
    ∃ n r s' s'', runN (denote table) prog w n s ⟨t, .builtin "claim.caller" {}, default, []⟩ = .halted (outcomeOf r) s' ∧
      schedN (denote table) prog w n (.single s ⟨t, .builtin "claim.caller" {}, default, []⟩) = .halted (outcomeOf r) s' ∧ s'.forget = s''.forget ∧ R r s'' := by
  have hw : Sem.wp (model prog w) ⟨.builtin "claim.caller" {}, none, none, [], none⟩ t (Sem.finPost (model prog w) ⟨.builtin "claim.caller" {}, none, none, [], none⟩ (fun r s' => R r s' ∧ leftWithCleanup s'.gens = false)) (fun e _ s' => R (.error e) s' ∧ leftWithCleanup s'.gens = false) default s := by
    refine Sem.wp_mono _ _ t (fun fin p' s' h' => ?_) (fun _ _ _ h' => h') _ _ (h _ default caller_in ⟨by decide +kernel, fun x hx => nomatch hx⟩)
    obtain ⟨f, rfl, hf⟩ := h'
    exact hf
  obtain ⟨n, r, s₁, s₂, hs, hn, hfo, hR⟩ := wp_halts_full (M := model prog w) (R := R) hreg hw
  exact ⟨n, r, s₂, s₁, hn, hs, hfo, hR⟩

theorem callFrom_C {c : ClaimW} {tree : List Value → Sem Fin} {w : World} {s : Shared} {free : Addr → Prop} {gens : Prop} {kept : Heap → Prop} (hz : s.asleep) (hgens : s.gens = #[])
    (hspec : ∀ args, c.pre args = true → WData.layableAll args = true →
      ∀ ord : List DictEntry → List DictEntry, (∀ l, (ord l).Perm l) →
      ∃ vs s₁, layAllW c.records (classAt s.heap) w.params ord args s = some (vs, s₁) ∧
        wpC (model c.prog w) callerA (tree vs) (fun fin s' => ∃ f, fin = .done f ∧ (c.Ends s args vs s₁ (.ok f) s' ∧ s'.os = s.os ∧ AllBare s'.gens ∧ kept s'.heap))
          (fun e s' => c.Ends s args vs s₁ (.error e) s' ∧ s'.os = s.os ∧ AllBare s'.gens ∧ kept s'.heap) s₁) :
    c.CallFrom (fun vs => ⟨tree vs, .builtin "claim.caller" {}, default, []⟩) w free gens kept s := by
  intro args hpre hlay ord hord
  obtain ⟨vs, s₁, hlaid, hcode⟩ := hspec args hpre hlay ord hord
  have hal := layAllW_rest _ _ _ hlaid
  obtain ⟨k, r, s', s'', hrun, hsched, hfo, hcase, hos, hkp⟩ := thread_ends_C (prog := c.prog) (w := w) (t := tree vs) (s := s₁) (R := fun r s' => c.Ends s args vs s₁ r s' ∧ s'.os = s.os ∧ kept s'.heap)
    (Shared.asleep_of_life hal.2.2.2 hz) (fun Γ p a b => Sem.wp_mono _ _ _ (fun fin _ s' ⟨f, e, h1, h2, h3, h4⟩ => ⟨f, e, ⟨h1, h2, h4⟩, leftWithCleanup_false_of_bare h3⟩) (fun e _ s' ⟨h1, h2, h3, h4⟩ => ⟨⟨h1, h2, h4⟩, leftWithCleanup_false_of_bare h3⟩) _ _ (hcode Γ p a b))
  obtain ⟨eh, _, _, eo, _⟩ := Shared.forget_eq hfo
  have hcase := hcase.congr eh
  have hkp : kept s'.heap := by rw [eh]; exact hkp
  rw [← eo] at hos
  have hlife : s'.heap.life = s.heap.life := (runN_life _ _ _ hrun).trans hal.2.2.2
  refine ⟨vs, s₁, hlaid, k, _, s', hsched, ?_, (fun _ i x hx => by rw [hgens] at hx; simp at hx), hkp, by rw [hlife], Shared.rest_eq hos⟩
  rcases hcase with ⟨v, rfl, d1, d2, d3, d4, d5⟩ | ⟨e, ob, cls, rfl, d1, d2, d3, d4, d5⟩
  · exact .inl ⟨v, rfl, d1, d2, d3, fun b o y _ => d4 b o y, d5⟩
  · exact .inr ⟨e, ob, cls, rfl, d1, d2, d3, d4, fun b o y _ => d5 b o y⟩

noncomputable abbrev WalkC (q : Program) (loose : List Str) (XP : (Str → Option Value) → Heap → Prop) (YP : World → Heap → Prop) (r : RowW) (d : DefRec) (kwd : List (Str × Expr)) : Prop :=
  ∀ (w : World) (s₀ s₁ : Shared) (mg mb : Str → Option Value), Ground q loose r.records XP w s₀ mg mb s₁.heap → YP w s₁.heap → ∀ (a : Addr) (o : Obj) (pm cd doc dV kV : Value), s₁.heap.get? a = some o →
    o.data = .func { docDef d.name d.params d.body d.scope pm cd doc with defaults := dV, kwdefaults := kV } → s₁.heap.CodeRec cd d.name → Dflts mg s₁.heap d.params kwd dV kV → mg d.name = some (.ref a) → s₁.gens = #[] →
    ∀ (args : List WData) (vals : List Value) (as : List Addr), r.claim.pre args = true → WData.layableAll args = true → ReadsAllW r.records (classAt s₀.heap) s₁.heap vals args as → WellAll w.params s₁.heap vals args → (∀ a ∈ as, (a == sysModules) = false) →
      wpC (model r.prog w) callerA (PySem.call (.ref a) vals) (fun v s' => GoodWG r.claim (classAt s₀.heap) (ExcName.means s₀.heap) args s₁ (.ok (.ret v)) s')
        (fun e s' => GoodWG r.claim (classAt s₀.heap) (ExcName.means s₀.heap) args s₁ (.error e) s') s₁

theorem PySem.W.holds_open {r : OpenRow} {q : Program} {loose : List Str} {Xt : Shared → Bool} {XP : (Str → Option Value) → Heap → Prop} {α : Type} {Yf : Shared → α} {Ya : World → α} {YP : World → Heap → Prop} {d : DefRec} {kwd : List (Str × Expr)} {N : Nat}
    (left : LeftO r.prog q loose Xt Yf Ya N) (hY : ∀ w s, Yf s = Ya w → YP w s.heap) (hYk : ∀ w h h', YP w h → (∀ b o, h.get? b = some o → h'.get? b = some o) → YP w h')
    (hX : ∀ s, Xt s = true → XP (s.heap.nsMap mainGlobals) s.heap) (hXk : ∀ mg h h', XP mg h → (∀ b o, h.get? b = some o → h'.get? b = some o) → XP mg h')
    (hdef : defOf q r.name = some (d, kwd)) (hp : r.prog.theDef r.name = some (d.params, d.body, d.scope)) (hk : kwWritten? d.params.kwonlyargs d.params.kw_defaults = some kwd) (hRf : ∀ s, Xt s = true → RecFacts r.records s.heap) (hwr : (!r.writes || r.records.isEmpty) = true)
    (k1 : r.wellSaid = true) (ok : (chainsOk q && opensWell r.prog && (frees r.toRowW && r.within.isEmpty)) = true) (hb : r.prog.bare) (hw : r.toRowW.promised)
    (call : WalkC q loose XP YP r.toRowW d kwd) : r.Holds := by
  obtain ⟨ok, k5⟩ := Bool.and_eq_true_iff.mp ok
  obtain ⟨hch, o1⟩ := Bool.and_eq_true_iff.mp ok
  obtain ⟨k5, k6⟩ := Bool.and_eq_true_iff.mp k5
  obtain ⟨hsame, hu, ha, hap, hm⟩ := frees_parts k5
  refine ⟨k1, hw, ⟨hb, o1, by show r.makers.map _ = []; rw [hm]; rfl⟩, hw.witness, fun w => ⟨(left.behind hX hch w).1, fun s' hs' => ?_⟩⟩
  obtain ⟨s₀, hf, hg0, s, hT, hz, hgens, hg, G00, y⟩ := (left.behind (XP := fun mg h => XP mg h ∧ RecFacts r.records h) (fun s hs => ⟨hX s hs, hRf s hs⟩) hch w).2 s' hs'
  have G0 : Ground q loose [] XP w s (s.heap.nsMap mainGlobals) (s.heap.nsMap builtinsNs) s.heap := ⟨G00.T, G00.B, G00.D, G00.TE, G00.TD, G00.W, G00.X.1, G00.cls, G00.has, G00.apart, G00.once, G00.K⟩
  have RF := G00.X.2
  have hT' := hT
  refine ⟨s₀, hf, hg0, s, hT, (fun n hn => ?_), RF.1, RF.2.1, ?_⟩
  · obtain rfl : n = r.name := by split at hn <;> simp_all
    exact pinned_of_view hg G0 hdef hp hk
  have hgens : s.gens = #[] := Array.eq_empty_of_size_eq_zero (beq_iff_eq.mp hgens)
  have G : Ground q loose r.records XP w s _ _ s.heap := RF.ground G0
  refine callFrom_C (c := r.toRowW.claim) hz hgens fun args hpre hlay ord hord => ?_
  obtain ⟨⟨vs, s₁⟩, hlaid⟩ := Option.isSome_iff_exists.mp (layAllW_isSome (P := w.params) (ord := ord) G.has args r.args s (pre_splitW hpre).1)
  have keeps := layAllW_keeps _ _ _ hlaid
  have hal := layAllW_rest _ _ _ hlaid
  obtain ⟨as, hrd, hin, hold⟩ := reads_layAllW hord _ _ _ hlaid hlay s₁.heap (fun _ _ e => e)
  have L : Laid r.records w s s₁ args vs as := ⟨⟨ord, hord, hlaid⟩, hrd, hin, hold, keeps, hal.1.trans hgens, hal.2.2.1⟩
  have G₁ := G.keeps hXk keeps
  obtain ⟨a, o, pm, cd, doc, dV, kV, h1, h2, h3, h4, h5⟩ := G₁.fn hdef
  have hi := ident_freeW hu ha hap
  have hwi : r.toRowW.claim.within = [] := List.isEmpty_iff.mp k6
  have h := call w s s₁ _ _ G₁ (hYk _ _ _ (hY w s y) keeps) a o pm cd doc dV kV h2 h3 h4 h5 (defOf_name hdef ▸ h1) L.gens args vs as hpre hlay L.reads L.well (L.low G.low)
  refine ⟨vs, s₁, hlaid, fun Γ p hΓ hC => ?_⟩
  show Sem.wp (model r.prog w) Γ (nsGet mainNs r.name >>= fun x => _) _ _ p s₁
  rw [Sem.wp_bind']
  refine (Sem.wp_nsGet _ _ _ _ _ G₁.T.g _ _).mpr ?_
  rw [h1]
  show Sem.wp (model r.prog w) Γ (PySem.call (.ref a) vs >>= fun x => _) _ _ p s₁
  rw [Sem.wp_bind']
  exact Sem.wp_mono _ _ _ (fun v p' s' g => ⟨_, rfl, have z := g.laid (c := r.toRowW.claim) hsame hwi hi L; ⟨z.1, z.2.1, z.2.2, fun q => ⟨namesKept_of hT' hg _ keeps g.2.1.old, noTable hwr q⟩⟩⟩) (fun e p' s' g => have z := g.laid (c := r.toRowW.claim) hsame hwi hi L; ⟨z.1, z.2.1, z.2.2, fun q => ⟨namesKept_of hT' hg _ keeps g.2.1.old, noTable hwr q⟩⟩) _ _ (h Γ p hΓ hC)
end Mine

end

section
/-! part K9 -/
open PySem PySem.W PyProof.Rows
namespace Mine
set_option maxRecDepth 100000 in
set_option maxHeartbeats 8000000 in
open_top hd for PySem.Challenge.rw_ny0133_01
end Mine

end

section
/-! part C1 -/
open PySem PySem.W PyProof.Rows
open PySem.Calls
namespace Mine
section
variable {α β : Type} {M : Model} {A : Around} {E : Value → Shared → Prop} {s : Shared} {env : Env}
theorem wpC_any {t : Sem α} {Q : α → Shared → Prop} (h : wpAny M A t Q E s) : wpC M A t Q E s := fun Γ p a _ => h Γ p a
theorem wpC_mono {t : Sem α} {Q Q' : α → Shared → Prop} {E' : Value → Shared → Prop} (h : wpC M A t Q E s) (hQ : ∀ a s, Q a s → Q' a s) (hE : ∀ e s, E e s → E' e s) : wpC M A t Q' E' s :=
  fun Γ p a b => Sem.wp_mono M Γ t (fun a _ s => hQ a s) (fun e _ s => hE e s) p s (h Γ p a b)
theorem wpC_bind {m : Sem α} {f : α → Sem β} {Q : β → Shared → Prop} (h : wpC M A m (fun a s' => wpC M A (f a) Q E s') E s) : wpC M A (m >>= f) Q E s := fun Γ p a b => by
  rw [Sem.wp_bind']
  exact Sem.wp_mono M Γ m (fun x p' s' h' => h' Γ p' a b) (fun _ _ _ h' => h') p s (h Γ p a b)
theorem wpC_pure {a : α} {Q : α → Shared → Prop} (h : Q a s) : wpC M A (pure a) Q E s := wpC_any (wpAny_pure h)
theorem wpC_holding {vs : List Value} {m : Sem α} {Q : α → Shared → Prop} (h : wpC M A m Q E s) : wpC M A (holding vs m) Q E s := fun Γ p a b => by rw [Sem.wp_holding]; exact h Γ p a b
theorem wpC_keep {vs : List Value} {m : Sem α} {Q : α → Shared → Prop} (h : wpC M A m Q E s) : wpC M A (m.keep vs) Q E s := fun Γ p a b => by rw [Sem.wp_keep]; exact h Γ p a b
theorem wpC_onRaise {m : Sem α} {k : Value → Sem Unit} {Q : α → Shared → Prop} (h : wpC M A m Q (fun e s' => wpAny M A (k e) (fun _ s'' => E e s'') E s') s) : wpC M A (m.onRaise k) Q E s := fun Γ p a b => by
  rw [Sem.wp_onRaise]
  exact Sem.wp_mono M Γ m (fun _ _ _ h' => h') (fun e p' s' h' => h' Γ p' a) p s (h Γ p a b)
theorem codeC_any {c : Code} {R : Result → Shared → Prop} (h : codeAny M A c R s) : codeC M A c R s := fun Γ p a b _ => h Γ p a b
theorem codeC_mono {c : Code} {R R' : Result → Shared → Prop} (h : codeC M A c R s) (hR : ∀ r s, R r s → R' r s) : codeC M A c R' s := fun Γ p a b d => wpCode_mono hR (h Γ p a b d)
theorem wpC_runValue {c : Code} {Q : Value → Shared → Prop} (hc : codeC M A c (fun r s' => match r with | .ok (.ret v) => Q v s' | .ok _ => False | .error e => E e s') s) : wpC M A (runValue c) Q E s := fun Γ p hΓ hC => by
  rw [Sem.wp_runValue]
  refine hc _ p rfl (hΓ.enter c none p (by intro x; cases x)) fun x hx => ?_
  rcases List.mem_cons.mp hx with rfl | hx
  · exact hC.1
  · exact hC.2 x hx
theorem wpC_call {f : Value} {pos : List Value} {kw : List (Str × Value)} {Q : Value → Shared → Prop} (hc : codeC M A (.call f ⟨pos, kw⟩) (fun r s' => match r with | .ok (.ret v) => Q v s' | .ok _ => False | .error e => E e s') s) :
    wpC M A (call f pos kw) Q E s := wpC_runValue hc
theorem codeC_of_tree {c : Code} {R : Result → Shared → Prop} (hok : okCode c = true)
    (h : wpC M (A.under c) (M.den c) (fun fin s' => match fin with | .done f => R (.ok f) s' | .again c' => c'.quiet = true ∧ codeC M A c' R s') (fun e s' => R (.error e) s') s) : codeC M A c R s := fun Γ p hc hΓ hb => by
  rw [wpCode_iff_wp, hc]
  refine Sem.wp_mono M Γ _ (fun fin p' s' h' => ?_) (fun _ _ _ h' => h') p s (h Γ p (hc ▸ hΓ.in) ⟨by rw [hc]; exact hok, hb⟩)
  cases fin with
  | done f => exact h'
  | again c' => exact ⟨h'.1, h'.2 (Γ.goto c') p' rfl (hΓ.goto c') hb⟩

theorem wpC_execs_cons {st rest} {Q : Flow → Shared → Prop} (h : wpC M A (exec st env) (fun f s' => match f with | .next => wpC M A (execs rest env) Q E s' | f => Q f s') E s) : wpC M A (execs (st :: rest) env) Q E s := fun Γ p a b => by
  rw [execs_cons, Sem.wp_bind']
  refine Sem.wp_mono M Γ _ (fun f p' s' h' => ?_) (fun _ _ _ h' => h') _ _ (h Γ p a b)
  cases f <;> first | exact h' Γ p' a b | exact h'
theorem wpC_Assign_Name {x pos' value pos} {Q : Flow → Shared → Prop} (h : wpC M A (eval value env) (fun v s₁ => wpAny M A (storeName env x v) (fun _ => Q .next) E s₁) E s)
    (hs : swapsWith value (some (.Name x pos')) pos.line env = pure false := by rfl) : wpC M A (exec (.Assign [.Name x pos'] value pos) env) Q E s := fun Γ p a b => by
  simp only [exec_Assign_Name env x pos' value pos hs, Sem.wp_bind', Sem.wp_cmd_standAt, Sem.wp_bindName, Sem.wp_pure']
  exact Sem.wp_mono M Γ _ (fun v _ s₁ h₁ => h₁ Γ _ a) (fun _ _ _ h' => h') _ _ (h Γ _ a b)
theorem wpC_If {test body orelse pos} {Q : Flow → Shared → Prop}
    (h : wpC M A (isTrue test env (eval test env)) (fun b s₂ => if b then wpC M A (execs body env) Q E s₂ else wpC M A (execs orelse env) Q E s₂) E s) : wpC M A (exec (.If test body orelse pos) env) Q E s := fun Γ p a b => by
  simp only [exec_If, Sem.wp_bind', Sem.wp_cmd_standAt]
  refine Sem.wp_mono M Γ _ (fun c p₂ s₂ h₂ => ?_) (fun _ _ _ h' => h') _ _ (h Γ _ a b)
  cases c <;> exact h₂ Γ p₂ a b
theorem wpC_Return {e : Expr} {pos : Pos} {Q : Flow → Shared → Prop} (h : wpAny M A (exec (.Return (some e) pos) env) Q E s) : wpC M A (exec (.Return (some e) pos) env) Q E s := wpC_any h
theorem wpC_isTrue_Compare1 {l op r pos whole} {Q : Bool → Shared → Prop}
    (h : wpC M A (eval l env) (fun a s₁ => wpAny M A (eval r env) (fun b s₂ => wpAny M A (compareOp op a b) (fun c s₃ => wpAny M A (truthy c) Q E s₃) E s₂) E s₁) E s)
    (hm : behindInMarks op r = false := by with_unfolding_all rfl) : wpC M A (isTrue (.Compare l [op] [r] pos) env whole) Q E s := fun Γ p hΓ hC => by
  simp only [isTrue_Compare1, markedBehindIn_of_false hm, Sem.wp_bind', Sem.wp_holding, Sem.wp_cmd_standAt, Sem.wp_operate]
  exact Sem.wp_mono M Γ _ (fun a p₁ s₁ h₁ => Sem.wp_mono M Γ _ (fun b _ s₂ h₂ => Sem.wp_mono M Γ _ (fun c p₃ s₃ h₃ => h₃ Γ p₃ hΓ)
    (fun _ _ _ h' => h') _ _ (h₂ Γ _ hΓ)) (fun _ _ _ h' => h') _ _ (h₁ Γ p₁ hΓ)) (fun _ _ _ h' => h') _ _ (h Γ p hΓ hC)
theorem wpC_Call_Name {id : Str} {p pos : Pos} {args : List Expr} {Q : Value → Shared → Prop}
    (h : wpAny M A (eval (.Name id p) env) (fun f s₁ => wpC M A (callWith pos f [] (backTo pos (starEach args env)) []) Q E s₁) E s) :
    wpC M A (eval (.Call (.Name id p) args [] pos) env) Q E s := by
  show wpC M A (do callWith pos (← eval (.Name id p) env) [] (backTo pos (starEach args env)) (backToKw pos (keywordEach [] env))) Q E s
  exact wpC_bind (wpC_any h)
theorem callWith_C {pos : Pos} {f : Value} {first : List Value} {Q : Value → Shared → Prop} {P : Heap → Prop} {args : List (Bool × Sem Value)} {keywords : List (Option Str × Sem Value)} (hplain : (args.any (·.1) || keywords.any (·.1.isNone)) = false)
    (hk : ∀ h, P h → ∃ k, (k = Keeper.frame ∨ k = Keeper.machine ∨ k = Keeper.boundFrame) ∧ Looks M h (keeperOf f) k)
    (h : wpAny M A (evalArgs f true args keywords) (fun a s₁ => P s₁.heap ∧ wpC M A (call f (first ++ a.pos) a.kw) Q E s₁) E s) : wpC M A (callWith pos f first args keywords) Q E s := by
  unfold callWith
  refine wpC_bind (wpC_any (wpAny_holding (wpAny_mono h (fun a s₁ h₁ => wpC_bind (wpC_any (wpAny_standAt ?_))) fun _ _ x => x)))
  obtain ⟨k, hk', L⟩ := hk _ h₁.1
  simp only [hplain]
  refine wpC_bind (wpC_any (L.here ?_))
  have tail : ∀ {t : Sem Value}, wpC M A t Q E s₁ → wpC M A (t >>= fun r => holding [r] point >>= fun _ => pure r) Q E s₁ :=
    fun ht => wpC_bind (wpC_mono ht (fun r s₂ hr => wpC_any (wpAny_bind (wpAny_holding (wpAny_point (wpAny_pure hr))))) fun _ _ x => x)
  have marked (mk : Value) : wpC M A (callMarked mk f (first ++ a.pos) a.kw) Q E s₁ := by unfold callMarked; exact wpC_keep h₁.2
  rcases hk' with rfl | rfl | rfl <;> dsimp only <;> first | exact tail h₁.2 | (split <;> first | exact tail h₁.2 | exact tail (marked _))
theorem callWith_CK {K : Frag} {h₀ : Heap} {pos : Pos} {f : Value} {first : List Value} {Q : Value → Shared → Prop} {e : Expr} {rest : List Expr} (_X : K.In h₀) (hk : keepIn K f = true)
    (h : wpAny M A (spliced (backTo pos (starEach (e :: rest) env))) (fun vs s₁ => K.In s₁.heap ∧ wpC M A (call f (first ++ vs)) Q E s₁) E s)
    (he : starEach (e :: rest) env = (false, eval e env) :: starEach rest env := by rfl) (hplain : (backTo pos (starEach rest env)).any (·.1) = false := by rfl) :
    wpC M A (callWith pos f first (backTo pos (starEach (e :: rest) env)) []) Q E s := by
  rw [he] at h ⊢
  exact callWith_C (by show ((false || (backTo pos (starEach rest env)).any (·.1)) || false) = false; rw [hplain]; rfl) (keeps_K hk) (evalArgs_plain h)
theorem callWith_Ctype {pos : Pos} {T : String} {first : List Value} {args : List (Bool × Sem Value)} {Q : Value → Shared → Prop} (hplain : args.any (·.1) = false)
    (h : wpAny M A (evalArgs (.type T) true args []) (fun a s₁ => wpC M A (call (.type T) (first ++ a.pos) a.kw) Q E s₁) E s) :
    wpC M A (callWith pos (.type T) first args []) Q E s := by
  unfold callWith
  refine wpC_bind (wpC_any (wpAny_holding (wpAny_mono h (fun a s₁ h₁ => wpC_bind (wpC_any (wpAny_standAt ?_))) fun _ _ x => x)))
  simp only [hplain, List.any_nil, Bool.or_false]
  refine wpC_bind (wpC_pure ?_)
  exact wpC_bind (wpC_mono h₁ (fun r s₂ hr => wpC_any (wpAny_bind (wpAny_holding (wpAny_point (wpAny_pure hr))))) fun _ _ x => x)
theorem callWith_Ctype1 {pos : Pos} {T : String} {first : List Value} {Q : Value → Shared → Prop} {e : Expr} {rest : List Expr}
    (h : wpAny M A (spliced (backTo pos (starEach (e :: rest) env))) (fun vs s₁ => wpC M A (call (.type T) (first ++ vs)) Q E s₁) E s)
    (he : starEach (e :: rest) env = (false, eval e env) :: starEach rest env := by rfl) (hplain : (backTo pos (starEach rest env)).any (·.1) = false := by rfl) :
    wpC M A (callWith pos (.type T) first (backTo pos (starEach (e :: rest) env)) []) Q E s := by
  rw [he] at h ⊢
  exact callWith_Ctype (by show (false || (backTo pos (starEach rest env)).any (·.1)) = false; rw [hplain]; rfl) (evalArgs_plain h)
end
section
variable {prog : Program} {w : World} {A : Around} {E : Value → Shared → Prop} {s : Shared} {R : Result → Shared → Prop}
theorem codeC_func {body env}
    (h : wpC (model prog w) (A.deeper env) (execs body env) (fun f s' => R (.ok (.ret (match f with | .ret v => v | _ => .none))) s')
      (fun e s' => wpAny (model prog w) (A.deeper env) (leaving env e) (fun _ s'' => R (.error e) s'') (fun e' s'' => R (.error e') s'') s') s) :
    codeC (model prog w) A (.func body env) R s := by
  refine codeC_of_tree rfl ?_
  show wpC _ (A.deeper env) (do point; match ← (execs body env).onRaise (leaving env) with | .ret v => ret v | _ => ret .none) _ _ s
  refine wpC_bind (wpC_any (wpAny_point (wpC_bind (wpC_onRaise (wpC_mono h (fun f s' h' => ?_) fun _ _ h' => h')))))
  cases f <;> exact wpC_pure h'
theorem codeC_call_function {a : Addr} {args : Args} {o : Obj} {fd : FuncData} {body : List Stmt} (hroom : A.depth < recursionLimit)
    (ho : s.heap.get? a = some o) (hd' : o.data = .func fd) (hco : fd.scope.isCoroutine = false) (hgen : fd.scope.isGenerator = false) (hbody : fd.body = .stmts body) (hcd : s.heap.CodeRec fd.code fd.qualname)
    (h : wpAny (model prog w) A.in1 (bindArgs fd args) (fun binds s₁ =>
      wpAny (model prog w) A.in1 (newFunctionEnv fd.scope fd.globals fd.closure binds (fd.qualname ++ ".<locals>.") (some a) fd.code none fd.builtins)
        (fun env s₂ => s₂.heap.NoLimit ∧ codeC (model prog w) A (.func body env) R s₂) (fun e s' => R (.error e) s') s₁) (fun e s' => R (.error e) s') s) :
    codeC (model prog w) A (.call (.ref a) args) R s := by
  refine codeC_of_tree rfl (wpC_any ?_)
  show wpAny _ A.in1 (callAny (.ref a) args) _ _ s
  simp only [callAny]
  refine wpAny_bind (wpAny_load ho ?_)
  obtain ⟨c, oc, vs, tq, hc, hoc, hdc, hq⟩ := hcd
  simp only [hd', callFunction, hco, hgen, hbody, hc]
  rw [hc] at h
  refine wpAny_bind (m := field (.ref c) 1) (wpAny_field hoc hdc hq (wpAny_bind (wpAny_pure ?_)))
  exact wpAny_bind (wpAny_mono h (fun binds s₁ h₁ => wpAny_bind (wpAny_mono h₁ (fun env s₂ h₂ => wpAny_bind (wpAny_enterFrame h₂.1 hroom
    (wpAny_pure (And.intro rfl h₂.2)))) fun _ _ h' => h')) fun _ _ h' => h')
theorem codeC_call_def {a : Addr} {o : Obj} {fd : FuncData} {body : List Stmt} {args : Args} {binds : List (Str × Value)}
    (hroom : A.depth < recursionLimit) (ho : s.heap.get? a = some o) (hdata : o.data = .func fd) (hlim : s.heap.NoLimit) (hcd : s.heap.CodeRec fd.code fd.qualname)
    (hbody : fd.body = .stmts body) (hbind : BindsTo s fd args binds)
    (hcell : ∀ x ∈ fd.scope.names, x.2 ≠ .cell) (hloc : ∀ x ∈ binds, fd.scope.names.lookup x.1 = some .local)
    (h : ∀ h₀, h₀.Ns s.heap.objs.size (fun x => binds.reverse.lookup x) → (∀ b o, s.heap.get? b = some o → h₀.get? b = some o) →
      wpC (model prog w) (A.deeper (callEnv fd s.heap.objs.size a)) (execs body (callEnv fd s.heap.objs.size a)) (fun f s' => R (.ok (.ret (match f with | .ret v => v | _ => .none))) s')
        (fun _ _ => False) { s with heap := h₀, toks := s.toks + binds.length })
    (hco : fd.scope.isCoroutine = false := by rfl) (hgen : fd.scope.isGenerator = false := by rfl) (hk : fd.scope.kind = .function := by rfl) :
    codeC (model prog w) A (.call (.ref a) args) R s := by
  refine codeC_call_function hroom ho hdata hco hgen hbody hcd (hbind _ _ _ _ ?_)
  refine wpAny_newFunctionEnv hcell hloc (fun h₀ hns₀ hsb₀ => ⟨hlim.fresh _ hsb₀, codeC_func (wpC_mono (h h₀ hns₀ fun b o e => ?_) (fun _ _ x => x) fun _ _ x => x.elim)⟩) hk
  exact hsb₀.extBut b o (Nat.ne_of_lt (Heap.lt_size e)) (Heap.get?_push_of_some _ e)
/-- a call of a def that does not raise, on a clean stack -/
theorem enterP {A₀ : Around} {K : Frag} {L : Addr} {h₀ base : Heap} {m mg mb : Str → Option Value} {news : List (Addr × Obj)} {p : Program} {loose : List Str} {mean : ExcName → Option Value}
    {env : Env} {outer : List Env} {name qual : Str} {params : Arguments} {body : List Stmt} {scope : Scope} {dV kV doc pm cdv ct oc : Value} {an od : Option Addr} {osl : Array (Option Value)} {f : Addr} {args : Args} {binds : List (Str × Value)}
    (B : Below A₀ base outer h₀) (F : Fr h₀ L s.heap m) (X₀ : K.In h₀) (N : News h₀ L s.heap news) (T : Top p loose mean mg mb h₀) (hA : A.frames = some (env :: outer)) (hf : env.frame = some L) (hke : env.scope.kind = .function)
    (ho : K.lookup f = some ⟨oc, od, .func (fnOf name qual params body scope dV kV doc pm an cdv ct), osl⟩) (hcd : codeIn K cdv qual = true) (hroom : A.depth < recursionLimit)
    (hbind : BindsTo s (fnOf name qual params body scope dV kV doc pm an cdv ct) args binds) (hloc : ∀ y ∈ binds, scope.names.lookup y.1 = some .local)
    (h : ∀ g L' h₁ tk, Fr g L' h₁ (fun y => binds.reverse.lookup y) → News g L' h₁ news → Below A base (env :: outer) g → K.In g → Top p loose mean mg mb g →
      wpC (model prog w) (A.deeper (envOf qual scope L' f cdv)) (execs body (envOf qual scope L' f cdv))
        (fun fl s' => LeaveK h₀ L m g R (match fl with | .ret v => v | _ => .none) s') (fun _ _ => False) { s with heap := h₁, toks := tk })
    (hco : scope.isCoroutine = false) (hgen : scope.isGenerator = false) (hk : scope.kind = .function)
    (hcell : ∀ x ∈ scope.names, x.2 ≠ .cell) : codeC (model prog w) A (.call (.ref f) args) R s := by
  obtain ⟨FG, BG, st, lv⟩ := groundX (R := R) B F N hA hf hke
  refine codeC_call_def (fd := fnOf name qual params body scope dV kV doc pm an cdv ct) (body := body) (binds := binds) hroom ((X₀.keeps F.keep) _ _ ho) rfl (T.nolimit.keeps F.keep) (codeRec_of (X₀.keeps F.keep) hcd) rfl hbind hcell hloc (fun h₁ hns hk₁ => ?_) hco hgen hk
  exact wpC_mono (h _ s.heap.objs.size h₁ _ ⟨hns, fun b o e => hk₁ b o (of_hideAll _ e), Nat.le_of_eq (hideAll_size _ _)⟩
    (fun p hp => ⟨hk₁ _ _ (N p hp).1, Nat.ne_of_lt (Heap.lt_size (N p hp).1), hideAll_none _ (List.mem_map_of_mem hp)⟩) BG (X₀.keeps st) (T.keeps st)) (fun fl s' hl => lv _ _ hl) fun _ _ y => y
end
end Mine

end

section
/-! part B1 -/
open PySem PySem.W PyProof.Rows
set_option maxRecDepth 100000
namespace Mine
theorem ba_mro : mroOf (.type "bytearray") = pure [.type "bytearray", .type "object"] := by rw [mroOf_type]; kernel_rfl
theorem ba_lookup_new : typeLookup (.type "bytearray") "__new__" = pure (some (.builtin "bytearray.__new__")) := by rw [typeLookup_type, builtinLookup_eq_fast]; kernel_rfl
theorem ba_slot_init : Slot "bytearray" "__init__" "bytearray.__init__" :=
  .of (owner := "bytearray") (n := "__init__") (by rw [typeLookup_type, builtinLookup_eq_fast]; kernel_rfl) (by decide +kernel) (by decide +kernel) (by decide +kernel)
    (by first | exact .inl (by decide +kernel) | exact .inr (by decide +kernel)) (by rw [isSubtype_type]; kernel_rfl)
theorem ba_called : TypeCalled "bytearray" "bytearray.__new__" "bytearray.__init__" :=
  ⟨by decide +kernel, by decide +kernel, ⟨_, _, ba_mro⟩, madeBy_type ba_mro ba_lookup_new (by decide +kernel), by decide +kernel, by rw [isSubtype_type]; kernel_rfl, ba_slot_init⟩
theorem ba_typeCall (n : Int) (t : Tok) : checkTypeCall "bytearray" ⟨[.int n t], []⟩ = pure () := by kernel_rfl
theorem ba_newCall (n : Int) (t : Tok) : checkBuiltinCall "bytearray.__new__" ⟨[.type "bytearray", .int n t], []⟩ = pure () := by kernel_rfl
theorem ba_plain_new : plainId "bytearray.__new__" = true := by decide +kernel
theorem ba_entry_new : entryFor table "bytearray.__new__" = some Builtin.«list.__new__» := entryFor_alias (id' := "list.__new__") (by kernel_rfl) (by decide +kernel) (by decide +kernel) (by kernel_rfl)
theorem ba_entry_init : entryFor table "bytearray.__init__" = some Builtin.«bytearray.__init__» := by first | exact entryFor_of_fast (by kernel_rfl) | exact entryFor_of_tree (by kernel_rfl)
theorem ba_owner : ("bytearray.__new__".splitOn ".__new__").headD "" = "bytearray" := by simp +decide [String.splitOn, String.splitOnAux]
theorem ba_args (v : Value) (n : Int) (t : Tok) : argsOk "bytearray.__init__" ⟨[v, .int n t], []⟩ := by unfold argsOk; kernel_rfl
theorem ba_bind (n : Int) (t : Tok) : Builtin.Bytes.bindOptional "bytearray.__init__" "bytearray" ["source", "encoding", "errors"] [.int n t] [] = pure [some (.int n t), none, none] := by kernel_rfl
theorem ba_release : typeLookup (.type "bytearray") "__release_buffer__" = pure (some (.builtin "bytearray.__release_buffer__")) := by rw [typeLookup_type, builtinLookup_eq_fast]; kernel_rfl
theorem ba_hasDict : typeHasDict (.type "bytearray") = false := by decide +kernel
end Mine

end

section
/-! part B2 -/
open PySem PySem.W PyProof.Rows
set_option maxRecDepth 100000
namespace Mine
section
variable {prog : Program} {w : World} {A : Around} {E : Value → Shared → Prop} {s : Shared}
noncomputable abbrev baO (b : Array UInt8) : Obj := { cls := .type "bytearray", data := .bytearray b 0 }
theorem code_ba_new (n : Int) (t : Tok) {Q₁ : Value → Shared → Prop}
    (h : Q₁ (.ref s.heap.objs.size) { s with heap := s.heap.push (baO #[]) }) :
    codeAny (model prog w) A (.call (.builtin "bytearray.__new__") ⟨[.type "bytearray", .int n t], []⟩) (wants Q₁ E) s := by
  refine codeAny_of_tree ?_
  show wpAny _ A.in1 (do checkBuiltinCall "bytearray.__new__" ⟨[.type "bytearray", .int n t], []⟩; again (.builtin "bytearray.__new__" ⟨[.type "bytearray", .int n t], []⟩)) _ _ s
  refine wpAny_bind (wpAny_of_eq (ba_newCall n t) (wpAny_pure ⟨plainId_quiet ba_plain_new _, codeAny_builtin_stack ba_entry_new rfl fun p st => ?_⟩))
  rw [Around.under_plainId ba_plain_new _]
  have hsub := PySem.F.isi_self_bytearray
  have hown := ba_owner
  obtain ⟨hp, g, d, tk, os⟩ := s
  simp only [hown]
  wp_walk
  exact h

theorem stack_clean {f : Code × Pos → Bool} {Q : Bool → Shared → Prop} (hf : ∀ c p, okCode c = true → f (c, p) = false) (h : Q false s) : wpC (model prog w) A (do return (← stack).any f) Q E s := fun Γ p hΓ hC => by
  show Q (((Γ.code, p) :: Γ.below).any f) s
  have : ((Γ.code, p) :: Γ.below).any f = false := by
    rw [List.any_cons, hf _ _ hC.1]
    have : ∀ l : List (Code × Pos), (∀ x ∈ l, okCode x.1 = true) → l.any f = false := by
      intro l
      induction l with
      | nil => intro _; rfl
      | cons x r ih => intro hl; rw [List.any_cons, hf x.1 x.2 (hl x (.head _)), ih fun y hy => hl y (.tail _ hy)]; rfl
    rw [this _ hC.2]; rfl
  rw [this]; exact h
theorem exported_clean {self : Value} {Q : Bool → Shared → Prop} (h : Q false s) : wpC (model prog w) A (Builtin.Bytes.exported self) Q E s := by
  refine stack_clean (fun c p hc => ?_) h
  cases c with
  | builtin id args =>
    obtain ⟨pos, kw⟩ := args
    have hn : lends.contains id = false := by simpa [okCode] using hc
    have ne : ∀ z, lends.contains z = true → id ≠ z := fun z hz e => by rw [e, hz] at hn; cases hn
    have e1 := ne "bytearray.__contains__" (by decide +kernel)
    have e2 := ne "bytearray.__mod__" (by decide +kernel)
    have e3 := ne "bytearray.__rmod__" (by decide +kernel)
    have e4 := ne "_struct.pack_into.held" (by decide +kernel)
    have e5 := ne "bytearray.find.held" (by decide +kernel)
    have e6 : Builtin.Bytes.decodersThatHold.contains id = false := by
      unfold lends at hn
      rw [List.contains_append] at hn
      simp only [Bool.or_eq_false_iff] at hn
      exact hn.2
    delta Builtin.Bytes.exported.match_1
    refine (dif_neg e1).trans ((dif_neg e2).trans ((dif_neg e3).trans ((dif_neg e4).trans ((dif_neg e5).trans ?_))))
    cases pos with
    | nil => rfl
    | cons v r =>
      show (Builtin.Bytes.sameRef v self && Builtin.Bytes.decodersThatHold.contains id) = false
      rw [e6, Bool.and_false]
  | _ => rfl
theorem ba_release_own {b : Addr} {x : Array UInt8} {Q : Bool → Shared → Prop} (ho : s.heap.get? b = some (baO x)) (h : Q false s) : wpAny (model prog w) A (Builtin.Bytes.ownRelease (.ref b)) Q E s := by
  unfold Builtin.Bytes.ownRelease Builtin.Bytes.slotIsOwn
  refine wpAny_bind (wpAny_bind (wpAny_specialOf ⟨_, ho, rfl⟩ ba_release ?_))
  dsimp only
  rw [if_neg (by decide +kernel)]
  rw [show ("bytearray.__release_buffer__".dropRight ("__release_buffer__".length + 1)) = "bytearray" by decide +kernel]
  exact wpAny_isInstance ⟨_, ho, rfl⟩ PySem.F.isi_self_bytearray (wpAny_pure h)
theorem ba_write {b : Addr} {x y : Array UInt8} {f : Array UInt8 → Array UInt8} {Q : Unit → Shared → Prop} (ho : s.heap.get? b = some (baO x)) (hf : f x = y) (hz : y.size ≤ sizeLine)
    (h : ∀ h', Heap.SameBut b s.heap h' → h'.get? b = some (baO y) → Q () { s with heap := h' }) : wpAny (model prog w) A (Builtin.Bytes.write (.ref b) f) Q E s := by
  show wpAny _ _ (updateBytearray b f) _ _ _
  unfold updateBytearray
  refine wpAny_bind (wpAny_load ho ?_)
  show wpAny _ _ (update b (Obj.mapBytearray f) >>= fun _ => lookBehind b) _ _ _
  refine wpAny_bind (wpAny_update ho ?_)
  have hS₂ : (s.heap.update b (Obj.mapBytearray f)).get? b = some (baO y) := by
    rw [← hf]
    exact Heap.get?_update_self (Obj.mapBytearray f) ho rfl
  refine wpAny_lookBehind hS₂ ?_ ?_
  · show (if y.size > sizeLine then some "bytearray:memory" else none) = none
    rw [if_neg (by omega)]
  · exact h _ (Heap.SameBut.update ..) hS₂
theorem asStr_int (i : Int) (t : Tok) : asStr? (.int i t) = pure none := rfl
theorem asIndex_int (i : Int) (t : Tok) : asIndex (.int i t) = pure i := rfl
theorem ba_init {b : Addr} {n : Nat} {t : Tok} {Q : PySem.Fin → Shared → Prop} (ho : s.heap.get? b = some (baO #[])) (hn : n ≤ sizeLine)
    (h : ∀ h', Heap.SameBut b s.heap h' → h'.get? b = some (baO (Array.replicate n 0)) → Q (.done (.ret .none)) { s with heap := h' }) :
    wpC (model prog w) A (Builtin.«bytearray.__init__» ⟨[.ref b, .int n t], []⟩) Q E s := by
  unfold Builtin.«bytearray.__init__»
  refine wpC_bind (wpC_any (ba_release_own ho ?_))
  dsimp only
  rw [if_neg (by decide)]
  refine wpC_bind (wpC_any (wpAny_of_eq (ba_bind _ _) ?_))
  dsimp only
  refine wpC_bind (wpC_any (wpAny_of_eq (a := ()) rfl ?_))
  refine wpC_bind (wpC_any (wpAny_of_eq (a := ()) rfl ?_))
  refine wpC_bind ?_
  refine wpC_bind (exported_clean ?_)
  show wpC _ _ (do let e ← Builtin.Bytes.exportsOf (Value.ref b); pure (decide (e > 0))) _ _ _
  refine wpC_any (wpAny_bind ?_)
  unfold Builtin.Bytes.exportsOf
  refine wpAny_bind (wpAny_load ho (wpAny_pure (wpAny_pure ?_)))
  rw [if_neg (by decide)]
  refine wpC_any ?_
  refine wpAny_bind (ba_write ho (y := #[]) rfl (by rw [sizeLine_eq]; decide) fun h₁ hs₁ ho₁ => ?_)
  have e1 : ∀ (f : Option Str → Sem PySem.Fin), (asStr? (.int (n : Int) t) >>= f) = f none := fun f => rfl
  have e2 : ∀ (f : Unit → Sem PySem.Fin), ((pure () : Sem Unit) >>= f) = f () := fun f => rfl
  have e3 : ∀ (f : Except Value Int → Sem PySem.Fin), ((asIndex (.int (n : Int) t)).attempt >>= f) = f (.ok (n : Int)) := fun f => rfl
  rw [e1, if_neg (by decide), if_neg (by decide), if_neg (by decide), e2]
  have hsp : ∀ (S : Shared) (Q' : Option Value → Shared → Prop) (E' : Value → Shared → Prop), Q' (some (.builtin "int.__index__")) S → wpAny (model prog w) A (specialOf (.int (n : Int) t) (Str.ofString "__index__")) Q' E' S := fun S Q' E' h => wpAny_specialOf (T := "int") (typeIs_int _ _ _) PySem.int_index h
  refine wpAny_bind ?_
  refine hsp _ _ _ ?_
  rw [if_pos (by decide), e3]
  dsimp only
  have hz := sizeLine_eq
  rw [if_neg (by unfold Builtin.Bytes.fitsIndex; simp; omega), if_neg (by omega), if_neg (by simp; omega), if_neg (by unfold Builtin.Bytes.tooLong; simp; omega)]
  refine wpAny_bind (wpAny_rule ?_)
  by_cases h0 : (n : Int) > 0
  · rw [if_pos h0]
    refine wpAny_bind (ba_write ho₁ (y := Array.replicate n 0) (by simp) (by simpa using hn) fun h₂ hs₂ ho₂ => wpAny_pure (h h₂ (hs₁.trans hs₂) ho₂))
  · rw [if_neg h0]
    obtain rfl : n = 0 := by omega
    exact wpAny_pure (h h₁ hs₁ ho₁)
end
end Mine

end

section
/-! part B3 -/
open PySem PySem.W PyProof.Rows
set_option maxRecDepth 100000
namespace Mine
section
variable {prog : Program} {w : World} {A : Around} {E : Value → Shared → Prop} {s : Shared}
theorem codeC_builtin {id : String} {args : Args} {b : Builtin} {R : Result → Shared → Prop} (hok : (!lends.contains id) = true) (hb : entryFor table id = some b)
    (h : wpC (model prog w) (A.under (.builtin id args)) (b args)
      (fun fin s' => match fin with | .done f => R (.ok f) s' | .again c' => c'.quiet = true ∧ codeC (model prog w) A c' R s') (fun e s' => R (.error e) s') s) :
    codeC (model prog w) A (.builtin id args) R s := by
  refine codeC_of_tree hok ?_
  show wpC _ _ (match entryFor table id with | some b => b args | none => unsupported ((withoutEnding? id "#data").getD id)) _ _ s
  rw [hb]; exact h
theorem codeC_ba_init {b : Addr} {n : Nat} {t : Tok} {R : Result → Shared → Prop} (ho : s.heap.get? b = some (baO #[])) (hn : n ≤ sizeLine)
    (h : ∀ h', Heap.SameBut b s.heap h' → h'.get? b = some (baO (Array.replicate n 0)) → R (.ok (.ret .none)) { s with heap := h' }) :
    codeC (model prog w) A (.call (.builtin "bytearray.__init__") ⟨[.ref b, .int n t], []⟩) R s := by
  refine codeC_of_tree rfl (wpC_any ?_)
  show wpAny _ A.in1 (do checkBuiltinCall "bytearray.__init__" ⟨[.ref b, .int n t], []⟩; again (.builtin "bytearray.__init__" ⟨[.ref b, .int n t], []⟩)) _ _ s
  have hT : s.TypeIs (.ref b) "bytearray" := ⟨_, ho, rfl⟩
  refine wpAny_bind (ba_slot_init.check _ _ _ _ _ _ _ _ hT (ba_args _ _ _) (wpAny_pure ⟨plainId_quiet ba_slot_init.plain _, codeC_builtin (by decide +kernel) ba_entry_init (ba_init ho hn h)⟩))
theorem call_bytearray {n : Nat} {t : Tok} {Q : Value → Shared → Prop} (hn : n ≤ sizeLine)
    (h : ∀ h', (∀ b o, s.heap.get? b = some o → h'.get? b = some o) → h'.get? s.heap.objs.size = some (baO (Array.replicate n 0)) → Q (.ref s.heap.objs.size) { s with heap := h' }) :
    wpC (model prog w) A (call (.type "bytearray") [.int n t]) Q E s := by
  refine wpC_call (codeC_of_tree rfl (wpC_any ?_))
  show wpAny _ _ (callAny (.type "bytearray") _) _ _ _
  refine wpAny_pure ⟨Code.quiet_builtin _ (by decide +kernel), codeC_builtin (by decide +kernel) F.entry_type_call ?_⟩
  rw [Around.under_plain (weight_type_call_type "bytearray" _ []) rfl]
  unfold Builtin.«type.__call__»
  dsimp only
  rw [if_neg (by decide), if_neg (by rw [ba_called.canCreate]; decide)]
  refine wpC_bind (wpC_any (wpAny_of_eq (ba_typeCall _ _) ?_))
  refine wpC_bind (wpC_any (wpAny_of_eq ba_mro ?_))
  rw [if_neg (by decide)]
  refine wpC_bind (wpC_any (wpAny_of_eq ba_called.made ?_))
  dsimp only
  refine wpC_bind (wpC_any (wpAny_pure ?_))
  refine wpC_bind (wpC_any (wpAny_holding (wpAny_call (codeAny_mono (code_ba_new (E := E) (Q₁ := fun obj s₁ => obj = .ref s.heap.objs.size ∧ s₁ = { s with heap := s.heap.push (baO #[]) }) _ _ ⟨rfl, rfl⟩) fun r s₁ hr => ?_))))
  cases r with
  | error e => exact hr
  | ok fl =>
    cases fl with
    | ret obj =>
      obtain ⟨rfl, rfl⟩ := hr
      have ho : (s.heap.push (baO #[])).get? s.heap.objs.size = some (baO #[]) := Heap.get?_push_size _ rfl
      dsimp only
      refine wpC_bind (wpC_any (wpAny_isInstance (T := "bytearray") ⟨_, ho, rfl⟩ PySem.F.isi_self_bytearray ?_))
      rw [if_neg (by decide)]
      refine wpC_bind (wpC_holding ?_)
      simp only [callSpecial?]
      refine wpC_bind (wpC_any (wpAny_specialOf ⟨_, ho, rfl⟩ ba_slot_init.lookup ?_))
      simp only [ba_slot_init.bind]
      refine wpC_holding (wpC_bind (wpC_pure (wpC_bind (wpC_call (codeC_ba_init (s := { s with heap := s.heap.push (baO #[]) }) ho hn fun h' hs ho' => ?_)))))
      refine wpC_pure ?_
      dsimp only
      rw [if_neg (by decide)]
      refine wpC_pure (h h' (fun b o e => ?_) ho')
      exact hs.extBut b o (Nat.ne_of_lt (Heap.lt_size e)) (Heap.get?_push_of_some _ e)
    | _ => exact hr.elim
end
end Mine

end

section
/-! part B4 -/
open PySem PySem.W PyProof.Rows
set_option maxRecDepth 100000
namespace Mine
theorem ba_slot_set : Slot "bytearray" "__setitem__" "bytearray.__setitem__" :=
  .of (owner := "bytearray") (n := "__setitem__") (by rw [typeLookup_type, builtinLookup_eq_fast]; kernel_rfl) (by decide +kernel) (by decide +kernel) (by decide +kernel)
    (by first | exact .inl (by decide +kernel) | exact .inr (by decide +kernel)) (by rw [isSubtype_type]; kernel_rfl)
theorem ba_entry_set : entryFor table "bytearray.__setitem__" = some Builtin.«bytearray.__setitem__» := by first | exact entryFor_of_fast (by kernel_rfl) | exact entryFor_of_tree (by kernel_rfl)
theorem ba_args_set (a b c : Value) : argsOk "bytearray.__setitem__" ⟨[a, b, c], []⟩ := by unfold argsOk; kernel_rfl
theorem ba_no_bytes : typeLookup (.type "bytearray") "__bytes__" = pure none := by rw [typeLookup_type, builtinLookup_eq_fast]; kernel_rfl
theorem ba_no_index : typeLookup (.type "bytearray") "__index__" = pure none := by rw [typeLookup_type, builtinLookup_eq_fast]; kernel_rfl
theorem ba_buffer : typeLookup (.type "bytearray") "__buffer__" = pure (some (.builtin "bytearray.__buffer__")) := by rw [typeLookup_type, builtinLookup_eq_fast]; kernel_rfl
theorem pb {α β : Type} (a : α) (f : α → Sem β) : ((pure a : Sem α) >>= f) = f a := id (Eq.trans (b := f a) rfl rfl)
theorem fits_nat (k : Nat) (h : k < 2 ^ 62) : Builtin.Bytes.fitsIndex (k : Int) = true := by
  have h1 : (-(2 ^ 63 : Int)) ≤ (k : Int) := Int.le_trans (by decide) (Int.natCast_nonneg k)
  have h2 : (k : Int) < 2 ^ 63 := Int.lt_trans (Int.ofNat_lt.mpr h) (by decide)
  show (decide _ && decide _) = true
  rw [decide_eq_true h1, decide_eq_true h2]
  rfl
theorem spec_int (i : Int) (t : Tok) : specialOf (.int i t) (Str.ofString "__index__") = pure (some (.builtin "int.__index__")) := by
  have e : typeOf (.int i t) = pure (.type "int") := rfl
  unfold specialOf
  rw [e, pb]
  exact PySem.int_index
theorem sub_int (k : Nat) (t : Tok) (hk : k < 2 ^ 62) : Builtin.Bytes.subscript? (.int (k : Int) t) = pure (some (k : Int)) := by
  unfold Builtin.Bytes.subscript?
  have hfi := fits_nat k hk
  generalize (k : Int) = i at hfi ⊢
  rw [spec_int, asIndex_int, pb, if_neg (by decide), pb, hfi]
  rw [if_neg (by decide)]
theorem byte_int (v : Nat) (u : Tok) (hv : v < 256) : Builtin.Bytes.byteValue (.int (v : Int) u) = pure v.toUInt8 := by
  unfold Builtin.Bytes.byteValue
  have hfi : (decide ((v : Int) < 0) || decide ((v : Int) ≥ 256)) = false := by simp; omega
  have hv : v = (v : Int).toNat := by simp
  rw [asIndex_int, pb, hfi, if_neg (by decide), Int.toNat_natCast]
section
variable {prog : Program} {w : World} {A : Around} {E : Value → Shared → Prop} {s : Shared}
theorem ba_setItem {b : Addr} {x : Array UInt8} {k : Nat} {v : Nat} {t u : Tok} {Q : Unit → Shared → Prop} (ho : s.heap.get? b = some (baO x)) (hk : k < x.size) (hz : x.size ≤ sizeLine) (hv : v < 256)
    (h : ∀ h', Heap.SameBut b s.heap h' → h'.get? b = some (baO (x.setIfInBounds k v.toUInt8)) → Q () { s with heap := h' }) :
    wpAny (model prog w) A (setItem (.ref b) (.int k t) (.int v u)) Q E s := by
  have hT : s.TypeIs (.ref b) "bytearray" := ⟨_, ho, rfl⟩
  have hz' := sizeLine_eq
  unfold setItem
  try with_reducible refine wpAny_holding ?_
  first | refine wpAny_bind (wpAny_pure ?_) | skip
  refine wpAny_bind (wpAny_sequenceKey hT (by decide) ?_)
  refine wpAny_bind (wpAny_callSpecial?_slot (name := Str.ofString "__setitem__") hT ba_slot_set (wpAny_call_entry ba_slot_set hT ba_entry_set ?_ (ba_args_set _ _ _)))
  unfold Builtin.«bytearray.__setitem__»
  dsimp only
  have hpl : ∀ (A : Around) (Q' : Array UInt8 → Shared → Prop) (E' : Value → Shared → Prop), Q' x s → wpAny (model prog w) A (Builtin.Bytes.payload (.ref b)) Q' E' s := by
    intro A Q' E' hq
    unfold Builtin.Bytes.payload Builtin.Bytes.payload?
    exact wpAny_bind (wpAny_bind (wpAny_load ho (wpAny_pure (wpAny_pure hq))))
  simp only [List.isEmpty_nil, Bool.not_true, Bool.false_eq_true, if_false]
  have hse := sub_int k t (by omega)
  rw [hse]
  show wpAny _ _ (Builtin.Bytes.byteValue (.int (v : Int) u) >>= _) _ _ _
  have hbe := byte_int v u hv
  rw [hbe]
  show wpAny _ _ (Builtin.Bytes.payload (.ref b) >>= _) _ _ _
  refine wpAny_bind ?_
  refine hpl _ _ _ ?_
  have hsi : seqIndex? (k : Int) x.size = some k := by
    unfold seqIndex?; simp; omega
  rw [hsi]
  dsimp only
  refine wpAny_bind (ba_write ho (y := x.setIfInBounds k v.toUInt8) rfl (by simpa using hz) fun h₁ hs₁ ho₁ => ?_)
  exact wpAny_bind (wpAny_pure (wpAny_pure ⟨_, rfl, wpAny_pure (h h₁ hs₁ ho₁)⟩))

theorem ba_setItemN {h₀ : Heap} {L : Addr} {m : Str → Option Value} {news : List (Addr × Obj)} {b : Addr} {x : Array UInt8} {k' v' : Int} {k : Nat} {v : Nat} {t u : Tok} {Q : Unit → Shared → Prop} (F : Fr h₀ L s.heap m) (N : News h₀ L s.heap ((b, baO x) :: news)) (hna : ∀ p ∈ news, p.1 ≠ b)
    (hk' : k' = (k : Int)) (hv' : v' = (v : Int)) (hk : k < x.size) (hz : x.size ≤ sizeLine) (hv : v < 256)
    (h : ∀ h', Fr h₀ L h' m → News h₀ L h' ((b, baO (x.setIfInBounds k v.toUInt8)) :: news) → Q () { s with heap := h' }) :
    wpAny (model prog w) A (setItem (.ref b) (.int k' t) (.int v' u)) Q E s := by
  subst hk' hv'
  have D := N _ (.head _)
  refine ba_setItem D.1 hk hz hv fun h' hs ho => h h' (F.change hs D.2.1 D.2.2) fun p hp => ?_
  rcases List.mem_cons.mp hp with rfl | hp
  · exact ⟨ho, D.2⟩
  · have z := N p (.tail _ hp)
    exact ⟨hs.extBut _ _ (hna p hp) z.1, z.2⟩
theorem ba_bytes_new {b : Addr} {x : Array UInt8} {Q : Value → Shared → Prop} (ho : s.heap.get? b = some (baO x)) (hz : x.size ≤ sizeLine)
    (hQ : ∀ t k, Q (.bytes x t) { s with toks := k }) :
    codeAny (model prog w) A (.call (.builtin "bytes.__new__") ⟨[.type "bytes", .ref b], []⟩) (wants Q E) s := by
  refine codeAny_of_tree ?_
  show wpAny _ A.in1 (do checkBuiltinCall "bytes.__new__" ⟨[.type "bytes", .ref b], []⟩; again (.builtin "bytes.__new__" ⟨[.type "bytes", .ref b], []⟩)) _ _ s
  refine wpAny_bind (wpAny_of_eq (F.bm_newCall _) (wpAny_pure ⟨plainId_quiet F.bm_plain _, codeAny_builtin F.bm_entry ?_⟩))
  rw [Around.under_plainId F.bm_plain _]
  have hT : s.TypeIs (.ref b) "bytearray" := ⟨_, ho, rfl⟩
  unfold Builtin.«bytes.__new__»
  refine wpAny_bind (wpAny_of_eq (a := true) rfl ?_)
  refine bm_if_false rfl ?_
  refine wpAny_bind (wpAny_of_eq F.bm_sub ?_)
  refine bm_if_false rfl ?_
  refine wpAny_bind (wpAny_of_eq (F.bm_bind _) ?_)
  refine wpAny_bind (wpAny_of_eq (a := ()) rfl ?_)
  refine wpAny_bind (wpAny_of_eq (a := ()) rfl ?_)
  refine bm_if_false rfl ?_
  refine wpAny_bind (wpAny_specialOf hT ba_no_bytes ?_)
  refine wpAny_bind (wpAny_bind ?_)
  show wpAny _ _ (load b >>= _) _ _ _
  refine wpAny_bind (wpAny_load ho ?_)
  refine wpAny_pure (wpAny_pure ?_)
  refine bm_if_false rfl ?_
  refine wpAny_bind (wpAny_specialOf hT ba_no_index ?_)
  refine bm_if_true rfl ?_
  first
    | show wpAny _ _ (Builtin.Bytes.buffer? "bytes.__new__" (.ref b) true >>= _) _ _ _
    | (refine wpAny_bind ?_; show wpAny _ _ (Builtin.Bytes.buffer? "bytes.__new__" (.ref b) true >>= _) _ _ _)
  refine wpAny_bind ?_
  unfold Builtin.Bytes.buffer?
  refine wpAny_bind (wpAny_specialOf hT ba_buffer ?_)
  have hown : ∀ (A : Around) (Q' : Bool → Shared → Prop) (E' : Value → Shared → Prop), Q' true s → wpAny (model prog w) A (Builtin.Bytes.slotIsOwn (.ref b) "__buffer__") Q' E' s := by
    intro A Q' E' hq
    unfold Builtin.Bytes.slotIsOwn
    refine wpAny_bind (wpAny_specialOf hT ba_buffer ?_)
    dsimp only
    rw [if_neg (by decide +kernel)]
    rw [show ("bytearray.__buffer__".dropRight ("__buffer__".length + 1)) = "bytearray" by decide +kernel]
    exact wpAny_isInstance hT PySem.F.isi_self_bytearray hq
  have hpl : ∀ (A : Around) (Q' : Array UInt8 → Shared → Prop) (E' : Value → Shared → Prop), Q' x s → wpAny (model prog w) A (Builtin.Bytes.payload (.ref b)) Q' E' s := by
    intro A Q' E' hq
    unfold Builtin.Bytes.payload Builtin.Bytes.payload?
    exact wpAny_bind (wpAny_bind (wpAny_load ho (wpAny_pure (wpAny_pure hq))))
  dsimp only
  refine wpAny_bind (hown _ _ _ ?_)
  rw [if_neg (by decide)]
  refine wpAny_bind (wpAny_specialOf hT ba_buffer ?_)
  refine wpAny_bind (ba_release_own ho ?_)
  rw [if_neg (by decide)]
  refine wpAny_bind (hpl _ _ _ ?_)
  refine wpAny_pure ?_
  refine wpAny_bind (wpAny_rule ?_)
  refine wpAny_bind (wpAny_mkBytes ?_ hz)
  show wpAny _ _ (if (Value.type "bytes" == Value.type "bytes") = true then _ else _) _ _ _
  refine bm_if_true (by decide) ?_
  exact wpAny_pure (hQ _ _)
theorem call_bytes_ba {b : Addr} {x : Array UInt8} {Q : Value → Shared → Prop} (ho : s.heap.get? b = some (baO x)) (hz : x.size ≤ sizeLine)
    (hQ : ∀ t k, Q (.bytes x t) { s with toks := k }) : wpAny (model prog w) A (call (.type "bytes") [.ref b]) Q E s := by
  refine callType_codes (Q₁ := fun obj s₁ => s₁.TypeIs obj "bytes" ∧ Q obj s₁) F.bm_called (F.bm_typeCall _) F.entry_object_init
    (ba_bytes_new ho hz fun t k => ⟨PySem.W.typeIs_bytes _ _ _, hQ t k⟩) fun obj s₁ h₁ => ?_
  exact ⟨h₁.1, F.args_object_init_2 obj _, object_init_meets F.bm_called.init.lookup F.bm_called.made (by decide) prog w A.in1 _ s₁ ⟨h₁.1, rfl, h₁.2⟩⟩
end
end Mine

end

section
/-! part M1 -/
open PySem PySem.W PyProof.Rows
namespace Mine
noncomputable abbrev PR := PySem.Challenge.rw_ny0133_01.row.toRowW.prog
noncomputable abbrev LW := looseW hd.view_39 [Str.ofString "_filemode_table"]

/-- a list object with these items -/
noncomputable def isL (o : Obj) (vs : List Value) : Prop := ∃ n, o = W.listOf vs.toArray n

theorem isL.list {h₀ h : Heap} {L a : Addr} {o : Obj} {vs : List Value} {news : List (Addr × Obj)} (x : isL o vs) (N : News h₀ L h ((a, o) :: news)) : h.IsList a vs.toArray := by
  obtain ⟨n, rfl⟩ := x
  exact ⟨_, (N _ (.head _)).1, rfl, n, rfl⟩
theorem isL.listM {h₀ h : Heap} {L a : Addr} {o : Obj} {vs : List Value} {news : List (Addr × Obj)} (x : isL o vs) (N : News h₀ L h news) (hm : (a, o) ∈ news) : h.IsList a vs.toArray := by
  obtain ⟨n, rfl⟩ := x
  exact ⟨_, (N _ hm).1, rfl, n, rfl⟩

/-- comparing two of the heap's items -/
noncomputable def Cmps (prog : Program) (w : World) (tups : List (Addr × Obj)) (S : Addr → Prop) (lt : Addr → Addr → Bool) : Prop :=
  ∀ (A : Around) (x y : Addr) (s : Shared) (Q : Value → Shared → Prop) (E : Value → Shared → Prop), S x → S y → (∀ p ∈ tups, s.heap.get? p.1 = some p.2) → A.units < cLine → Q (.bool (lt x y)) s →
    wpAny (model prog w) A (compareOp .Lt (.ref x) (.ref y)) Q E s

/-- _siftdown from the place pos up, the new item x -/
noncomputable def sd {α : Type} (lt : α → α → Bool) (x : α) (H : List α) (pos : Nat) : List α :=
  (measure (fun q : List α × Nat => q.2)).wf.fix (C := fun _ => List α) (fun q ih =>
    if h : q.2 = 0 then q.1.set q.2 x else match q.1[(q.2 - 1) / 2]? with
      | some p => if lt x p then ih (q.1.set q.2 p, (q.2 - 1) / 2) (Nat.lt_of_le_of_lt (Nat.div_le_self _ _) (Nat.pred_lt h)) else q.1.set q.2 x
      | none => q.1) (H, pos)
theorem sd_eq {α : Type} (lt : α → α → Bool) (x : α) (H : List α) (pos : Nat) : sd lt x H pos =
    if pos = 0 then H.set pos x else match H[(pos - 1) / 2]? with
    | some p => if lt x p then sd lt x (H.set pos p) ((pos - 1) / 2) else H.set pos x
    | none => H := WellFounded.fix_eq _ _ _

/-- _siftup's loop -/
theorem su_less {α : Type} {H : List α} {pos k : Nat} (y : α) (h : pos < H.length) (hk : pos < k) : (H.set pos y).length - k < H.length - pos := by
  rw [List.length_set]; exact Nat.sub_lt_sub_left h hk
noncomputable def su {α : Type} (lt : α → α → Bool) (d : α) (H : List α) (pos : Nat) : List α × Nat :=
  (measure (fun q : List α × Nat => q.1.length - q.2)).wf.fix (C := fun _ => List α × Nat) (fun q ih =>
    if h : 2 * q.2 + 1 < q.1.length then
      (if 2 * q.2 + 1 + 1 < q.1.length ∧ lt (q.1.getD (2 * q.2 + 1) d) (q.1.getD (2 * q.2 + 1 + 1) d) = false then
        ih (q.1.set q.2 (q.1.getD (2 * q.2 + 1 + 1) d), 2 * q.2 + 1 + 1) (su_less _ (by omega) (by omega))
      else ih (q.1.set q.2 (q.1.getD (2 * q.2 + 1) d), 2 * q.2 + 1) (su_less _ (by omega) (by omega)))
    else q) (H, pos)
theorem su_eq {α : Type} (lt : α → α → Bool) (d : α) (H : List α) (pos : Nat) : su lt d H pos =
  if 2 * pos + 1 < H.length then
    (if 2 * pos + 1 + 1 < H.length ∧ lt (H.getD (2 * pos + 1) d) (H.getD (2 * pos + 1 + 1) d) = false then su lt d (H.set pos (H.getD (2 * pos + 1 + 1) d)) (2 * pos + 1 + 1)
    else su lt d (H.set pos (H.getD (2 * pos + 1) d)) (2 * pos + 1))
  else (H, pos) := WellFounded.fix_eq _ _ _
/-- _siftup from the top: the item x that stands there -/
noncomputable def sup {α : Type} (lt : α → α → Bool) (x : α) (H : List α) : List α :=
  sd lt x ((su lt x H 0).1.set (su lt x H 0).2 x) (su lt x H 0).2

theorem refs_get {xs : List Addr} {i : Nat} {x : Addr} (h : xs[i]? = some x) : (xs.map Value.ref)[i]? = some (Value.ref x) := by simp [h]
theorem refs_set {xs : List Addr} {i : Nat} {x : Addr} : ((xs.map Value.ref).toArray.setIfInBounds i (Value.ref x)) = ((xs.set i x).map Value.ref).toArray := by simp [List.map_set]

section
variable {prog : Program} {w : World} {A : Around} {s : Shared} {E : Value → Shared → Prop} {h₀ : Heap} {L a : Addr} {m : Str → Option Value} {o : Obj} {xs : List Addr} {vs : List Value} {news : List (Addr × Obj)}
theorem set_list {Q : Unit → Shared → Prop} {k : Nat} {t : Tok} {v : Value}
    (F : Fr h₀ L s.heap m) (N : News h₀ L s.heap ((a, o) :: news)) (hl : isL o vs) (hna : ∀ p ∈ news, p.1 ≠ a) (hk : k < vs.length) (hsz : vs.length < 100)
    (hQ : ∀ h' o', isL o' (vs.set k v) → Fr h₀ L h' m → News h₀ L h' ((a, o') :: news) → Q () { s with heap := h' }) :
    wpAny (model prog w) A (setItem (.ref a) (.int k t) v) Q E s := by
  obtain ⟨n, rfl⟩ := hl
  have z := N _ (.head _)
  refine ki_setAt z.1 (by omega) (by omega) (by simpa using hk) (hQ _ _ ⟨_, rfl⟩ (F.change (Heap.SameBut.update ..) z.2.1 z.2.2) (ki_turn (pre := []) _ N (fun _ h => nomatch h) hna ?_ rfl))
  simp
theorem set_ref {Q : Unit → Shared → Prop} {k : Nat} {t : Tok} {y : Addr}
    (F : Fr h₀ L s.heap m) (N : News h₀ L s.heap ((a, o) :: news)) (hl : isL o (xs.map .ref)) (hna : ∀ p ∈ news, p.1 ≠ a) (hk : k < xs.length) (hsz : xs.length < 100)
    (hQ : ∀ h' o', isL o' ((xs.set k y).map .ref) → Fr h₀ L h' m → News h₀ L h' ((a, o') :: news) → Q () { s with heap := h' }) :
    wpAny (model prog w) A (setItem (.ref a) (.int k t) (.ref y)) Q E s :=
  set_list F N hl hna (by simpa using hk) (by simpa using hsz) fun h' o' l' => hQ h' o' (by rw [List.map_set]; exact l')
theorem item_ref {Q : Value → Shared → Prop} {value slice : PySem.Expr} {c : Int} {i : Nat} {u : Tok} {y : Addr} (N : News h₀ L s.heap ((a, o) :: news)) (hl : isL o (xs.map .ref)) (hc : c = (i : Int)) (hy : xs[i]? = some y) (hsz : xs.length < 100) (h : Q (.ref y) s)
    (hs : subscripted slice false (.ref a) (.int c u) = operate [.ref a, .int c u] (getItem (.ref a) (.int c u)) := by with_unfolding_all rfl) :
    wpAny (model prog w) A (subscriptTail value slice (.ref a) (.int c u)) Q E s := by
  subst hc
  have hi : i < xs.length := by
    rcases Nat.lt_or_ge i xs.length with h | h
    · exact h
    · rw [List.getElem?_eq_none h] at hy; cases hy
  exact item_litK (hl.list N) (by omega) (by omega) (refs_get (by rw [Int.toNat_natCast]; exact hy)) h hs
theorem get_some {α : Type} {H : List α} {i : Nat} (d : α) (h : i < H.length) : H[i]? = some (H.getD i d) := by
  rw [List.getD_eq_getElem?_getD, List.getElem?_eq_getElem h]; rfl
theorem mem_set {α : Type} {S : α → Prop} {H : List α} {i : Nat} {y : α} (h : ∀ z ∈ H, S z) (hy : S y) : ∀ z ∈ H.set i y, S z := fun z hz => (List.mem_or_eq_of_mem_set hz).elim (h z) fun e => e ▸ hy
theorem app_list {Q : Value → Shared → Prop} {v : Value}
    (F : Fr h₀ L s.heap m) (N : News h₀ L s.heap ((a, o) :: news)) (hl : isL o vs) (hna : ∀ p ∈ news, p.1 ≠ a) (hsz : vs.length < 100)
    (hQ : ∀ h' o', isL o' (vs ++ [v]) → Fr h₀ L h' m → News h₀ L h' ((a, o') :: news) → Q .none { s with heap := h' }) :
    wpAny (model prog w) A (call (.builtin "list.append") [.ref a, v]) Q E s := by
  obtain ⟨n, rfl⟩ := hl
  refine append_K F N (.head hna) (fun h' F' N' => hQ h' _ ⟨n + 1, ?_⟩ F' N') (by rw [List.size_toArray, sizeLine_eq]; omega)
  simp
theorem pop_list {Q : Value → Shared → Prop} {v : Value}
    (F : Fr h₀ L s.heap m) (N : News h₀ L s.heap ((a, o) :: news)) (hl : isL o (vs ++ [v])) (hna : ∀ p ∈ news, p.1 ≠ a) (hsz : vs.length < 100)
    (hQ : ∀ h' o', isL o' vs → Fr h₀ L h' m → News h₀ L h' ((a, o') :: news) → Q v { s with heap := h' }) :
    wpAny (model prog w) A (call (.builtin "list.pop") [.ref a]) Q E s := by
  obtain ⟨n, rfl⟩ := hl
  have hk : ∀ l : List Value, kl_last (l ++ [v]) = some (l, v) := by
    intro l
    induction l with
    | nil => rfl
    | cons x r ih => simp [kl_last, ih]
  exact kl_pop F N (hk vs) (.head hna) (by show (vs ++ [v]).length ≤ sizeLine; rw [List.length_append, sizeLine_eq]; simp; omega) (fun h' F' N' => hQ h' _ ⟨n + 1, rfl⟩ F' N')
end

section
variable {prog : Program} {w : World} {A A₀ : Around} {s : Shared} {K : Frag} {L : Addr} {h₀ base : Heap} {m mg mb : Str → Option Value} {news : List (Addr × Obj)} {p : Program} {loose : List Str} {mean : ExcName → Option Value}
/-- a call of a def that does not raise -/
theorem enter {env : Env} {outer : List Env} {R : Result → Shared → Prop} {name qual : Str} {params : Arguments} {body : List Stmt} {scope : Scope} {dV kV doc pm cdv ct oc : Value} {an od : Option Addr} {osl : Array (Option Value)} {f : Addr} {args : Args} {binds : List (Str × Value)}
    (B : Below A₀ base outer h₀) (F : Fr h₀ L s.heap m) (X₀ : K.In h₀) (N : News h₀ L s.heap news) (T : Top p loose mean mg mb h₀) (hA : A.frames = some (env :: outer)) (hf : env.frame = some L) (hke : env.scope.kind = .function)
    (ho : K.lookup f = some ⟨oc, od, .func (fnOf name qual params body scope dV kV doc pm an cdv ct), osl⟩) (hcd : codeIn K cdv qual = true) (hroom : A.depth < recursionLimit)
    (hbind : BindsTo s (fnOf name qual params body scope dV kV doc pm an cdv ct) args binds) (hloc : ∀ y ∈ binds, scope.names.lookup y.1 = some .local)
    (h : ∀ g L' h₁ tk, Fr g L' h₁ (fun y => binds.reverse.lookup y) → News g L' h₁ news → Below A base (env :: outer) g → K.In g → Top p loose mean mg mb g →
      wpAny (model prog w) (A.deeper (envOf qual scope L' f cdv)) (execs body (envOf qual scope L' f cdv))
        (fun fl s' => LeaveK h₀ L m g R (match fl with | .ret v => v | _ => .none) s') (fun _ _ => False) { s with heap := h₁, toks := tk })
    (hco : scope.isCoroutine = false) (hgen : scope.isGenerator = false) (hk : scope.kind = .function)
    (hcell : ∀ x ∈ scope.names, x.2 ≠ .cell) : codeAny (model prog w) A (.call (.ref f) args) R s :=
  code_def B F X₀ N T hA hf hke ho hcd hroom hbind hloc (fun g L' h₁ _ F' N' B' X' T' => wpAny_mono (h g L' h₁ _ F' N' B' X' T') (fun _ _ x => x) fun _ _ x => x.elim) hco hgen hk hcell
end
theorem map1 {m : Str → Option Value} {n1 : Str} {v1 : Value} (h1 : m n1 = some v1) : m = fun y => if y = n1 then some v1 else m y := by
  funext y
  by_cases e1 : y = n1
  · rw [if_pos e1, e1]; exact h1
  rw [if_neg e1]
theorem map2 {m : Str → Option Value} {n1 n2 : Str} {v1 v2 : Value} (h1 : m n1 = some v1) (h2 : m n2 = some v2) : m = fun y => if y = n1 then some v1 else if y = n2 then some v2 else m y := by
  funext y
  by_cases e1 : y = n1
  · rw [if_pos e1, e1]; exact h1
  rw [if_neg e1]
  by_cases e2 : y = n2
  · rw [if_pos e2, e2]; exact h2
  rw [if_neg e2]
theorem map3 {m : Str → Option Value} {n1 n2 n3 : Str} {v1 v2 v3 : Value} (h1 : m n1 = some v1) (h2 : m n2 = some v2) (h3 : m n3 = some v3) : m = fun y => if y = n1 then some v1 else if y = n2 then some v2 else if y = n3 then some v3 else m y := by
  funext y
  by_cases e1 : y = n1
  · rw [if_pos e1, e1]; exact h1
  rw [if_neg e1]
  by_cases e2 : y = n2
  · rw [if_pos e2, e2]; exact h2
  rw [if_neg e2]
  by_cases e3 : y = n3
  · rw [if_pos e3, e3]; exact h3
  rw [if_neg e3]
theorem map4 {m : Str → Option Value} {n1 n2 n3 n4 : Str} {v1 v2 v3 v4 : Value} (h1 : m n1 = some v1) (h2 : m n2 = some v2) (h3 : m n3 = some v3) (h4 : m n4 = some v4) : m = fun y => if y = n1 then some v1 else if y = n2 then some v2 else if y = n3 then some v3 else if y = n4 then some v4 else m y := by
  funext y
  by_cases e1 : y = n1
  · rw [if_pos e1, e1]; exact h1
  rw [if_neg e1]
  by_cases e2 : y = n2
  · rw [if_pos e2, e2]; exact h2
  rw [if_neg e2]
  by_cases e3 : y = n3
  · rw [if_pos e3, e3]; exact h3
  rw [if_neg e3]
  by_cases e4 : y = n4
  · rw [if_pos e4, e4]; exact h4
  rw [if_neg e4]
theorem map5 {m : Str → Option Value} {n1 n2 n3 n4 n5 : Str} {v1 v2 v3 v4 v5 : Value} (h1 : m n1 = some v1) (h2 : m n2 = some v2) (h3 : m n3 = some v3) (h4 : m n4 = some v4) (h5 : m n5 = some v5) : m = fun y => if y = n1 then some v1 else if y = n2 then some v2 else if y = n3 then some v3 else if y = n4 then some v4 else if y = n5 then some v5 else m y := by
  funext y
  by_cases e1 : y = n1
  · rw [if_pos e1, e1]; exact h1
  rw [if_neg e1]
  by_cases e2 : y = n2
  · rw [if_pos e2, e2]; exact h2
  rw [if_neg e2]
  by_cases e3 : y = n3
  · rw [if_pos e3, e3]; exact h3
  rw [if_neg e3]
  by_cases e4 : y = n4
  · rw [if_pos e4, e4]; exact h4
  rw [if_neg e4]
  by_cases e5 : y = n5
  · rw [if_pos e5, e5]; exact h5
  rw [if_neg e5]
theorem map6 {m : Str → Option Value} {n1 n2 n3 n4 n5 n6 : Str} {v1 v2 v3 v4 v5 v6 : Value} (h1 : m n1 = some v1) (h2 : m n2 = some v2) (h3 : m n3 = some v3) (h4 : m n4 = some v4) (h5 : m n5 = some v5) (h6 : m n6 = some v6) : m = fun y => if y = n1 then some v1 else if y = n2 then some v2 else if y = n3 then some v3 else if y = n4 then some v4 else if y = n5 then some v5 else if y = n6 then some v6 else m y := by
  funext y
  by_cases e1 : y = n1
  · rw [if_pos e1, e1]; exact h1
  rw [if_neg e1]
  by_cases e2 : y = n2
  · rw [if_pos e2, e2]; exact h2
  rw [if_neg e2]
  by_cases e3 : y = n3
  · rw [if_pos e3, e3]; exact h3
  rw [if_neg e3]
  by_cases e4 : y = n4
  · rw [if_pos e4, e4]; exact h4
  rw [if_neg e4]
  by_cases e5 : y = n5
  · rw [if_pos e5, e5]; exact h5
  rw [if_neg e5]
  by_cases e6 : y = n6
  · rw [if_pos e6, e6]; exact h6
  rw [if_neg e6]
theorem map7 {m : Str → Option Value} {n1 n2 n3 n4 n5 n6 n7 : Str} {v1 v2 v3 v4 v5 v6 v7 : Value} (h1 : m n1 = some v1) (h2 : m n2 = some v2) (h3 : m n3 = some v3) (h4 : m n4 = some v4) (h5 : m n5 = some v5) (h6 : m n6 = some v6) (h7 : m n7 = some v7) : m = fun y => if y = n1 then some v1 else if y = n2 then some v2 else if y = n3 then some v3 else if y = n4 then some v4 else if y = n5 then some v5 else if y = n6 then some v6 else if y = n7 then some v7 else m y := by
  funext y
  by_cases e1 : y = n1
  · rw [if_pos e1, e1]; exact h1
  rw [if_neg e1]
  by_cases e2 : y = n2
  · rw [if_pos e2, e2]; exact h2
  rw [if_neg e2]
  by_cases e3 : y = n3
  · rw [if_pos e3, e3]; exact h3
  rw [if_neg e3]
  by_cases e4 : y = n4
  · rw [if_pos e4, e4]; exact h4
  rw [if_neg e4]
  by_cases e5 : y = n5
  · rw [if_pos e5, e5]; exact h5
  rw [if_neg e5]
  by_cases e6 : y = n6
  · rw [if_pos e6, e6]; exact h6
  rw [if_neg e6]
  by_cases e7 : y = n7
  · rw [if_pos e7, e7]; exact h7
  rw [if_neg e7]

end Mine

end

section
open PySem PySem.W PyProof.Rows
namespace Mine
section
/-! part M2 -/
theorem fillx2 : PySem.Challenge.rw_ny0133_01 = PySem.Challenge.rw_ny0133_01 ∧ hd.heap_39 = hd.heap_39 := by k_fill; w_top off; exact ⟨rfl, rfl⟩
set_option maxRecDepth 100000 in
set_option maxHeartbeats 8000000 in
theorem siftdown {w : World} {mean : ExcName → Option Value} {mg mb : Str → Option Value} {A₀ A : Around} {base h₀ : Heap} {outer : List Env} {env : Env} {L : Addr} {m : Str → Option Value} {s : Shared}
   {news tups : List (Addr × Obj)} {S : Addr → Prop} {lt : Addr → Addr → Bool} {a : Addr} {o : Obj} {xs : List Addr} {x : Addr} {t1 t2 : Tok} {pos : Nat} {R : Result → Shared → Prop}
   (B : Below A₀ base outer h₀) (F : Fr h₀ L s.heap m) (X : (hd.heap_39 w.params).In h₀) (N : News h₀ L s.heap ((a, o) :: news)) (T : Top hd.view_39 LW mean mg mb h₀)
   (hA : A.frames = some (env :: outer)) (hf : env.frame = some L) (hke : env.scope.kind = .function) (hroom : A.depth < recursionLimit) (hu : A.units + 5 < cLine)
   (C : Cmps PR w tups S lt) (hl : isL o (xs.map .ref)) (hna : ∀ p ∈ news, p.1 ≠ a) (ht : ∀ p ∈ tups, p ∈ news) (hS : ∀ y ∈ xs, S y)
   (hx : xs[pos]? = some x) (hsz : xs.length < 100)
   (hR : ∀ h' tk o', isL o' ((sd lt x xs pos).map .ref) → Fr h₀ L h' m → News h₀ L h' ((a, o') :: news) → R (.ok (.ret .none)) { s with heap := h', toks := tk }) :
   codeAny (model PR w) A (.call (.ref 42) ⟨[.ref a, .int 0 t1, .int pos t2], []⟩) R s := by
  have hpl : pos < xs.length := by
    rcases Nat.lt_or_ge pos xs.length with h | h
    · exact h
    · rw [List.getElem?_eq_none h] at hx; cases hx
  refine' enter B F X N T hA hf hke ?k6 ?k7 hroom ?k9 ?kB ?_ ?c2 ?c3 ?c4 ?c5
  (((case k6 => k_is); (case k7 => k_is);  (case k9 => exact BindsTo.of_eq rfl); (case c5 => decide); (case kB => exact locs rfl); (case c2 => exact rfl); (case c3 => exact rfl); (case c4 => exact rfl); k_whole))
  intro g' L' h' tk F' N' B' X' T'; (try dsimp only)
  (repeat' (first | (k_unfold; (try dsimp only)) | (((fail_if_success (with_reducible first | show wpAny _ _ (exec (Stmt.While _ _ _ _) _) _ _ _ | show wpAny _ _ (call (Value.ref _) _ _) _ _ _ | show wpAny _ _ (exec (Stmt.For _ _ _ _ _) _) _ _ _ | show wpAny _ _ (call (Value.builtin "list.append") _ _) _ _ _ | show wpAny _ _ (eval (Expr.ListComp _ _ _ _) _) _ _ _))); first | walk1 | (dsimp only; walk1))))
  refine item_litK (hl.list N') (by omega) (by omega) (refs_get hx) ?_ (by with_unfolding_all rfl)
  (repeat' (first | (k_unfold; (try dsimp only)) | (((fail_if_success (with_reducible first | show wpAny _ _ (exec (Stmt.While _ _ _ _) _) _ _ _ | show wpAny _ _ (call (Value.ref _) _ _) _ _ _ | show wpAny _ _ (exec (Stmt.For _ _ _ _ _) _) _ _ _ | show wpAny _ _ (call (Value.builtin "list.append") _ _) _ _ _ | show wpAny _ _ (eval (Expr.ListComp _ _ _ _) _) _ _ _))); first | walk1 | (dsimp only; walk1))))
  rename_i h₁ F₁ N₁
  refine While_inv2 (fun n m₁ news₁ => ∃ (H : List Addr) (o' : Obj) (t : Tok), news₁ = (a, o') :: news ∧ isL o' (H.map .ref) ∧ n < H.length ∧ H.length = xs.length ∧ (∀ y ∈ H, S y) ∧ sd lt x H n = sd lt x xs pos ∧
    m₁ (Str.ofString "heap") = some (.ref a) ∧ m₁ (Str.ofString "pos") = some (.int n t) ∧ m₁ (Str.ofString "startpos") = some (.int 0 t1) ∧ m₁ (Str.ofString "newitem") = some (.ref x)) F₁ N₁ ⟨xs, o, t2, rfl, hl, hpl, rfl, hS, rfl, rfl, rfl, rfl, rfl⟩ ?_
  rintro n m₁ news₁ h₂ tk₂ F₂ N₂ ⟨H, o', t, rfl, hl', hn, hlen, hS', hsd, e1, e2, e3, e4⟩
  have em := map4 e1 e2 e3 e4
  rw [em] at F₂
  (repeat' (first | (k_unfold; (try dsimp only)) | (((fail_if_success (with_reducible first | show wpAny _ _ (exec (Stmt.While _ _ _ _) _) _ _ _ | show wpAny _ _ (call (Value.ref _) _ _) _ _ _ | show wpAny _ _ (exec (Stmt.For _ _ _ _ _) _) _ _ _ | show wpAny _ _ (call (Value.builtin "list.append") _ _) _ _ _ | show wpAny _ _ (eval (Expr.ListComp _ _ _ _) _) _ _ _))); first | walk1 | (dsimp only; walk1))))
  · rename_i hpos h₃ F₃ N₃
    have hn0 : 0 < n := by omega
    have ep : ((n : Int) - 1).fdiv (2 ^ (Int.toNat 1)) = (((n - 1) / 2 : Nat) : Int) := by
      have : ((n : Int) - 1) = ((n - 1 : Nat) : Int) := by omega
      rw [this, Int.fdiv_eq_ediv_of_nonneg _ (by decide)]
      show ((n - 1 : Nat) : Int) / 2 = _
      omega
    obtain ⟨p, hp⟩ : ∃ p, H[(n - 1) / 2]? = some p := ⟨H[(n - 1) / 2]'(by omega), List.getElem?_eq_getElem (by omega)⟩
    have hpS : S p := hS' _ (List.mem_of_getElem? hp)
    have hxS : S x := hS _ (List.mem_of_getElem? hx)
    rw [ep] at F₃ ⊢
    refine item_litK (hl'.list N₃) (by omega) (by omega) (refs_get (by rw [Int.toNat_natCast]; exact hp)) ?_ (by with_unfolding_all rfl)
    (repeat' (first | (k_unfold; (try dsimp only)) | (((fail_if_success (with_reducible first | show wpAny _ _ (exec (Stmt.While _ _ _ _) _) _ _ _ | show wpAny _ _ (call (Value.ref _) _ _) _ _ _ | show wpAny _ _ (exec (Stmt.For _ _ _ _ _) _) _ _ _ | show wpAny _ _ (call (Value.builtin "list.append") _ _) _ _ _ | show wpAny _ _ (eval (Expr.ListComp _ _ _ _) _) _ _ _))); first | walk1 | (dsimp only; walk1))))
    rename_i h₄ F₄ N₄
    refine C _ x p _ _ _ hxS hpS (fun q hq => (N₄ q (.tail _ (ht q hq))).1) (by show A.units + 3 < cLine; omega) ?_
    rw [sd_eq, if_neg (by omega), hp] at hsd
    simp only at hsd
    cases hlt : lt x p
    · rw [hlt] at hsd
      (repeat' (first | (k_unfold; (try dsimp only)) | (((fail_if_success (with_reducible first | show wpAny _ _ (exec (Stmt.While _ _ _ _) _) _ _ _ | show wpAny _ _ (call (Value.ref _) _ _) _ _ _ | show wpAny _ _ (exec (Stmt.For _ _ _ _ _) _) _ _ _ | show wpAny _ _ (call (Value.builtin "list.append") _ _) _ _ _ | show wpAny _ _ (eval (Expr.ListComp _ _ _ _) _) _ _ _))); first | walk1 | (dsimp only; walk1))))
      dsimp only [WhileStep2]
      (repeat' (first | (k_unfold; (try dsimp only)) | (((fail_if_success (with_reducible first | show wpAny _ _ (exec (Stmt.While _ _ _ _) _) _ _ _ | show wpAny _ _ (call (Value.ref _) _ _) _ _ _ | show wpAny _ _ (exec (Stmt.For _ _ _ _ _) _) _ _ _ | show wpAny _ _ (call (Value.builtin "list.append") _ _) _ _ _ | show wpAny _ _ (eval (Expr.ListComp _ _ _ _) _) _ _ _))); first | walk1 | (dsimp only; walk1))))
      refine set_ref F₄ N₄ hl' hna hn (by omega) fun h₅ o₅ l₅ F₅ N₅ => ?_
      (repeat' (first | (k_unfold; (try dsimp only)) | (((fail_if_success (with_reducible first | show wpAny _ _ (exec (Stmt.While _ _ _ _) _) _ _ _ | show wpAny _ _ (call (Value.ref _) _ _) _ _ _ | show wpAny _ _ (exec (Stmt.For _ _ _ _ _) _) _ _ _ | show wpAny _ _ (call (Value.builtin "list.append") _ _) _ _ _ | show wpAny _ _ (eval (Expr.ListComp _ _ _ _) _) _ _ _))); first | walk1 | (dsimp only; walk1))))
      refine hR _ _ o₅ ?_ (by assumption) (by assumption)
      rw [← hsd]; exact l₅
    · rw [hlt] at hsd
      (repeat' (first | (k_unfold; (try dsimp only)) | (((fail_if_success (with_reducible first | show wpAny _ _ (exec (Stmt.While _ _ _ _) _) _ _ _ | show wpAny _ _ (call (Value.ref _) _ _) _ _ _ | show wpAny _ _ (exec (Stmt.For _ _ _ _ _) _) _ _ _ | show wpAny _ _ (call (Value.builtin "list.append") _ _) _ _ _ | show wpAny _ _ (eval (Expr.ListComp _ _ _ _) _) _ _ _))); first | walk1 | (dsimp only; walk1))))
      refine set_ref F₄ N₄ hl' hna hn (by omega) fun h₅ o₅ l₅ F₅ N₅ => ?_
      (repeat' (first | (k_unfold; (try dsimp only)) | (((fail_if_success (with_reducible first | show wpAny _ _ (exec (Stmt.While _ _ _ _) _) _ _ _ | show wpAny _ _ (call (Value.ref _) _ _) _ _ _ | show wpAny _ _ (exec (Stmt.For _ _ _ _ _) _) _ _ _ | show wpAny _ _ (call (Value.builtin "list.append") _ _) _ _ _ | show wpAny _ _ (eval (Expr.ListComp _ _ _ _) _) _ _ _))); first | walk1 | (dsimp only; walk1))))
      dsimp only [WhileStep2]
      refine ⟨_, _, _, _, (n - 1) / 2, rfl, by assumption, by assumption, by omega, H.set n p, o₅, _, rfl, l₅, by rw [List.length_set]; omega, by rw [List.length_set]; omega, ?_, ?_, rfl, rfl, rfl, rfl⟩
      · intro y hy
        rcases List.mem_or_eq_of_mem_set hy with h | h
        · exact hS' y h
        · exact h ▸ hpS
      · simpa using hsd
  · rename_i hpos
    obtain rfl : n = 0 := by omega
    refine set_ref F₂ N₂ hl' hna hn (by omega) fun h₅ o₅ l₅ F₅ N₅ => ?_
    (repeat' (first | (k_unfold; (try dsimp only)) | (((fail_if_success (with_reducible first | show wpAny _ _ (exec (Stmt.While _ _ _ _) _) _ _ _ | show wpAny _ _ (call (Value.ref _) _ _) _ _ _ | show wpAny _ _ (exec (Stmt.For _ _ _ _ _) _) _ _ _ | show wpAny _ _ (call (Value.builtin "list.append") _ _) _ _ _ | show wpAny _ _ (eval (Expr.ListComp _ _ _ _) _) _ _ _))); first | walk1 | (dsimp only; walk1))))
    refine hR _ _ o₅ ?_ (by assumption) (by assumption)
    rw [← hsd, sd_eq, if_pos rfl]; exact l₅

end

section
/-! part M3 -/
theorem fillx3 : PySem.Challenge.rw_ny0133_01 = PySem.Challenge.rw_ny0133_01 ∧ hd.heap_39 = hd.heap_39 := by k_fill; w_top off; exact ⟨rfl, rfl⟩
set_option maxRecDepth 100000 in
set_option maxHeartbeats 8000000 in
theorem siftup {w : World} {mean : ExcName → Option Value} {mg mb : Str → Option Value} {A₀ A : Around} {base h₀ : Heap} {outer : List Env} {env : Env} {L : Addr} {m : Str → Option Value} {s : Shared}
   {news tups : List (Addr × Obj)} {S : Addr → Prop} {lt : Addr → Addr → Bool} {a : Addr} {o : Obj} {xs : List Addr} {x : Addr} {t1 : Tok} {R : Result → Shared → Prop}
   (B : Below A₀ base outer h₀) (F : Fr h₀ L s.heap m) (X : (hd.heap_39 w.params).In h₀) (N : News h₀ L s.heap ((a, o) :: news)) (T : Top hd.view_39 LW mean mg mb h₀)
   (hA : A.frames = some (env :: outer)) (hf : env.frame = some L) (hke : env.scope.kind = .function) (hroom : A.depth + 1 < recursionLimit) (hu : A.units + 8 < cLine)
   (C : Cmps PR w tups S lt) (hl : isL o (xs.map .ref)) (hna : ∀ p ∈ news, p.1 ≠ a) (ht : ∀ p ∈ tups, p ∈ news) (hS : ∀ y ∈ xs, S y)
   (hx : xs[0]? = some x) (hsz : xs.length < 100)
   (hR : ∀ h' tk o', isL o' ((sup lt x xs).map .ref) → Fr h₀ L h' m → News h₀ L h' ((a, o') :: news) → R (.ok (.ret .none)) { s with heap := h', toks := tk }) :
   codeAny (model PR w) A (.call (.ref 49) ⟨[.ref a, .int 0 t1], []⟩) R s := by
  have hpl : 0 < xs.length := by
    rcases Nat.lt_or_ge 0 xs.length with h | h
    · exact h
    · rw [List.getElem?_eq_none h] at hx; cases hx
  refine' enter B F X N T hA hf hke ?k6 ?k7 (by omega) ?k9 ?kB ?_ ?c2 ?c3 ?c4 ?c5
  (((case k6 => k_is); (case k7 => k_is);  (case k9 => exact BindsTo.of_eq rfl); (case c5 => decide); (case kB => exact locs rfl); (case c2 => exact rfl); (case c3 => exact rfl); (case c4 => exact rfl); k_whole))
  intro g' L' h' tk F' N' B' X' T'; (try dsimp only)
  (repeat' (first | (k_unfold; (try dsimp only)) | (((fail_if_success (with_reducible first | show wpAny _ _ (exec (Stmt.While _ _ _ _) _) _ _ _ | show wpAny _ _ (call (Value.ref _) _ _) _ _ _ | show wpAny _ _ (exec (Stmt.For _ _ _ _ _) _) _ _ _ | show wpAny _ _ (call (Value.builtin "list.append") _ _) _ _ _ | show wpAny _ _ (eval (Expr.ListComp _ _ _ _) _) _ _ _))); first | walk1 | (dsimp only; walk1))))
  refine len_list (hl.list N') (by simp; omega) ?_
  (repeat' (first | (k_unfold; (try dsimp only)) | (((fail_if_success (with_reducible first | show wpAny _ _ (exec (Stmt.While _ _ _ _) _) _ _ _ | show wpAny _ _ (call (Value.ref _) _ _) _ _ _ | show wpAny _ _ (exec (Stmt.For _ _ _ _ _) _) _ _ _ | show wpAny _ _ (call (Value.builtin "list.append") _ _) _ _ _ | show wpAny _ _ (eval (Expr.ListComp _ _ _ _) _) _ _ _))); first | walk1 | (dsimp only; walk1))))
  rename_i F₁ N₁
  refine item_litK (hl.list N₁) (by omega) (by omega) (refs_get hx) ?_ (by with_unfolding_all rfl)
  (repeat' (first | (k_unfold; (try dsimp only)) | (((fail_if_success (with_reducible first | show wpAny _ _ (exec (Stmt.While _ _ _ _) _) _ _ _ | show wpAny _ _ (call (Value.ref _) _ _) _ _ _ | show wpAny _ _ (exec (Stmt.For _ _ _ _ _) _) _ _ _ | show wpAny _ _ (call (Value.builtin "list.append") _ _) _ _ _ | show wpAny _ _ (eval (Expr.ListComp _ _ _ _) _) _ _ _))); first | walk1 | (dsimp only; walk1))))
  rename_i h₁ F₁ N₁
  refine While_inv2 (n₀ := xs.length) (fun n m₁ news₁ => ∃ (H : List Addr) (o' : Obj) (pos : Nat) (q e c : Int) (t t' t'' : Tok), q = (pos : Int) ∧ n = xs.length - pos ∧ e = (xs.length : Int) ∧ c = 2 * (pos : Int) + 1 ∧ news₁ = (a, o') :: news ∧ isL o' (H.map .ref) ∧ pos < H.length ∧ H.length = xs.length ∧ (∀ y ∈ H, S y) ∧
    su lt x H pos = su lt x xs 0 ∧
    m₁ (Str.ofString "heap") = some (.ref a) ∧ m₁ (Str.ofString "pos") = some (.int q t) ∧ m₁ (Str.ofString "startpos") = some (.int 0 t1) ∧ m₁ (Str.ofString "newitem") = some (.ref x) ∧ m₁ (Str.ofString "endpos") = some (.int e t') ∧ m₁ (Str.ofString "childpos") = some (.int c t''))
    F₁ N₁ ⟨xs, o, 0, _, _, _, t1, _, _, rfl, rfl, by simp, rfl, rfl, hl, hpl, rfl, hS, rfl, rfl, rfl, rfl, rfl, rfl, rfl⟩ ?_
  rintro n m₁ news₁ h₂ tk₂ F₂ N₂ ⟨H, o', pos, q, e, c, t, t', t'', hq', hn', he, hc, rfl, hl', hn, hlen, hS', hsu, e1, e2, e3, e4, e5, e6⟩
  have em := map6 e1 e2 e3 e4 e5 e6
  have c1 : c = ((2 * pos + 1 : Nat) : Int) := by omega
  have c2 : c + 1 = ((2 * pos + 1 + 1 : Nat) : Int) := by omega
  have hHl : H.length < 100 := hlen ▸ hsz
  have hset : ∀ y, (H.set pos y).length = xs.length := fun y => List.length_set.trans hlen
  rw [em] at F₂
  (repeat' (first | (k_unfold; (try dsimp only)) | (((fail_if_success (with_reducible first | show wpAny _ _ (exec (Stmt.While _ _ _ _) _) _ _ _ | show wpAny _ _ (call (Value.ref _) _ _) _ _ _ | show wpAny _ _ (exec (Stmt.For _ _ _ _ _) _) _ _ _ | show wpAny _ _ (call (Value.builtin "list.append") _ _) _ _ _ | show wpAny _ _ (eval (Expr.ListComp _ _ _ _) _) _ _ _))); first | walk1 | (dsimp only; walk1))))
  · rename_i h1 h₃ F₃ N₃ h2
    have k2 : 2 * pos + 1 + 1 < H.length := by omega
    have k1 : 2 * pos + 1 < H.length := Nat.lt_of_succ_lt k2
    have z2 : xs.length - (2 * pos + 1 + 1) < n := by omega
    have z1 : xs.length - (2 * pos + 1) < n := by omega
    have g1 := get_some x (H := H) (i := 2 * pos + 1) k1
    have g2 := get_some x (H := H) (i := 2 * pos + 1 + 1) k2
    have s1 : S (H.getD (2 * pos + 1) x) := hS' _ (List.mem_of_getElem? g1)
    have s2 : S (H.getD (2 * pos + 1 + 1) x) := hS' _ (List.mem_of_getElem? g2)
    rw [su_eq, if_pos k1] at hsu
    refine item_ref N₃ hl' (i := 2 * pos + 1) c1 g1 hHl ?_
    (repeat' (first | (k_unfold; (try dsimp only)) | (((fail_if_success (with_reducible first | show wpAny _ _ (exec (Stmt.While _ _ _ _) _) _ _ _ | show wpAny _ _ (call (Value.ref _) _ _) _ _ _ | show wpAny _ _ (exec (Stmt.For _ _ _ _ _) _) _ _ _ | show wpAny _ _ (call (Value.builtin "list.append") _ _) _ _ _ | show wpAny _ _ (eval (Expr.ListComp _ _ _ _) _) _ _ _))); first | walk1 | (dsimp only; walk1))))
    refine item_ref N₃ hl' (i := 2 * pos + 1 + 1) c2 g2 hHl ?_
    (repeat' (first | (k_unfold; (try dsimp only)) | (((fail_if_success (with_reducible first | show wpAny _ _ (exec (Stmt.While _ _ _ _) _) _ _ _ | show wpAny _ _ (call (Value.ref _) _ _) _ _ _ | show wpAny _ _ (exec (Stmt.For _ _ _ _ _) _) _ _ _ | show wpAny _ _ (call (Value.builtin "list.append") _ _) _ _ _ | show wpAny _ _ (eval (Expr.ListComp _ _ _ _) _) _ _ _))); first | walk1 | (dsimp only; walk1))))
    refine C _ _ _ _ _ _ s1 s2 (fun q hq => (N₃ q (.tail _ (ht q hq))).1) (by show A.units + 3 < cLine; omega) ?_
    cases hlt : lt (H.getD (2 * pos + 1) x) (H.getD (2 * pos + 1 + 1) x)
    · rw [if_pos ⟨k2, hlt⟩] at hsu
      (repeat' (first | (k_unfold; (try dsimp only)) | (((fail_if_success (with_reducible first | show wpAny _ _ (exec (Stmt.While _ _ _ _) _) _ _ _ | show wpAny _ _ (call (Value.ref _) _ _) _ _ _ | show wpAny _ _ (exec (Stmt.For _ _ _ _ _) _) _ _ _ | show wpAny _ _ (call (Value.builtin "list.append") _ _) _ _ _ | show wpAny _ _ (eval (Expr.ListComp _ _ _ _) _) _ _ _))); first | walk1 | (dsimp only; walk1))))
      rename_i h₄ F₄ N₄
      refine item_ref N₄ hl' (i := 2 * pos + 1 + 1) c2 g2 hHl ?_
      (repeat' (first | (k_unfold; (try dsimp only)) | (((fail_if_success (with_reducible first | show wpAny _ _ (exec (Stmt.While _ _ _ _) _) _ _ _ | show wpAny _ _ (call (Value.ref _) _ _) _ _ _ | show wpAny _ _ (exec (Stmt.For _ _ _ _ _) _) _ _ _ | show wpAny _ _ (call (Value.builtin "list.append") _ _) _ _ _ | show wpAny _ _ (eval (Expr.ListComp _ _ _ _) _) _ _ _))); first | walk1 | (dsimp only; walk1))))
      subst hq'; refine set_ref F₄ N₄ hl' hna hn hHl fun h₅ o₅ l₅ F₅ N₅ => ?_
      (repeat' (first | (k_unfold; (try dsimp only)) | (((fail_if_success (with_reducible first | show wpAny _ _ (exec (Stmt.While _ _ _ _) _) _ _ _ | show wpAny _ _ (call (Value.ref _) _ _) _ _ _ | show wpAny _ _ (exec (Stmt.For _ _ _ _ _) _) _ _ _ | show wpAny _ _ (call (Value.builtin "list.append") _ _) _ _ _ | show wpAny _ _ (eval (Expr.ListComp _ _ _ _) _) _ _ _))); first | walk1 | (dsimp only; walk1))))
      dsimp only [WhileStep2]
      refine ⟨_, _, _, _, xs.length - (2 * pos + 1 + 1), rfl, by assumption, by assumption, z2, H.set pos (H.getD (2 * pos + 1 + 1) x), o₅, 2 * pos + 1 + 1, _, e, _, _, t', _, c2, rfl, he, congrArg (fun z => 2 * z + 1) c2, rfl, l₅, hset _ ▸ hlen ▸ k2, hset _, mem_set hS' s2, hsu, rfl, rfl, rfl, rfl, rfl, rfl⟩
    · rw [if_neg (by rw [hlt]; simp)] at hsu
      (repeat' (first | (k_unfold; (try dsimp only)) | (((fail_if_success (with_reducible first | show wpAny _ _ (exec (Stmt.While _ _ _ _) _) _ _ _ | show wpAny _ _ (call (Value.ref _) _ _) _ _ _ | show wpAny _ _ (exec (Stmt.For _ _ _ _ _) _) _ _ _ | show wpAny _ _ (call (Value.builtin "list.append") _ _) _ _ _ | show wpAny _ _ (eval (Expr.ListComp _ _ _ _) _) _ _ _))); first | walk1 | (dsimp only; walk1))))
      have F₄ := F₃
      have N₄ := N₃
      refine item_ref N₄ hl' (i := 2 * pos + 1) c1 g1 hHl ?_
      (repeat' (first | (k_unfold; (try dsimp only)) | (((fail_if_success (with_reducible first | show wpAny _ _ (exec (Stmt.While _ _ _ _) _) _ _ _ | show wpAny _ _ (call (Value.ref _) _ _) _ _ _ | show wpAny _ _ (exec (Stmt.For _ _ _ _ _) _) _ _ _ | show wpAny _ _ (call (Value.builtin "list.append") _ _) _ _ _ | show wpAny _ _ (eval (Expr.ListComp _ _ _ _) _) _ _ _))); first | walk1 | (dsimp only; walk1))))
      subst hq'; refine set_ref F₄ N₄ hl' hna hn hHl fun h₅ o₅ l₅ F₅ N₅ => ?_
      (repeat' (first | (k_unfold; (try dsimp only)) | (((fail_if_success (with_reducible first | show wpAny _ _ (exec (Stmt.While _ _ _ _) _) _ _ _ | show wpAny _ _ (call (Value.ref _) _ _) _ _ _ | show wpAny _ _ (exec (Stmt.For _ _ _ _ _) _) _ _ _ | show wpAny _ _ (call (Value.builtin "list.append") _ _) _ _ _ | show wpAny _ _ (eval (Expr.ListComp _ _ _ _) _) _ _ _))); first | walk1 | (dsimp only; walk1))))
      dsimp only [WhileStep2]
      refine ⟨_, _, _, _, xs.length - (2 * pos + 1), rfl, by assumption, by assumption, z1, H.set pos (H.getD (2 * pos + 1) x), o₅, 2 * pos + 1, _, e, _, _, t', _, c1, rfl, he, congrArg (fun z => 2 * z + 1) c1, rfl, l₅, hset _ ▸ hlen ▸ k1, hset _, mem_set hS' s1, hsu, rfl, rfl, rfl, rfl, rfl, rfl⟩
  · rename_i h1 h₃ F₃ N₃ h2
    have k1 : 2 * pos + 1 < H.length := by omega
    have z1 : xs.length - (2 * pos + 1) < n := by omega
    have g1 := get_some x (H := H) (i := 2 * pos + 1) k1
    have s1 : S (H.getD (2 * pos + 1) x) := hS' _ (List.mem_of_getElem? g1)
    rw [su_eq, if_pos k1, if_neg (by omega)] at hsu
    · have F₄ := F₃
      have N₄ := N₃
      refine item_ref N₄ hl' (i := 2 * pos + 1) c1 g1 hHl ?_
      (repeat' (first | (k_unfold; (try dsimp only)) | (((fail_if_success (with_reducible first | show wpAny _ _ (exec (Stmt.While _ _ _ _) _) _ _ _ | show wpAny _ _ (call (Value.ref _) _ _) _ _ _ | show wpAny _ _ (exec (Stmt.For _ _ _ _ _) _) _ _ _ | show wpAny _ _ (call (Value.builtin "list.append") _ _) _ _ _ | show wpAny _ _ (eval (Expr.ListComp _ _ _ _) _) _ _ _))); first | walk1 | (dsimp only; walk1))))
      subst hq'; refine set_ref F₄ N₄ hl' hna hn hHl fun h₅ o₅ l₅ F₅ N₅ => ?_
      (repeat' (first | (k_unfold; (try dsimp only)) | (((fail_if_success (with_reducible first | show wpAny _ _ (exec (Stmt.While _ _ _ _) _) _ _ _ | show wpAny _ _ (call (Value.ref _) _ _) _ _ _ | show wpAny _ _ (exec (Stmt.For _ _ _ _ _) _) _ _ _ | show wpAny _ _ (call (Value.builtin "list.append") _ _) _ _ _ | show wpAny _ _ (eval (Expr.ListComp _ _ _ _) _) _ _ _))); first | walk1 | (dsimp only; walk1))))
      dsimp only [WhileStep2]
      refine ⟨_, _, _, _, xs.length - (2 * pos + 1), rfl, by assumption, by assumption, z1, H.set pos (H.getD (2 * pos + 1) x), o₅, 2 * pos + 1, _, e, _, _, t', _, c1, rfl, he, congrArg (fun z => 2 * z + 1) c1, rfl, l₅, hset _ ▸ hlen ▸ k1, hset _, mem_set hS' s1, hsu, rfl, rfl, rfl, rfl, rfl, rfl⟩
  · rename_i h1
    rw [su_eq, if_neg (by omega)] at hsu
    subst hq'; refine set_ref F₂ N₂ hl' hna hn hHl fun h₅ o₅ l₅ F₅ N₅ => ?_
    (repeat' (first | (k_unfold; (try dsimp only)) | (((fail_if_success (with_reducible first | show wpAny _ _ (exec (Stmt.While _ _ _ _) _) _ _ _ | show wpAny _ _ (call (Value.ref _) _ _) _ _ _ | show wpAny _ _ (exec (Stmt.For _ _ _ _ _) _) _ _ _ | show wpAny _ _ (call (Value.builtin "list.append") _ _) _ _ _ | show wpAny _ _ (eval (Expr.ListComp _ _ _ _) _) _ _ _))); first | walk1 | (dsimp only; walk1))))
    have hxS : S x := hS _ (List.mem_of_getElem? hx)
    refine wpAny_call (siftdown (tups := tups) (S := S) (lt := lt) (x := x) (xs := H.set pos x) (pos := pos) B' F₅ X' N₅ T' (Around.frames_deeper B'.stack) rfl rfl hroom (by show A.units + 3 + 5 < cLine; omega) C l₅ hna ht (mem_set hS' hxS) (by simp [hn]) (by simp; omega) fun h₆ tk₆ o₆ l₆ F₆ N₆ => ?_)
    (repeat' (first | (k_unfold; (try dsimp only)) | (((fail_if_success (with_reducible first | show wpAny _ _ (exec (Stmt.While _ _ _ _) _) _ _ _ | show wpAny _ _ (call (Value.ref _) _ _) _ _ _ | show wpAny _ _ (exec (Stmt.For _ _ _ _ _) _) _ _ _ | show wpAny _ _ (call (Value.builtin "list.append") _ _) _ _ _ | show wpAny _ _ (eval (Expr.ListComp _ _ _ _) _) _ _ _))); first | walk1 | (dsimp only; walk1))))
    refine hR _ _ o₆ ?_ (by assumption) (by assumption)
    unfold sup
    rw [← hsu]; exact l₆

end

section
/-! part M4 -/
theorem fillx4 : PySem.Challenge.rw_ny0133_01 = PySem.Challenge.rw_ny0133_01 ∧ hd.heap_39 = hd.heap_39 := by k_fill; w_top off; exact ⟨rfl, rfl⟩
set_option maxRecDepth 100000 in
set_option maxHeartbeats 8000000 in
theorem push {w : World} {mean : ExcName → Option Value} {mg mb : Str → Option Value} {A₀ A : Around} {base h₀ : Heap} {outer : List Env} {env : Env} {L : Addr} {m : Str → Option Value} {s : Shared}
   {news tups : List (Addr × Obj)} {S : Addr → Prop} {lt : Addr → Addr → Bool} {a : Addr} {o : Obj} {xs : List Addr} {x : Addr}  {R : Result → Shared → Prop}
   (B : Below A₀ base outer h₀) (F : Fr h₀ L s.heap m) (X : (hd.heap_39 w.params).In h₀) (N : News h₀ L s.heap ((a, o) :: news)) (T : Top hd.view_39 LW mean mg mb h₀)
   (hA : A.frames = some (env :: outer)) (hf : env.frame = some L) (hke : env.scope.kind = .function) (hroom : A.depth + 1 < recursionLimit) (hu : A.units + 8 < cLine)
   (C : Cmps PR w tups S lt) (hl : isL o (xs.map .ref)) (hna : ∀ p ∈ news, p.1 ≠ a) (ht : ∀ p ∈ tups, p ∈ news) (hS : ∀ y ∈ xs, S y)
   (hx : S x) (hsz : xs.length < 90)
   (hR : ∀ h' tk o', isL o' ((sd lt x (xs ++ [x]) xs.length).map .ref) → Fr h₀ L h' m → News h₀ L h' ((a, o') :: news) → R (.ok (.ret .none)) { s with heap := h', toks := tk }) :
   codeAny (model PR w) A (.call (.ref 28) ⟨[.ref a, .ref x], []⟩) R s := by
  obtain ⟨n, rfl⟩ := hl
  refine' enter B F X N T hA hf hke ?k6 ?k7 (by omega) ?k9 ?kB ?_ ?c2 ?c3 ?c4 ?c5
  (((case k6 => k_is); (case k7 => k_is);  (case k9 => exact BindsTo.of_eq rfl); (case c5 => decide); (case kB => exact locs rfl); (case c2 => exact rfl); (case c3 => exact rfl); (case c4 => exact rfl); k_whole))
  intro g' L' h' tk F' N' B' X' T'; (try dsimp only)
  (repeat' (first | (k_unfold; (try dsimp only)) | (((fail_if_success (with_reducible first | show wpAny _ _ (exec (Stmt.While _ _ _ _) _) _ _ _ | show wpAny _ _ (call (Value.ref _) _ _) _ _ _ | show wpAny _ _ (exec (Stmt.For _ _ _ _ _) _) _ _ _ | show wpAny _ _ (call (Value.builtin "list.append") _ _) _ _ _ | show wpAny _ _ (eval (Expr.ListComp _ _ _ _) _) _ _ _))); first | walk1 | (dsimp only; walk1))))
  refine app_list F' N' ⟨n, rfl⟩ hna (by simp; omega) fun h₂ o₂ l₂ F₂ N₂ => ?_
  rw [show xs.map Value.ref ++ [Value.ref x] = (xs ++ [x]).map Value.ref by simp] at l₂
  (repeat' (first | (k_unfold; (try dsimp only)) | (((fail_if_success (with_reducible first | show wpAny _ _ (exec (Stmt.While _ _ _ _) _) _ _ _ | show wpAny _ _ (call (Value.ref _) _ _) _ _ _ | show wpAny _ _ (exec (Stmt.For _ _ _ _ _) _) _ _ _ | show wpAny _ _ (call (Value.builtin "list.append") _ _) _ _ _ | show wpAny _ _ (eval (Expr.ListComp _ _ _ _) _) _ _ _))); first | walk1 | (dsimp only; walk1))))
  refine len_list (l₂.list N₂) (by simp; omega) ?_
  (repeat' (first | (k_unfold; (try dsimp only)) | (((fail_if_success (with_reducible first | show wpAny _ _ (exec (Stmt.While _ _ _ _) _) _ _ _ | show wpAny _ _ (call (Value.ref _) _ _) _ _ _ | show wpAny _ _ (exec (Stmt.For _ _ _ _ _) _) _ _ _ | show wpAny _ _ (call (Value.builtin "list.append") _ _) _ _ _ | show wpAny _ _ (eval (Expr.ListComp _ _ _ _) _) _ _ _))); first | walk1 | (dsimp only; walk1))))
  rw [show ((List.toArray ((xs ++ [x]).map Value.ref)).size : Int) - 1 = ((xs.length : Nat) : Int) by simp]
  refine wpAny_call (siftdown (tups := tups) (S := S) (lt := lt) (x := x) (xs := xs ++ [x]) (pos := xs.length) B' F₂ X' N₂ T' (Around.frames_deeper B'.stack) rfl rfl hroom (by show A.units + 3 + 5 < cLine; omega) C l₂ hna ht (by
      intro y hy
      rcases List.mem_append.mp hy with h | h
      · exact hS y h
      · rw [List.mem_singleton.mp h]; exact hx) (by simp) (by simp; omega) fun h₆ tk₆ o₆ l₆ F₆ N₆ => ?_)
  (repeat' (first | (k_unfold; (try dsimp only)) | (((fail_if_success (with_reducible first | show wpAny _ _ (exec (Stmt.While _ _ _ _) _) _ _ _ | show wpAny _ _ (call (Value.ref _) _ _) _ _ _ | show wpAny _ _ (exec (Stmt.For _ _ _ _ _) _) _ _ _ | show wpAny _ _ (call (Value.builtin "list.append") _ _) _ _ _ | show wpAny _ _ (eval (Expr.ListComp _ _ _ _) _) _ _ _))); first | walk1 | (dsimp only; walk1))))
  exact hR _ _ o₆ l₆ (by assumption) (by assumption)

/-- what heappop leaves, and what it gives -/
noncomputable def popL {α : Type} (lt : α → α → Bool) (ys : List α) (z : α) : List α := if ys = [] then [] else sup lt z (ys.set 0 z)
noncomputable def popV {α : Type} (ys : List α) (z : α) : α := match ys with | [] => z | y :: _ => y
set_option maxRecDepth 100000 in
set_option maxHeartbeats 8000000 in
theorem pop {w : World} {mean : ExcName → Option Value} {mg mb : Str → Option Value} {A₀ A : Around} {base h₀ : Heap} {outer : List Env} {env : Env} {L : Addr} {m : Str → Option Value} {s : Shared}
   {news tups : List (Addr × Obj)} {S : Addr → Prop} {lt : Addr → Addr → Bool} {a : Addr} {o : Obj} {ys : List Addr} {z : Addr}  {R : Result → Shared → Prop}
   (B : Below A₀ base outer h₀) (F : Fr h₀ L s.heap m) (X : (hd.heap_39 w.params).In h₀) (N : News h₀ L s.heap ((a, o) :: news)) (T : Top hd.view_39 LW mean mg mb h₀)
   (hA : A.frames = some (env :: outer)) (hf : env.frame = some L) (hke : env.scope.kind = .function) (hroom : A.depth + 2 < recursionLimit) (hu : A.units + 11 < cLine)
   (C : Cmps PR w tups S lt) (hl : isL o ((ys ++ [z]).map .ref)) (hna : ∀ p ∈ news, p.1 ≠ a) (ht : ∀ p ∈ tups, p ∈ news) (hS : ∀ y ∈ ys ++ [z], S y)
   (hsz : ys.length < 90)
   (hR : ∀ h' tk o', isL o' ((popL lt ys z).map .ref) → Fr h₀ L h' m → News h₀ L h' ((a, o') :: news) → R (.ok (.ret (.ref (popV ys z)))) { s with heap := h', toks := tk }) :
   codeAny (model PR w) A (.call (.ref 35) ⟨[.ref a], []⟩) R s := by
  obtain ⟨n, rfl⟩ := hl
  refine' enter B F X N T hA hf hke ?k6 ?k7 (by omega) ?k9 ?kB ?_ ?c2 ?c3 ?c4 ?c5
  (((case k6 => k_is); (case k7 => k_is);  (case k9 => exact BindsTo.of_eq rfl); (case c5 => decide); (case kB => exact locs rfl); (case c2 => exact rfl); (case c3 => exact rfl); (case c4 => exact rfl); k_whole))
  intro g' L' h' tk F' N' B' X' T'; (try dsimp only)
  (repeat' (first | (k_unfold; (try dsimp only)) | (((fail_if_success (with_reducible first | show wpAny _ _ (exec (Stmt.While _ _ _ _) _) _ _ _ | show wpAny _ _ (call (Value.ref _) _ _) _ _ _ | show wpAny _ _ (exec (Stmt.For _ _ _ _ _) _) _ _ _ | show wpAny _ _ (call (Value.builtin "list.append") _ _) _ _ _ | show wpAny _ _ (eval (Expr.ListComp _ _ _ _) _) _ _ _))); first | walk1 | (dsimp only; walk1))))
  refine pop_list (vs := ys.map Value.ref) (v := .ref z) F' N' ⟨n, by simp⟩ hna (by simp; omega) fun h₂ o₂ l₂ F₂ N₂ => ?_
  rcases ys with _ | ⟨y, ys⟩
  · obtain ⟨n₂, rfl⟩ := l₂
    (repeat' (first | (k_unfold; (try dsimp only)) | (((fail_if_success (with_reducible first | show wpAny _ _ (exec (Stmt.While _ _ _ _) _) _ _ _ | show wpAny _ _ (call (Value.ref _) _ _) _ _ _ | show wpAny _ _ (exec (Stmt.For _ _ _ _ _) _) _ _ _ | show wpAny _ _ (call (Value.builtin "list.append") _ _) _ _ _ | show wpAny _ _ (eval (Expr.ListComp _ _ _ _) _) _ _ _))); first | walk1 | (dsimp only; walk1))))
    exact hR _ _ _ ⟨n₂, rfl⟩ (by assumption) (by assumption)
  · obtain ⟨n₂, rfl⟩ := l₂
    (repeat' (first | (k_unfold; (try dsimp only)) | (((fail_if_success (with_reducible first | show wpAny _ _ (exec (Stmt.While _ _ _ _) _) _ _ _ | show wpAny _ _ (call (Value.ref _) _ _) _ _ _ | show wpAny _ _ (exec (Stmt.For _ _ _ _ _) _) _ _ _ | show wpAny _ _ (call (Value.builtin "list.append") _ _) _ _ _ | show wpAny _ _ (eval (Expr.ListComp _ _ _ _) _) _ _ _))); first | walk1 | (dsimp only; walk1))))
    · exfalso; simp_all
    rename_i F₄ N₄
    refine set_ref (k := 0) (o := W.listOf ((y :: ys).map Value.ref).toArray n₂) F₄ N₄ ⟨n₂, rfl⟩ hna (by simp) (by simp at hsz ⊢; omega) fun h₅ o₅ l₅ F₅ N₅ => ?_
    (repeat' (first | (k_unfold; (try dsimp only)) | (((fail_if_success (with_reducible first | show wpAny _ _ (exec (Stmt.While _ _ _ _) _) _ _ _ | show wpAny _ _ (call (Value.ref _) _ _) _ _ _ | show wpAny _ _ (exec (Stmt.For _ _ _ _ _) _) _ _ _ | show wpAny _ _ (call (Value.builtin "list.append") _ _) _ _ _ | show wpAny _ _ (eval (Expr.ListComp _ _ _ _) _) _ _ _))); first | walk1 | (dsimp only; walk1))))
    refine wpAny_call (siftup (tups := tups) (S := S) (lt := lt) (x := z) (xs := (y :: ys).set 0 z) B' F₅ X' N₅ T' (Around.frames_deeper B'.stack) rfl rfl (by show A.depth + 1 + 1 < recursionLimit; omega) (by show A.units + 3 + 8 < cLine; omega) C l₅ hna ht
       (mem_set (fun q hq => hS q (List.mem_append_left _ hq)) (hS z (by simp))) rfl (by simp at hsz ⊢; omega) fun h₆ tk₆ o₆ l₆ F₆ N₆ => ?_)
    (repeat' (first | (k_unfold; (try dsimp only)) | (((fail_if_success (with_reducible first | show wpAny _ _ (exec (Stmt.While _ _ _ _) _) _ _ _ | show wpAny _ _ (call (Value.ref _) _ _) _ _ _ | show wpAny _ _ (exec (Stmt.For _ _ _ _ _) _) _ _ _ | show wpAny _ _ (call (Value.builtin "list.append") _ _) _ _ _ | show wpAny _ _ (eval (Expr.ListComp _ _ _ _) _) _ _ _))); first | walk1 | (dsimp only; walk1))))
    exact hR _ _ _ (by simpa [popL] using l₆) (by assumption) (by assumption)

end

section
/-! part P1 -/
section
variable {α β : Type}
theorem sd_length (lt : α → α → Bool) (x : α) (H : List α) (pos : Nat) : (sd lt x H pos).length = H.length := by
  induction pos using Nat.strongRecOn generalizing H with
  | ind pos ih =>
    rw [sd_eq]
    split
    · simp
    · split
      · split
        · rw [ih _ (by omega)]; simp
        · simp
      · rfl
theorem sd_mem (lt : α → α → Bool) (x : α) (H : List α) (pos : Nat) : ∀ y ∈ sd lt x H pos, y = x ∨ y ∈ H := by
  induction pos using Nat.strongRecOn generalizing H with
  | ind pos ih =>
    intro y hy
    rw [sd_eq] at hy
    split at hy
    · exact (List.mem_or_eq_of_mem_set hy).symm
    · split at hy
      · rename_i p hp
        split at hy
        · rcases ih _ (by omega) _ y hy with h | h
          · exact .inl h
          · rcases List.mem_or_eq_of_mem_set h with h | h
            · exact .inr h
            · exact .inr (h ▸ List.mem_of_getElem? hp)
        · exact (List.mem_or_eq_of_mem_set hy).symm
      · exact .inr hy
theorem sd_map (f : α → β) (lt : β → β → Bool) (lti : α → α → Bool) (x : α) (H : List α) (pos : Nat) (S : α → Prop) (hx : S x) (hS : ∀ y ∈ H, S y) (hl : ∀ i j, S i → S j → lt (f i) (f j) = lti i j) :
    sd lt (f x) (H.map f) pos = (sd lti x H pos).map f := by
  induction pos using Nat.strongRecOn generalizing H with
  | ind pos ih =>
    conv => lhs; rw [sd_eq]
    rw [sd_eq lti x H pos]
    split
    · rw [List.map_set]
    · rw [List.getElem?_map]
      cases hp : H[(pos - 1) / 2]? with
      | none => rfl
      | some p =>
        have hpS : S p := hS _ (List.mem_of_getElem? hp)
        simp only [Option.map_some]
        rw [hl x p hx hpS]
        split
        · rw [← List.map_set, ih _ (by omega) (H.set pos p) (mem_set hS hpS)]
        · rw [List.map_set]
theorem su_map (f : α → β) (lt : β → β → Bool) (lti : α → α → Bool) (d : α) (H : List α) (pos : Nat) (S : α → Prop) (hd : S d) (hS : ∀ y ∈ H, S y) (hl : ∀ i j, S i → S j → lt (f i) (f j) = lti i j) :
    su lt (f d) (H.map f) pos = ((su lti d H pos).1.map f, (su lti d H pos).2) := by
  have hg : ∀ (H : List α) i, (H.map f).getD i (f d) = f (H.getD i d) := fun H i => by
    rw [List.getD_eq_getElem?_getD, List.getD_eq_getElem?_getD, List.getElem?_map]
    cases H[i]? <;> rfl
  have hm : ∀ (H : List α), (∀ y ∈ H, S y) → ∀ i, S (H.getD i d) := fun H hS i => by
    rw [List.getD_eq_getElem?_getD]
    cases h : H[i]? with
    | none => exact hd
    | some y => exact hS y (List.mem_of_getElem? h)
  induction hn : H.length - pos using Nat.strongRecOn generalizing H pos with
  | ind n ih =>
    conv => lhs; rw [su_eq]
    rw [su_eq lti d H pos, hg, hg, hl _ _ (hm H hS _) (hm H hS _), List.length_map]
    split
    · split
      · rw [← List.map_set, ih _ (by rw [List.length_set]; omega) _ _ (mem_set hS (hm H hS _)) rfl]
      · rw [← List.map_set, ih _ (by rw [List.length_set]; omega) _ _ (mem_set hS (hm H hS _)) rfl]
    · rfl
theorem su_length (lt : α → α → Bool) (d : α) (H : List α) (pos : Nat) : (su lt d H pos).1.length = H.length := by
  induction hn : H.length - pos using Nat.strongRecOn generalizing H pos with
  | ind n ih =>
    rw [su_eq]
    split
    · split
      · rw [ih _ (by rw [List.length_set]; omega) _ _ rfl, List.length_set]
      · rw [ih _ (by rw [List.length_set]; omega) _ _ rfl, List.length_set]
    · rfl
theorem su_mem (lt : α → α → Bool) (d : α) (H : List α) (pos : Nat) (S : α → Prop) (hd : S d) (hS : ∀ y ∈ H, S y) : ∀ y ∈ (su lt d H pos).1, S y := by
  have hm : ∀ (H : List α), (∀ y ∈ H, S y) → ∀ i, S (H.getD i d) := fun H hS i => by
    rw [List.getD_eq_getElem?_getD]
    cases h : H[i]? with
    | none => exact hd
    | some y => exact hS y (List.mem_of_getElem? h)
  induction hn : H.length - pos using Nat.strongRecOn generalizing H pos with
  | ind n ih =>
    rw [su_eq]
    split
    · split
      · exact ih _ (by rw [List.length_set]; omega) _ _ (mem_set hS (hm H hS _)) rfl
      · exact ih _ (by rw [List.length_set]; omega) _ _ (mem_set hS (hm H hS _)) rfl
    · exact hS
theorem sup_map (f : α → β) (lt : β → β → Bool) (lti : α → α → Bool) (x : α) (H : List α) (S : α → Prop) (hx : S x) (hS : ∀ y ∈ H, S y) (hl : ∀ i j, S i → S j → lt (f i) (f j) = lti i j) :
    sup lt (f x) (H.map f) = (sup lti x H).map f := by
  unfold sup
  rw [su_map f lt lti x H 0 S hx hS hl]
  simp only
  rw [← List.map_set, sd_map f lt lti x _ _ S hx (mem_set (su_mem lti x H 0 S hx hS) hx) hl]
theorem sup_length (lt : α → α → Bool) (x : α) (H : List α) : (sup lt x H).length = H.length := by
  unfold sup
  rw [sd_length, List.length_set, su_length]
theorem sup_mem (lt : α → α → Bool) (x : α) (H : List α) (S : α → Prop) (hx : S x) (hS : ∀ y ∈ H, S y) : ∀ y ∈ sup lt x H, S y := by
  intro y hy
  rcases sd_mem _ _ _ _ y hy with h | h
  · exact h ▸ hx
  · exact mem_set (su_mem lt x H 0 S hx hS) hx y h
theorem popL_map (f : α → β) (lt : β → β → Bool) (lti : α → α → Bool) (ys : List α) (z : α) (S : α → Prop) (hz : S z) (hS : ∀ y ∈ ys, S y) (hl : ∀ i j, S i → S j → lt (f i) (f j) = lti i j) :
    popL lt (ys.map f) (f z) = (popL lti ys z).map f := by
  unfold popL
  cases ys with
  | nil => rfl
  | cons y ys =>
    rw [if_neg (by simp), if_neg (by simp), ← List.map_set]
    exact sup_map f lt lti z _ S hz (mem_set hS hz) hl
theorem popV_map (f : α → β) (ys : List α) (z : α) : popV (ys.map f) (f z) = f (popV ys z) := by cases ys <;> rfl
theorem popL_length (lt : α → α → Bool) (ys : List α) (z : α) : (popL lt ys z).length = ys.length := by
  unfold popL
  split
  · rename_i h; rw [h]
  · rw [sup_length, List.length_set]
theorem popL_mem (lt : α → α → Bool) (ys : List α) (z : α) (S : α → Prop) (hz : S z) (hS : ∀ y ∈ ys, S y) : ∀ y ∈ popL lt ys z, S y := by
  unfold popL
  split
  · simp
  · exact sup_mem lt z _ S hz (mem_set hS hz)
/-- what n pushes leave -/
noncomputable def pushes (lt : Nat → Nat → Bool) : Nat → List Nat
  | 0 => []
  | i + 1 => sd lt i (pushes lt i ++ [i]) (pushes lt i).length
theorem pushes_length (lt : Nat → Nat → Bool) : ∀ n, (pushes lt n).length = n
  | 0 => rfl
  | n + 1 => by rw [pushes, sd_length, List.length_append, pushes_length lt n]; rfl
theorem pushes_mem (lt : Nat → Nat → Bool) : ∀ n, ∀ y ∈ pushes lt n, y < n
  | 0, y, h => nomatch h
  | n + 1, y, h => by
    rcases sd_mem _ _ _ _ y h with h | h
    · omega
    · rcases List.mem_append.mp h with h | h
      · have := pushes_mem lt n y h; omega
      · have := List.mem_singleton.mp h; omega
/-- what k pops give -/
noncomputable def pops {α : Type} (lt : α → α → Bool) : Nat → List α → List α
  | 0, _ => []
  | k + 1, H => match H.getLast? with
    | none => []
    | some z => popV H.dropLast z :: pops lt k (popL lt H.dropLast z)
end

end

section
/-! part R1 -/
section
variable {prog : Program} {w : World} {A : Around} {E : Value → Shared → Prop} {s : Shared}

/-- what is asked of two keys: == and < -/
structure KeyOK (prog : Program) (w : World) (ks : List Value) (keq klt : Nat → Nat → Bool) : Prop where
  eq : ∀ (A : Around) (i j : Nat) (v u : Value) (s : Shared) (Q : Bool → Shared → Prop) (E : Value → Shared → Prop), ks[i]? = some v → ks[j]? = some u → Q (keq i j) s → wpAny (model prog w) A (eqBool v u) Q E s
  lt : ∀ (A : Around) (i j : Nat) (v u : Value) (s : Shared) (Q : Value → Shared → Prop) (E : Value → Shared → Prop), ks[i]? = some v → ks[j]? = some u → Q (.bool (klt i j)) s → wpAny (model prog w) A (compareOp .Lt v u) Q E s

noncomputable abbrev tupO (vs : List Value) (n : Nat) : Obj := { cls := .type "tuple", data := .seq vs.toArray n }

theorem tup_lt2 {x y : Addr} {k1 k2 : Value} {i j : Int} {ti tj : Tok} {n1 n2 : Nat} {b c : Bool} {Q : Value → Shared → Prop} (hx : s.heap.get? x = some (tupO [k1, .int i ti] n1)) (hy : s.heap.get? y = some (tupO [k2, .int j tj] n2))
    (hu : A.units < cLine)
    (he : ∀ (A : Around) (Q : Bool → Shared → Prop) (E : Value → Shared → Prop), Q b s → wpAny (model prog w) A (eqBool k1 k2) Q E s)
    (hl : ∀ (A : Around) (Q : Value → Shared → Prop) (E : Value → Shared → Prop), Q (.bool c) s → wpAny (model prog w) A (compareOp .Lt k1 k2) Q E s)
    (h : Q (.bool (if b = true then decide (i < j) else c)) s) :
    wpAny (model prog w) A (compareOp .Lt (.ref x) (.ref y)) Q E s := by
  refine cmp_ofLt (wpAny_richCompare_same_room (T := "tuple") ⟨_, hx, rfl⟩ ⟨_, hy, rfl⟩ PySem.F.slot_tuple_lt (wpAny_call_entry PySem.F.slot_tuple_lt ⟨_, hx, rfl⟩ PySem.F.entry_tuple_lt ?_ (PySem.F.args_tuple_lt_2 _ _)) hu)
  show wpAny _ _ (isInstance (.ref y) (.type "tuple") >>= _) _ _ s
  refine wpAny_bind (wpAny_isInstance ⟨_, hy, rfl⟩ isSubtype_tuple_tuple ?_)
  simp only [Bool.not_true, Bool.false_eq_true, if_false]
  refine wpAny_bind (wpAny_tupleItemsOf hx rfl ?_)
  refine wpAny_bind (wpAny_tupleItemsOf hy rfl ?_)
  refine wpAny_bind ?_
  simp only [List.zip_cons_cons, List.zip_nil_right, List.forIn_cons, List.forIn_nil]
  refine wpAny_bind (wpAny_bind (he _ _ _ ?_))
  cases b with
  | false =>
    simp only [Bool.not_false, if_true]
    refine wpAny_bind (wpAny_rule (wpAny_bind (hl _ _ _ ?_)))
    refine wpAny_bind (wpAny_pure (wpAny_pure ?_))
    refine wpAny_pure (wpAny_pure ⟨_, rfl, (fun e => nomatch e), ?_⟩)
    simpa using h
  | true =>
    simp only [Bool.not_true, Bool.false_eq_true, if_false]
    refine wpAny_pure (wpAny_bind (wpAny_bind (wpAny_eqBool_int ?_)))
    cases hij : (i == j) with
    | false =>
      simp only [Bool.not_false, if_true]
      refine wpAny_bind (wpAny_rule (wpAny_bind (lt_int ?_)))
      refine wpAny_bind (wpAny_pure (wpAny_pure ?_))
      refine wpAny_pure (wpAny_pure ⟨_, rfl, (fun e => nomatch e), ?_⟩)
      simpa using h
    | true =>
      simp only [Bool.not_true, Bool.false_eq_true, if_false]
      refine wpAny_pure (wpAny_pure (wpAny_pure ⟨_, rfl, (fun e => nomatch e), ?_⟩))
      have e : i = j := by simpa using hij
      subst e
      show Q (.bool false) s
      simpa using h

/-- a call of a def with cells that does not raise -/
theorem enterC {A₀ : Around} {K : Frag} {L : Addr} {h₀ base : Heap} {m mg mb : Str → Option Value} {news : List (Addr × Obj)} {p : Program} {loose : List Str} {mean : ExcName → Option Value}
    {env : Env} {outer : List Env} {R : Result → Shared → Prop} {name qual : Str} {params : Arguments} {body : List Stmt} {scope : Scope} {dV kV doc pm cdv ct oc : Value} {an od : Option Addr} {osl : Array (Option Value)} {f : Addr} {args : Args} {binds : List (Str × Value)}
    (B : Below A₀ base outer h₀) (F : Fr h₀ L s.heap m) (X₀ : K.In h₀) (N : News h₀ L s.heap news) (T : Top p loose mean mg mb h₀) (hA : A.frames = some (env :: outer)) (hf : env.frame = some L) (hke : env.scope.kind = .function)
    (ho : K.lookup f = some ⟨oc, od, .func (fnOf name qual params body scope dV kV doc pm an cdv ct), osl⟩) (hcd : codeIn K cdv qual = true) (hroom : A.depth < recursionLimit)
    (hbind : BindsTo s (fnOf name qual params body scope dV kV doc pm an cdv ct) args binds) (hkind : (binds.all fun y => scope.names.lookup y.1 == some .local || scope.names.lookup y.1 == some .cell) = true)
    (hnd : ((cellsFrom 0 scope.names []).map (·.1)).Nodup)
    (h : ∀ g L' h₁ tk cells, Fr g L' h₁ (bindL (envOfC qual scope L' f cdv).kindOf binds fun _ => none) → News g L' h₁ (cells ++ news) →
      CellsAre (bindC (envOfC qual scope L' f cdv).kindOf binds fun _ => none) (cellsFrom (L' + 1) scope.names []) cells → Below A base (env :: outer) g → K.In g → Top p loose mean mg mb g → (∀ p ∈ news, p.1 < L') →
      wpAny (model prog w) (A.deeper (envOfC qual scope L' f cdv)) (execs body (envOfC qual scope L' f cdv))
        (fun fl s' => LeaveK h₀ L m g R (match fl with | .ret v => v | _ => .none) s') (fun _ _ => False) { s with heap := h₁, toks := tk })
    (hco : scope.isCoroutine = false) (hgen : scope.isGenerator = false) (hk : scope.kind = .function) : codeAny (model prog w) A (.call (.ref f) args) R s :=
  code_defC B F X₀ N T hA hf hke ho hcd hroom hbind hkind hnd (fun g L' h₁ tk cells _ F' N' Y' B' X' T' l => wpAny_mono (h g L' h₁ tk cells F' N' Y' B' X' T' l) (fun _ _ x => x) fun _ _ x => x.elim) hco hgen hk
end

end

section
/-! part R2 -/
section
variable {prog : Program} {w : World} {A : Around} {E : Value → Shared → Prop} {s : Shared} {h₀ : Heap} {env : Env} {target : Expr} {body : List Stmt} {Q : Flow → Shared → Prop}

theorem unrPost_mono {L : Addr} {s₁ : Shared} {its : List (Addr × Obj)} {r r' : (Str → Option Value) → List (Addr × Obj) → Prop} {f : Flow} {s₂ : Shared} (hr : ∀ m n, r m n → r' m n) (h : UnrPostW h₀ L s₁ its r Q f s₂) : UnrPostW h₀ L s₁ its r' Q f s₂ := by
  cases f with
  | ret v => exact h
  | brk => exact h
  | next => obtain ⟨h', tk, m', n', e, F, N, o, x⟩ := h; exact ⟨h', tk, m', n', e, F, N, o, hr _ _ x⟩
  | cont => obtain ⟨h', tk, m', n', e, F, N, o, x⟩ := h; exact ⟨h', tk, m', n', e, F, N, o, hr _ _ x⟩

theorem allObj_mono {ws : List (Addr × String)} {k k' : List (Addr × Obj) → Prop} (hk : ∀ its, k its → k' its) (h : AllObj ws k) : AllObj ws k' := by
  induction ws generalizing k k' with
  | nil => exact hk _ h
  | cons w r ih => intro o ho; exact ih (fun its x => hk _ x) (h o ho)

/-- a for over enumerate(list), by an invariant -/
theorem items_enum {ws : List (Addr × String)} {keep : List (Addr × Obj)} {vs : List Value} {m : Str → Option Value} {news : List (Addr × Obj)} (Inv : Nat → (Str → Option Value) → List (Addr × Obj) → Prop) (h0 : Inv 0 m news)
    (step : ∀ i v m' news', vs[i]? = some v → Inv i m' news' → ∀ T t h tk, IsTup h T #[.int (i : Int) t, v] → Fr h₀ env.locals h m' → AllObj ws (fun its => News h₀ env.locals h (its ++ news') →
      wpAny (model prog w) A (assign target env (.ref T)) (fun _ s₂ => wpAny (model prog w) A (execs body env) (UnrPostW h₀ env.locals { s with heap := h, toks := tk } its (fun m'' n'' => SubL keep n'' ∧ Inv (i + 1) m'' n'') Q) E s₂) E { s with heap := h, toks := tk }))
    (fin : ∀ m' news', Inv vs.length m' news' → ∀ h tk, Fr h₀ env.locals h m' → News h₀ env.locals h news' → Q .next { s with heap := h, toks := tk }) :
    ItemsRest prog w A E h₀ env target body Q s ws keep (enumItems 0 vs) m news := by
  suffices H : ∀ (rest : List Value) (i : Nat), vs.drop i = rest → i ≤ vs.length → ∀ m' news', Inv i m' news' → ItemsRest prog w A E h₀ env target body Q s ws keep (enumItems i rest) m' news' from H vs 0 (by simp) (Nat.zero_le _) m news h0
  intro rest
  induction rest with
  | nil =>
    intro i hi hle m' news' hI
    have hl : vs.length ≤ i := List.drop_eq_nil_iff.mp hi
    refine ItemsRest.zero fun h tk F N => ?_
    obtain rfl : i = vs.length := by omega
    exact fin _ _ hI h tk F N
  | cons v r ih =>
    intro i hi hle m' news' hI
    have hv : vs[i]? = some v := by
      have := congrArg (·[0]?) hi
      simpa using this
    have hr : vs.drop (i + 1) = r := by
      rw [← List.drop_drop, hi]; rfl
    refine ItemsRest.pair fun T t h tk hT F => ?_
    refine allObj_mono (fun its k N => ?_) (step i v m' news' hv hI T t h tk hT F)
    refine wpAny_mono (k N) (fun _ s₂ h₂ => wpAny_mono h₂ (fun f s₃ h₃ => ?_) fun _ _ x => x) fun _ _ x => x
    exact unrPost_mono (fun m n x => ⟨x.1, ih (i + 1) hr (by have := (List.getElem?_eq_some_iff.mp hv).1; omega) m n x.2⟩) h₃

open LCg in
/-- a comprehension's turns, by an invariant -/
theorem comp_ind {L : Addr} {m : Str → Option Value} {elt : Expr} {x : Str} {scope : Scope} {cl : List (Str × Addr)} {S : List (Addr × Obj) → Prop} {P : Nat → Value → Prop} {Fin : List Value → List (Addr × Obj) → Prop} {n : Nat} {news : List (Addr × Obj)}
    (Inv : Nat → List Value → List (Addr × Obj) → Prop) (h0 : Inv 0 [] news)
    (step : ∀ i ys news', i < n → Inv i ys news' → ∀ v I oI C oC D m₂ h tk (E' : Value → Shared → Prop), P i v → NsObj oC m₂ → m₂ x = some v → Fr h₀ L h m → News h₀ L h ((I, oI) :: (C, oC) :: (D, lst ys) :: news') → Off3 I C D news' → ((@Ne Nat I C) ∧ (@Ne Nat I D) ∧ (@Ne Nat C D)) →
      wpAny (model prog w) A (eval elt (compEnvC scope cl C env)) (CompEnd h₀ L m { s with heap := h, toks := tk } I oI C oC D (lst ys) S (fun y news'' => Inv (i + 1) (ys ++ [y]) news'')) E' { s with heap := h, toks := tk })
    (fin : ∀ ys news', Inv n ys news' → Fin ys news') :
    CompRest prog w A h₀ L m env elt x scope cl s S P Fin n 0 [] news := by
  suffices H : ∀ (k i : Nat), i + k = n → ∀ ys news', Inv i ys news' → CompRest prog w A h₀ L m env elt x scope cl s S P Fin k i ys news' from H n 0 (by omega) [] news h0
  intro k
  induction k with
  | zero =>
    intro i hi ys news' hI
    obtain rfl : i = n := by omega
    exact CompRest.zero (fin _ _ hI)
  | succ k ih =>
    intro i hi ys news' hI
    refine CompRest.succ fun v I oI C oC D m₂ h tk E' a b c d e f g => ?_
    refine wpAny_mono (step i ys news' (by omega) hI v I oI C oC D m₂ h tk E' a b c d e f g) (fun y s₂ h₂ => ?_) fun _ _ x => x
    obtain ⟨h', tk', news'', e1, F', N', o', hS, r⟩ := h₂
    exact ⟨h', tk', news'', e1, F', N', o', hS, ih (i + 1) (by omega) _ _ r⟩
end

end

section
/-! part R3 -/
section
variable {prog : Program} {w : World} {A : Around} {E : Value → Shared → Prop} {s : Shared} {h₀ : Heap} {env : Env} {target : Expr} {body : List Stmt} {Q : Flow → Shared → Prop}

/-- what a turn of a for leaves -/
noncomputable def TurnPost (h₀ : Heap) (L : Addr) (s₁ : Shared) (wr : List Addr) (own : List (Addr × Obj)) (Inv : (Str → Option Value) → List (Addr × Obj) → Prop) (Q : Flow → Shared → Prop) (f : Flow) (s₂ : Shared) : Prop :=
  match f with
  | .ret v => Q (.ret v) s₂
  | .brk => Q .next s₂
  | _ => ∃ h' tk m' news', s₂ = { s₁ with heap := h', toks := tk } ∧ Fr h₀ L h' m' ∧ News h₀ L h' (own ++ news') ∧ (∀ p ∈ news', p.1 ∉ wr) ∧ Inv m' news'

/-- a for over a range, by an invariant -/
theorem iter_range {x : Str} {px : Pos} {r : Addr} {a b c : Int} {t u v : Tok} {n : Nat} {m : Str → Option Value} {news : List (Addr × Obj)} (F : Fr h₀ env.locals s.heap m) (N : News h₀ env.locals s.heap news)
    (hr : IsRange s.heap r a b c t u v) (hsm : Builtin.Range.small a b c = true) (hn : Builtin.Range.rangeSize a b c = (n : Int)) (hh : A.handled = none)
    (Inv : Nat → (Str → Option Value) → List (Addr × Obj) → Prop) (h0 : Inv 0 m news)
    (step : ∀ i t m₁ news₁ h tk I own, (∀ p ∈ news, p.1 < I) → i < n → Inv i m₁ news₁ → (∀ p ∈ own, p.1 = I) → (∀ p ∈ news₁, p.1 ≠ I) → Fr h₀ env.locals h m₁ → News h₀ env.locals h (own ++ news₁) →
      wpAny (model prog w) A (assign (.Name x px) env (.int (a + (i : Nat) * c) t)) (fun _ s₃ => wpAny (model prog w) A (execs body env) (TurnPost h₀ env.locals { s with heap := h, toks := tk } [I] own (Inv (i + 1)) Q) E s₃) E { s with heap := h, toks := tk })
    (fin : ∀ m' news', Inv n m' news' → ∀ h tk, Fr h₀ env.locals h m' → News h₀ env.locals h news' → Q .next { s with heap := h, toks := tk }) :
    wpAny (model prog w) A (pyIter (.ref r)) (fun it s₂ => TurnsAt prog w A h₀ env (.Name x px) body Q E it s₂) E s := by
  refine wpAny_pyIter_range hr hsm ?_
  have hIn : h₀.get? s.heap.objs.size = none := next_is_new F
  have hL : env.locals < s.heap.objs.size := F.ns.lt
  refine ⟨s.heap.objs.size, [s.heap.objs.size], [s.heap.objs.size], n, _, _, _, m, news, Inv, rfl, KTurns.ofWalks (Walks.range hh s.heap.objs.size a c n) (fun i v s Q E st q => wpAny_of_eq (a := ()) rfl q), ?_, ?_, ?_, ?_, F.push _, (fun p hp => ⟨Heap.get?_push_of_some _ (N p hp).1, (N p hp).2⟩), h0, ?_, ?_⟩
  · simp only [List.mem_singleton]; exact Nat.ne_of_lt hL
  · intro b hb; rw [List.mem_singleton.mp hb]; exact hIn
  · intro p hp; simp only [List.mem_singleton]; exact Nat.ne_of_lt (Heap.lt_size (N p hp).1)
  · show IsRangeIter _ _ _ _ _
    have e1 : a + ((0 : Nat) : Int) * c = a := by simp
    have e2 : (n : Int) - ((0 : Nat) : Int) = Builtin.Range.rangeSize a b c := by rw [hn]; simp
    rw [e1, e2]
    exact Heap.get?_push_size _ rfl
  · intro i v m₁ news₁ h₁ tk₁ own hi hv hJ hnw hof _ _ st F₁ N₁
    obtain ⟨t', rfl⟩ := hv
    refine wpAny_mono (step i t' m₁ news₁ h₁ tk₁ s.heap.objs.size own (fun p hp => Heap.lt_size (N p hp).1) hi hJ (fun p hp => List.mem_singleton.mp (hof p hp)) (fun p hp e => hnw p hp (by simp [e])) F₁ N₁) (fun _ s₃ h₃ => wpAny_mono h₃ (fun f s₄ h₄ => ?_) fun _ _ x => x) fun _ _ x => x
    cases f with
    | ret v => exact h₄
    | brk => exact h₄
    | next =>
      obtain ⟨h', tk, m', news', e, F', N', o', I'⟩ := h₄
      exact ⟨rfl, h', tk, m', news', e, F', N', o', I'⟩
    | cont =>
      obtain ⟨h', tk, m', news', e, F', N', o', I'⟩ := h₄
      exact ⟨rfl, h', tk, m', news', e, F', N', o', I'⟩
  · intro h' tk m' news' F' N' _ hJ
    exact fin m' news' hJ h' tk F' N'
end

end

section
/-! part M5 -/
theorem fillx5 : PySem.Challenge.rw_ny0133_01 = PySem.Challenge.rw_ny0133_01 ∧ hd.heap_39 = hd.heap_39 := by k_fill; w_top off; exact ⟨rfl, rfl⟩
/-- the tuples (key, place) -/
noncomputable def TP (ks : List Value) (tp : List (Addr × Obj)) : Prop := ∀ (i : Nat) (p : Addr × Obj), tp[i]? = some p → ∃ k t, ks[i]? = some k ∧ p.2 = tupO [k, .int (i : Int) t] 0
noncomputable def lti (keq klt : Nat → Nat → Bool) (i j : Nat) : Bool := if keq i j = true then decide (i < j) else klt i j
noncomputable def addrs (tp : List (Addr × Obj)) : List Addr := tp.map (·.1)
noncomputable def atA (tp : List (Addr × Obj)) (i : Nat) : Addr := (addrs tp).getD i 0
noncomputable def ltA (keq klt : Nat → Nat → Bool) (tp : List (Addr × Obj)) (x y : Addr) : Bool := lti keq klt ((addrs tp).idxOf x) ((addrs tp).idxOf y)
theorem addrs_get {tp : List (Addr × Obj)} {x : Addr} (h : x ∈ addrs tp) : ∃ o, tp[(addrs tp).idxOf x]? = some (x, o) := by
  have hi : (addrs tp).idxOf x < (addrs tp).length := List.idxOf_lt_length_of_mem h
  have hi' : (addrs tp).idxOf x < tp.length := by simpa [addrs] using hi
  have e : (addrs tp)[(addrs tp).idxOf x] = x := List.getElem_idxOf hi
  refine ⟨(tp[(addrs tp).idxOf x]).2, ?_⟩
  rw [List.getElem?_eq_getElem hi']
  have e2 : (tp[(addrs tp).idxOf x]).1 = x := by
    have : (addrs tp)[(addrs tp).idxOf x] = (tp[(addrs tp).idxOf x]).1 := List.getElem_map ..
    rw [← this]; exact e
  exact congrArg some (Prod.ext e2 rfl)
theorem cmps_tp {w : World} {ks : List Value} {keq klt : Nat → Nat → Bool} {tp : List (Addr × Obj)} (C : KeyOK PR w ks keq klt) (ht : TP ks tp) :
    Cmps PR w tp (· ∈ addrs tp) (ltA keq klt tp) := by
  intro A x y s Q E hx hy hh hu hq
  obtain ⟨ox, ex⟩ := addrs_get hx
  obtain ⟨oy, ey⟩ := addrs_get hy
  obtain ⟨k1, t1, hk1, h1⟩ := ht _ _ ex
  obtain ⟨k2, t2, hk2, h2⟩ := ht _ _ ey
  have g1 := hh _ (List.mem_of_getElem? ex)
  have g2 := hh _ (List.mem_of_getElem? ey)
  simp only at h1 h2
  rw [h1] at g1; rw [h2] at g2
  refine tup_lt2 g1 g2 hu (b := keq ((addrs tp).idxOf x) ((addrs tp).idxOf y)) (c := klt ((addrs tp).idxOf x) ((addrs tp).idxOf y)) (fun A Q E h => C.eq A _ _ _ _ s Q E hk1 hk2 h) (fun A Q E h => C.lt A _ _ _ _ s Q E hk1 hk2 h) ?_
  have : (if keq ((addrs tp).idxOf x) ((addrs tp).idxOf y) = true then decide (((addrs tp).idxOf x : Int) < ((addrs tp).idxOf y : Int)) else klt ((addrs tp).idxOf x) ((addrs tp).idxOf y)) = ltA keq klt tp x y := by
    unfold ltA lti
    simp only [Int.ofNat_lt]
  rw [this]; exact hq
theorem allLt_mem {d : Nat} : ∀ {l : List (Addr × Obj)}, AllLt d l → ∀ p ∈ l, p.1 < d
  | [], _, _, h => nomatch h
  | _ :: _, x, p, h => by
    rcases List.mem_cons.mp h with rfl | h
    · exact x.1
    · exact allLt_mem x.2 p h
theorem atA_mem {tp : List (Addr × Obj)} {j : Nat} (h : j < tp.length) : atA tp j ∈ addrs tp := by
  unfold atA
  rw [List.getD_eq_getElem?_getD, List.getElem?_eq_getElem (by simpa [addrs] using h)]
  exact List.getElem_mem _
theorem idx_at {tp : List (Addr × Obj)} {j : Nat} (hn : (addrs tp).Nodup) (h : j < tp.length) : (addrs tp).idxOf (atA tp j) = j := by
  have h' : j < (addrs tp).length := by simpa [addrs] using h
  unfold atA
  rw [List.getD_eq_getElem?_getD, List.getElem?_eq_getElem h']
  exact hn.idxOf_getElem j h'
theorem ltA_at {keq klt : Nat → Nat → Bool} {tp : List (Addr × Obj)} (hn : (addrs tp).Nodup) {i j : Nat} (hi : i < tp.length) (hj : j < tp.length) : ltA keq klt tp (atA tp i) (atA tp j) = lti keq klt i j := by
  unfold ltA; rw [idx_at hn hi, idx_at hn hj]
theorem atA_app {tp : List (Addr × Obj)} {p : Addr × Obj} {j : Nat} (h : j < tp.length) : atA (tp ++ [p]) j = atA tp j := by
  unfold atA addrs
  rw [List.map_append, List.getD_eq_getElem?_getD, List.getElem?_append_left (by simpa using h), ← List.getD_eq_getElem?_getD]
theorem atA_last {tp : List (Addr × Obj)} {p : Addr × Obj} : atA (tp ++ [p]) tp.length = p.1 := by
  unfold atA addrs
  rw [List.map_append, List.getD_eq_getElem?_getD]
  simp
/-- one push more -/
theorem push_step {keq klt : Nat → Nat → Bool} {tp : List (Addr × Obj)} {p : Addr × Obj} (hn : (addrs (tp ++ [p])).Nodup) :
    sd (ltA keq klt (tp ++ [p])) p.1 ((pushes (lti keq klt) tp.length).map (atA tp) ++ [p.1]) ((pushes (lti keq klt) tp.length).map (atA tp)).length
      = (pushes (lti keq klt) (tp.length + 1)).map (atA (tp ++ [p])) := by
  have e : (pushes (lti keq klt) tp.length).map (atA tp) = (pushes (lti keq klt) tp.length).map (atA (tp ++ [p])) :=
    List.map_congr_left fun j hj => (atA_app (pushes_mem _ _ j hj)).symm
  have e2 : (pushes (lti keq klt) tp.length).map (atA tp) ++ [p.1] = (pushes (lti keq klt) tp.length ++ [tp.length]).map (atA (tp ++ [p])) := by
    rw [List.map_append, e, List.map_singleton, atA_last]
  rw [e2, List.length_map]
  conv => lhs; arg 2; rw [← atA_last (tp := tp) (p := p)]
  rw [sd_map (atA (tp ++ [p])) (ltA keq klt (tp ++ [p])) (lti keq klt) tp.length _ _ (· < tp.length + 1) (by omega) ?_ (fun i j hi hj => ltA_at hn (by simpa using hi) (by simpa using hj))]
  · rfl
  · intro y hy
    rcases List.mem_append.mp hy with h | h
    · have := pushes_mem _ _ y h; omega
    · have := List.mem_singleton.mp h; omega
theorem off1_mem {D : Addr} : ∀ {l : List (Addr × Obj)}, LCg.Off1 D l → ∀ p ∈ l, p.1 ≠ D
  | [], _, _, h => nomatch h
  | _ :: _, x, p, h => by
    rcases List.mem_cons.mp h with rfl | h
    · exact x.1
    · exact off1_mem x.2 p h
theorem popV_mem {α : Type} {ys : List α} {z : α} {S : α → Prop} (hz : S z) (hS : ∀ y ∈ ys, S y) : S (popV ys z) := by
  cases ys with
  | nil => exact hz
  | cons y ys => exact hS y (.head _)
theorem pops_succ {α : Type} (lt : α → α → Bool) (k : Nat) (ys : List α) (z : α) : pops lt (k + 1) (ys ++ [z]) = popV ys z :: pops lt k (popL lt ys z) := by
  simp [pops]
set_option maxRecDepth 100000 in
set_option maxHeartbeats 8000000 in
theorem order {w : World} {mean : ExcName → Option Value} {mg mb : Str → Option Value} {A₀ A : Around} {base h₀ : Heap} {outer : List Env} {env : Env} {L : Addr} {m : Str → Option Value} {s : Shared}
   {news : List (Addr × Obj)} {keq klt : Nat → Nat → Bool} {a : Addr} {o : Obj} {ks : List Value}  {R : Result → Shared → Prop}
   (B : Below A₀ base outer h₀) (F : Fr h₀ L s.heap m) (X : (hd.heap_39 w.params).In h₀) (N : News h₀ L s.heap ((a, o) :: news)) (T : Top hd.view_39 LW mean mg mb h₀)
   (hA : A.frames = some (env :: outer)) (hf : env.frame = some L) (hke : env.scope.kind = .function) (hroom : A.depth + 3 < recursionLimit) (hu : A.units + 14 < cLine) (hh : A.handled = none)
   (C : KeyOK PR w ks keq klt) (hl : isL o ks) (hna : ∀ p ∈ news, p.1 ≠ a)
   (hsz : ks.length < 60)
   (hR : ∀ h' tk D o' ws, isL o' ws → IntsAre ws ((pops (lti keq klt) ks.length (pushes (lti keq klt) ks.length)).map fun (j : Nat) => (j : Int)) → Fr h₀ L h' m → News h₀ L h' ((D, o') :: (a, o) :: news) → (∀ p ∈ (a, o) :: news, p.1 ≠ D) → R (.ok (.ret (.ref D))) { s with heap := h', toks := tk }) :
   codeAny (model PR w) A (.call (.ref 101) ⟨[.ref a], []⟩) R s := by
  refine' enterC B F X N T hA hf hke ?k6 ?k7 (by omega) ?k9 ?kB ?kD ?_ ?c2 ?c3 ?c4
  (((case k6 => k_is); (case k7 => k_is); (case k9 => exact BindsTo.of_eq rfl); (case kB => exact rfl); (case kD => decide +kernel); (case c2 => exact rfl); (case c3 => exact rfl); (case c4 => exact rfl); k_whole))
  intro g' L' h' tk cells F' N' Y' B' X' T' l1
  k_cells Y'
  (try simp only [List.cons_append, List.nil_append] at N'); (try dsimp only)
  (repeat' (first | (k_unfold; (try dsimp only)) | (((fail_if_success (with_reducible first | show wpAny _ _ (exec (Stmt.While _ _ _ _) _) _ _ _ | show wpAny _ _ (call (Value.ref _) _ _) _ _ _ | show wpAny _ _ (exec (Stmt.For _ _ _ _ _) _) _ _ _ | show wpAny _ _ (call (Value.builtin "list.append") _ _) _ _ _ | show wpAny _ _ (eval (Expr.ListComp _ _ _ _) _) _ _ _))); first | walk1 | (dsimp only; walk1))))
  rename_i oc dc lh h₁ F₁ N₁ l₁
  refine' storeX_C F₁ N₁ rfl (.tail (Nat.ne_of_gt l₁.1) (.head (fun p hp => Nat.ne_of_lt (Nat.lt_succ_of_lt (l1 p hp))))) dc ?_
  intro h₂ o₂ F₂ N₂ d₂
  (repeat' (first | (k_unfold; (try dsimp only)) | (((fail_if_success (with_reducible first | show wpAny _ _ (exec (Stmt.While _ _ _ _) _) _ _ _ | show wpAny _ _ (call (Value.ref _) _ _) _ _ _ | show wpAny _ _ (exec (Stmt.For _ _ _ _ _) _) _ _ _ | show wpAny _ _ (call (Value.builtin "list.append") _ _) _ _ _ | show wpAny _ _ (eval (Expr.ListComp _ _ _ _) _) _ _ _))); first | walk1 | (dsimp only; walk1))))
  refine For_turns F₂ ?_
  (repeat' (first | (k_unfold; (try dsimp only)) | (((fail_if_success (with_reducible first | show wpAny _ _ (exec (Stmt.While _ _ _ _) _) _ _ _ | show wpAny _ _ (call (Value.ref _) _ _) _ _ _ | show wpAny _ _ (exec (Stmt.For _ _ _ _ _) _) _ _ _ | show wpAny _ _ (call (Value.builtin "list.append") _ _) _ _ _ | show wpAny _ _ (eval (Expr.ListComp _ _ _ _) _) _ _ _))); first | walk1 | (dsimp only; walk1))))
  obtain ⟨no, rfl⟩ := hl
  refine ktu_enum (n := no) (vs := ks) (by exact hh) F₂ N₂ (.tail _ (.tail _ (.head _))) rfl rfl rfl fun I hI => ?_
  refine items_enum (fun i m' news' => ∃ tp oh, news' = (lh, oh) :: (tp ++ (L' + 1, o₂) :: (a, W.listOf ks.toArray no) :: news) ∧ tp.length = i ∧ TP ks tp ∧ (addrs tp).Nodup ∧ (∀ p ∈ tp, lh < p.1 ∧ I + 1 < p.1) ∧ isL oh ((pushes (lti keq klt) i).map fun j => .ref (atA tp j)) ∧ m' (Str.ofString "keys") = some (.ref a))
    ⟨[], _, rfl, rfl, (by intro i p h; cases h), (by simp [addrs]), (by intro p h; cases h), ⟨0, rfl⟩, rfl⟩ ?_ ?_
  · rintro i v m₃ news₃ hv ⟨tp, oh, rfl, hlen, hT, hnd, hab, hoh, hmk⟩ T t h₃ tk₃ isT F₃
    refine .cons fun o1 hc1 => .cons fun o2 hc2 => .nil fun N₃ => ?_
    simp only [List.cons_append, List.nil_append] at N₃
    replace F₃ : Fr g' L' h₃ m₃ := F₃
    obtain ⟨tl, htl⟩ : ∃ tl, tl = (I + 1, o1) :: (I, o2) :: (tp ++ (a, W.listOf ks.toArray no) :: news) := ⟨_, rfl⟩
    replace N₃ : News g' L' h₃ ((L' + 1, o₂) :: (lh, oh) :: tl) := PyProof.Rows.News.perm N₃ (by subst htl; intro p hp; simp only [List.mem_cons, List.mem_append] at hp ⊢; revert hp; repeat' (first | exact (fun h => h) | refine (fun h => Or.elim h ?_ ?_) | (intro hp; repeat (first | exact hp | exact Or.inl hp | exact Or.inl (Or.inl hp) | exact Or.inl (Or.inr hp) | apply Or.inr))))
    refine unpackN_ F₃ N₃ isT (by exact hh) rfl rfl ?_
    clear F₃ N₃
    intro h₄ F₄ N₄
    (repeat' (first | (k_unfold; (try dsimp only)) | (((fail_if_success (with_reducible first | show wpAny _ _ (exec (Stmt.While _ _ _ _) _) _ _ _ | show wpAny _ _ (call (Value.ref _) _ _) _ _ _ | show wpAny _ _ (exec (Stmt.For _ _ _ _ _) _) _ _ _ | show wpAny _ _ (call (Value.builtin "list.append") _ _) _ _ _ | show wpAny _ _ (eval (Expr.ListComp _ _ _ _) _) _ _ _))); first | walk1 | (dsimp only; walk1))))
    rename_i D h₅ F₅ N₅ l₅
    have hI1 : lh < I ∧ L' + 1 < I ∧ ∀ p ∈ (a, W.listOf ks.toArray no) :: news, p.1 < I := ⟨hI _ (.head _), hI _ (.tail _ (.head _)), fun p hp => hI p (.tail _ (.tail _ hp))⟩
    have hD := allLt_mem l₅.2.2
    have hDt : ∀ p ∈ tp, p.1 < D := fun p hp => hD p (by subst htl; simp [hp])
    have hDI : I + 1 < D := hD (I + 1, o1) (by subst htl; simp)
    have hil : i < ks.length := (List.getElem?_eq_some_iff.mp hv).1
    subst hlen
    have hT' : TP ks (tp ++ [(D, tupO [v, .int (tp.length : Int) t] 0)]) := by
      intro j p hp
      rcases Nat.lt_or_ge j tp.length with h | h
      · rw [List.getElem?_append_left h] at hp; exact hT j p hp
      · have : j = tp.length := by
          have := (List.getElem?_eq_some_iff.mp hp).1
          simp at this; omega
        subst this
        simp at hp
        subst hp
        exact ⟨v, t, hv, rfl⟩
    have hnd' : (addrs (tp ++ [(D, tupO [v, .int (tp.length : Int) t] 0)])).Nodup := by
      unfold addrs at hnd ⊢
      rw [List.map_append, List.nodup_append]
      refine ⟨hnd, by simp, ?_⟩
      intro x hx y hy
      obtain ⟨p, hp, rfl⟩ := List.mem_map.mp hx
      have := hDt p hp
      simp at hy
      subst hy
      exact Nat.ne_of_lt this
    have hmD : ∀ q ∈ tp ++ [(D, tupO [v, .int (tp.length : Int) t] 0)], q ∈ (D, tupO [v, .int (tp.length : Int) t] 0) :: (L' + 1, o₂) :: tl := by
      intro q hq
      subst htl
      rcases List.mem_append.mp hq with h | h
      · simp [h]
      · rw [List.mem_singleton.mp h]; exact .head _
    replace N₅ : News g' L' h₅ ((lh, oh) :: (D, tupO [v, .int (tp.length : Int) t] 0) :: (L' + 1, o₂) :: tl) := PyProof.Rows.News.perm N₅ (by
      intro p hp
      simp only [List.mem_cons] at hp ⊢
      revert hp; repeat' (first | exact (fun h => h) | refine (fun h => Or.elim h ?_ ?_) | (intro hp; repeat (first | exact hp | exact Or.inl hp | exact Or.inl (Or.inl hp) | exact Or.inl (Or.inr hp) | apply Or.inr))))
    refine wpAny_call (push (xs := (pushes (lti keq klt) tp.length).map (atA tp)) (x := D) (tups := tp ++ [(D, tupO [v, .int (tp.length : Int) t] 0)]) (S := (· ∈ addrs (tp ++ [(D, tupO [v, .int (tp.length : Int) t] 0)]))) (lt := ltA keq klt (tp ++ [(D, tupO [v, .int (tp.length : Int) t] 0)]))
      B' F₅ X' N₅ T' (Around.frames_deeper B'.stack) rfl rfl (by show A.depth + 1 + 1 < recursionLimit; omega) (by show A.units + 3 + 8 < cLine; omega) (cmps_tp C hT') (by rw [List.map_map]; exact hoh) ?hna hmD ?hS ?hx (by rw [List.length_map, pushes_length]; omega) fun h₆ tk₆ o₆ l₆ F₆ N₆ => ?_)
    case hna =>
      intro p hp
      subst htl
      simp only [List.mem_cons, List.mem_append] at hp
      rcases hp with rfl | rfl | rfl | rfl | hp | rfl | hp
      · exact Nat.ne_of_gt l₅.2.1
      · exact Nat.ne_of_lt l₁.1
      · exact Nat.ne_of_gt (Nat.lt_succ_of_lt hI1.1)
      · exact Nat.ne_of_gt hI1.1
      · exact Nat.ne_of_gt (hab p hp).1
      · exact Nat.ne_of_lt l₁.2.1
      · exact Nat.ne_of_lt (allLt_mem l₁.2.2 p hp)
    case hS =>
      intro y hy
      obtain ⟨j, hj, rfl⟩ := List.mem_map.mp hy
      have := pushes_mem _ _ j hj
      rw [← atA_app (p := (D, tupO [v, .int (tp.length : Int) t] 0)) this]
      exact atA_mem (by simp; omega)
    case hx =>
      show D ∈ addrs _
      unfold addrs; simp
    (repeat' (first | (k_unfold; (try dsimp only)) | (((fail_if_success (with_reducible first | show wpAny _ _ (exec (Stmt.While _ _ _ _) _) _ _ _ | show wpAny _ _ (call (Value.ref _) _ _) _ _ _ | show wpAny _ _ (exec (Stmt.For _ _ _ _ _) _) _ _ _ | show wpAny _ _ (call (Value.builtin "list.append") _ _) _ _ _ | show wpAny _ _ (eval (Expr.ListComp _ _ _ _) _) _ _ _))); first | walk1 | (dsimp only; walk1))))
    refine ⟨h₆, tk₆, _, (lh, o₆) :: ((tp ++ [(D, tupO [v, .int (tp.length : Int) t] 0)]) ++ (L' + 1, o₂) :: (a, W.listOf ks.toArray no) :: news), rfl, F₆, ?_, ?_, ⟨⟨?_, trivial⟩, tp ++ [(D, tupO [v, .int (tp.length : Int) t] 0)], o₆, rfl, by simp, hT', hnd', ?_, ?_, ?_⟩⟩
    · refine PyProof.Rows.News.perm N₆ fun p hp => ?_
      subst htl
      simp only [List.mem_cons, List.mem_append, List.cons_append, List.nil_append, List.not_mem_nil, or_false] at hp ⊢
      revert hp; repeat' (first | exact (fun h => h) | refine (fun h => Or.elim h ?_ ?_) | (intro hp; repeat (first | exact hp | exact Or.inl hp | exact Or.inl (Or.inl hp) | exact Or.inl (Or.inr hp) | apply Or.inr)))
    · intro p hp q hq
      simp only [List.mem_cons, List.mem_append, List.not_mem_nil, or_false] at hp hq
      have hpI : p.1 < I ∨ I + 1 < p.1 := by
        rcases hp with rfl | (hp | rfl) | rfl | rfl | hp
        · exact .inl hI1.1
        · exact .inr (hab p hp).2
        · exact .inr hDI
        · exact .inl hI1.2.1
        · exact .inl (hI1.2.2 _ (.head _))
        · exact .inl (hI1.2.2 _ (.tail _ hp))
      rcases hq with rfl | rfl
      · rcases hpI with h | h
        · exact Nat.ne_of_lt (Nat.lt_succ_of_lt h)
        · exact Nat.ne_of_gt h
      · rcases hpI with h | h
        · exact Nat.ne_of_lt h
        · exact Nat.ne_of_gt (Nat.lt_of_succ_lt h)
    · simp
    · intro p hp
      rcases List.mem_append.mp hp with h | h
      · exact hab p h
      · rw [List.mem_singleton.mp h]; exact ⟨l₅.2.1, hDI⟩
    · rw [push_step hnd', List.map_map] at l₆
      exact l₆
    · exact hmk
  · rintro m₃ news₃ ⟨tp, oh, rfl, hlen, hT, hnd, hab, hoh, hmk⟩ h₃ tk₃ F₃ N₃
    have em : m₃ = fun y => if y = (Str.ofString "keys") then some (.ref a) else m₃ y := by
      funext y
      split <;> simp_all
    replace F₃ : Fr g' L' h₃ m₃ := F₃
    replace N₃ : News g' L' h₃ _ := N₃
    rw [em] at F₃
    (repeat' (first | (k_unfold; (try dsimp only)) | (((fail_if_success (with_reducible first | show wpAny _ _ (exec (Stmt.While _ _ _ _) _) _ _ _ | show wpAny _ _ (call (Value.ref _) _ _) _ _ _ | show wpAny _ _ (exec (Stmt.For _ _ _ _ _) _) _ _ _ | show wpAny _ _ (call (Value.builtin "list.append") _ _) _ _ _ | show wpAny _ _ (eval (Expr.ListComp _ _ _ _) _) _ _ _))); first | walk1 | (dsimp only; walk1))))
    refine LCg.ListComp_U (F₀ := F₃) (by with_unfolding_all rfl) (by decide) (by rfl) (by decide) (by rfl) ?_
    (repeat' (first | (k_unfold; (try dsimp only)) | (((fail_if_success (with_reducible first | show wpAny _ _ (exec (Stmt.While _ _ _ _) _) _ _ _ | show wpAny _ _ (call (Value.ref _) _ _) _ _ _ | show wpAny _ _ (exec (Stmt.For _ _ _ _ _) _) _ _ _ | show wpAny _ _ (call (Value.builtin "list.append") _ _) _ _ _ | show wpAny _ _ (eval (Expr.ListComp _ _ _ _) _) _ _ _))); first | walk1 | (dsimp only; walk1))))
    refine LCg.CompSrc.ledger (k := no) (its := ks.toArray) (by exact hh) F₃ N₃ (by simp [W.listOf]) (by simp [sizeLine_eq]; omega) fun g => ?_
    refine comp_ind (fun i ys news' => ∃ oh H res, news' = (lh, oh) :: (tp ++ (L' + 1, o₂) :: (a, W.listOf ks.toArray no) :: news) ∧ isL oh (H.map fun j => .ref (atA tp j)) ∧ H.length + i = ks.length ∧ (∀ j ∈ H, j < ks.length) ∧
      IntsAre ys (res.map fun (j : Nat) => (j : Int)) ∧ res ++ pops (lti keq klt) H.length H = pops (lti keq klt) ks.length (pushes (lti keq klt) ks.length))
      ⟨oh, pushes (lti keq klt) ks.length, [], rfl, hoh, by rw [pushes_length]; rfl, pushes_mem _ _, .nil, by rw [pushes_length]; rfl⟩ ?_ ?_
    · rintro i ys news₄ hi ⟨oh, H, res, rfl, hoh, hHl, hHm, hys, hres⟩ v I oI C' oC D m₄ h₄ tk₄ E' hv hoC hm4 F₄ N₄ off hne
      obtain ⟨tl, htl⟩ : ∃ tl, tl = (I, oI) :: (C', oC) :: (D, LCg.lst ys) :: (tp ++ (a, W.listOf ks.toArray no) :: news) := ⟨_, rfl⟩
      replace N₄ : News g' L' h₄ ((L' + 1, o₂) :: (lh, oh) :: tl) := PyProof.Rows.News.perm N₄ (by subst htl; intro p hp; simp only [List.mem_cons, List.mem_append] at hp ⊢; revert hp; repeat' (first | exact (fun h => h) | refine (fun h => Or.elim h ?_ ?_) | (intro hp; repeat (first | exact hp | exact Or.inl hp | exact Or.inl (Or.inl hp) | exact Or.inl (Or.inr hp) | apply Or.inr))))
      (repeat' (first | (k_unfold; (try dsimp only)) | (((fail_if_success (with_reducible first | show wpAny _ _ (exec (Stmt.While _ _ _ _) _) _ _ _ | show wpAny _ _ (call (Value.ref _) _ _) _ _ _ | show wpAny _ _ (exec (Stmt.For _ _ _ _ _) _) _ _ _ | show wpAny _ _ (call (Value.builtin "list.append") _ _) _ _ _ | show wpAny _ _ (eval (Expr.ListComp _ _ _ _) _) _ _ _))); first | walk1 | (dsimp only; walk1))))
      obtain ⟨H', z, rfl⟩ : ∃ H' z, H = H' ++ [z] := by
        rcases List.eq_nil_or_concat H with h | ⟨H', z, h⟩
        · subst h; simp at hHl hi; omega
        · exact ⟨H', z, by simpa using h⟩
      have hz : z < ks.length := hHm z (by simp)
      have hH' : ∀ j ∈ H', j < ks.length := fun j hj => hHm j (by simp [hj])
      have hzl : ∀ j, j < ks.length → j < tp.length := fun j hj => by omega
      replace N₄ : News g' L' h₄ ((lh, oh) :: (L' + 1, o₂) :: tl) := PyProof.Rows.News.perm N₄ (by intro p hp; simp only [List.mem_cons] at hp ⊢; revert hp; repeat' (first | exact (fun h => h) | refine (fun h => Or.elim h ?_ ?_) | (intro hp; repeat (first | exact hp | exact Or.inl hp | exact Or.inl (Or.inl hp) | exact Or.inl (Or.inr hp) | apply Or.inr))))
      refine wpAny_call (pop (ys := H'.map (atA tp)) (z := atA tp z) (tups := tp) (S := (· ∈ addrs tp)) (lt := ltA keq klt tp)
        B' F₄ X' N₄ T' (Around.frames_deeper B'.stack) rfl rfl (by show A.depth + 1 + 2 < recursionLimit; omega) (by show A.units + 3 + 11 < cLine; omega) (cmps_tp C hT) (by rw [← List.map_singleton, ← List.map_append, List.map_map]; exact hoh) ?hna ?ht ?hS (by simp at hHl ⊢; omega) fun h₆ tk₆ o₆ l₆ F₆ N₆ => ?_)
      case hna =>
        have offl := off.mem _ (.head _)
        intro p hp
        subst htl
        simp only [List.mem_cons, List.mem_append] at hp
        rcases hp with rfl | rfl | rfl | rfl | hp | rfl | hp
        · exact Nat.ne_of_lt l₁.1
        · exact Ne.symm offl.1
        · exact Ne.symm offl.2.1
        · exact Ne.symm offl.2.2
        · exact Nat.ne_of_gt (hab p hp).1
        · exact Nat.ne_of_lt l₁.2.1
        · exact Nat.ne_of_lt (allLt_mem l₁.2.2 p hp)
      case ht =>
        subst htl
        intro p hp
        simp [hp]
      case hS =>
        rw [← List.map_singleton, ← List.map_append]
        intro y hy
        obtain ⟨j, hj, rfl⟩ := List.mem_map.mp hy
        exact atA_mem (hzl j (hHm j hj))
      rw [popL_map (atA tp) (ltA keq klt tp) (lti keq klt) H' z (· < ks.length) hz hH' (fun i j hi hj => ltA_at hnd (hzl i hi) (hzl j hj)), List.map_map] at l₆
      rw [popV_map]
      have hpv : popV H' z < ks.length := popV_mem (S := (· < ks.length)) hz hH'
      obtain ⟨oo, ho⟩ := addrs_get (atA_mem (hzl _ hpv))
      rw [idx_at hnd (hzl _ hpv)] at ho
      obtain ⟨kk, tt, hkk, hoo⟩ := hT _ _ ho
      (repeat' (first | (k_unfold; (try dsimp only)) | (((fail_if_success (with_reducible first | show wpAny _ _ (exec (Stmt.While _ _ _ _) _) _ _ _ | show wpAny _ _ (call (Value.ref _) _ _) _ _ _ | show wpAny _ _ (exec (Stmt.For _ _ _ _ _) _) _ _ _ | show wpAny _ _ (call (Value.builtin "list.append") _ _) _ _ _ | show wpAny _ _ (eval (Expr.ListComp _ _ _ _) _) _ _ _))); first | walk1 | (dsimp only; walk1))))
      have hmt : (atA tp (popV H' z), oo) ∈ tl := by
        subst htl
        simp [List.mem_of_getElem? ho]
      simp only at hoo
      subst hoo
      refine item_tuple (items := #[kk, .int ((popV H' z : Nat) : Int) tt]) (j := 1) ⟨_, (N₆ _ (.tail _ (.tail _ hmt))).1, rfl, 0, rfl⟩ (by decide) (by decide) rfl rfl ?_
      (repeat' (first | (k_unfold; (try dsimp only)) | (((fail_if_success (with_reducible first | show wpAny _ _ (exec (Stmt.While _ _ _ _) _) _ _ _ | show wpAny _ _ (call (Value.ref _) _ _) _ _ _ | show wpAny _ _ (exec (Stmt.For _ _ _ _ _) _) _ _ _ | show wpAny _ _ (call (Value.builtin "list.append") _ _) _ _ _ | show wpAny _ _ (eval (Expr.ListComp _ _ _ _) _) _ _ _))); first | walk1 | (dsimp only; walk1))))
      refine ⟨h₆, _, (lh, o₆) :: (tp ++ (L' + 1, o₂) :: (a, W.listOf ks.toArray no) :: news), rfl, F₆, ?_, ⟨off.1, off.2⟩, .inr ⟨W.listOf ks.toArray no, (by simp), rfl, no, rfl⟩, o₆, popL (lti keq klt) H' z, res ++ [popV H' z], rfl, l₆, ?_, popL_mem _ _ _ (· < ks.length) hz hH', ?_, ?_⟩
      · refine PyProof.Rows.News.perm N₆ fun p hp => ?_
        subst htl
        simp only [List.mem_cons, List.mem_append] at hp ⊢
        revert hp; repeat' (first | exact (fun h => h) | refine (fun h => Or.elim h ?_ ?_) | (intro hp; repeat (first | exact hp | exact Or.inl hp | exact Or.inl (Or.inl hp) | exact Or.inl (Or.inr hp) | apply Or.inr)))
      · rw [popL_length]; simp at hHl; omega
      · rw [List.map_append]; exact ksk_snoc hys
      · rw [← hres, List.length_append, List.length_singleton, pops_succ, popL_length]; simp
    · rintro ys news₄ ⟨oh, H, res, rfl, hoh, hHl, hHm, hys, hres⟩ D h₄ tk₄ F₄ N₄ off
      obtain rfl : H = [] := List.eq_nil_of_length_eq_zero (by rw [List.size_toArray] at hHl; omega)
      (repeat' (first | (k_unfold; (try dsimp only)) | (((fail_if_success (with_reducible first | show wpAny _ _ (exec (Stmt.While _ _ _ _) _) _ _ _ | show wpAny _ _ (call (Value.ref _) _ _) _ _ _ | show wpAny _ _ (exec (Stmt.For _ _ _ _ _) _) _ _ _ | show wpAny _ _ (call (Value.builtin "list.append") _ _) _ _ _ | show wpAny _ _ (eval (Expr.ListComp _ _ _ _) _) _ _ _))); first | walk1 | (dsimp only; walk1))))
      rename_i kF kN kX kT
      refine hR _ _ D (LCg.lst ys) ys ⟨_, rfl⟩ ?_ kF (PyProof.Rows.News.perm kN ?_) ?_
      · have e : res = pops (lti keq klt) ks.length (pushes (lti keq klt) ks.length) := by simpa [pops] using hres
        rw [← e]; exact hys
      · intro p hp
        simp only [List.mem_cons, List.mem_append] at hp ⊢
        revert hp; repeat' (first | exact (fun h => h) | refine (fun h => Or.elim h ?_ ?_) | (intro hp; repeat (first | exact hp | exact Or.inl hp | exact Or.inl (Or.inl hp) | exact Or.inl (Or.inr hp) | apply Or.inr)))
      · intro p hp
        refine off1_mem off p ?_
        simp only [List.mem_cons, List.mem_append] at hp ⊢
        revert hp; repeat' (first | exact (fun h => h) | refine (fun h => Or.elim h ?_ ?_) | (intro hp; repeat (first | exact hp | exact Or.inl hp | exact Or.inl (Or.inl hp) | exact Or.inl (Or.inr hp) | apply Or.inr)))

end

section
/-! part M6 -/
theorem fillx6 : PySem.Challenge.rw_ny0133_01 = PySem.Challenge.rw_ny0133_01 ∧ hd.heap_39 = hd.heap_39 := by k_fill; w_top off; exact ⟨rfl, rfl⟩

/-- the octets of the first i samples turned -/
noncomputable def swp (d : Array UInt8) : Nat → Array UInt8
  | 0 => Array.replicate d.size 0
  | i + 1 => ((swp d i).setIfInBounds (2 * i + 1) (d.getD (2 * i) 0)).setIfInBounds (2 * i) (d.getD (2 * i + 1) 0)
theorem swp_size (d : Array UInt8) : ∀ i, (swp d i).size = d.size
  | 0 => by simp [swp]
  | i + 1 => by simp [swp, swp_size d i]
noncomputable def swl (x : List UInt8) : List UInt8 := (swp x.toArray (x.length / 2)).toList
/-- the i-th sample turned, as far as j -/
noncomputable def swj (d : Array UInt8) (i : Nat) : Nat → Array UInt8
  | 0 => swp d i
  | 1 => (swp d i).setIfInBounds (2 * i + 1) (d.getD (2 * i) 0)
  | _ => swp d (i + 1)
theorem swj_size (d : Array UInt8) (i : Nat) : ∀ j, (swj d i j).size = d.size
  | 0 => swp_size d i
  | 1 => by simp [swj, swp_size]
  | _ + 2 => swp_size d (i + 1)
theorem swj_step (x : List UInt8) (i j : Nat) (hj : j < 2) : (swj x.toArray i j).setIfInBounds (2 * i + 1 - j) (x.getD (2 * i + j) 0).toNat.toUInt8 = swj x.toArray i (j + 1) := by
  have e : ∀ k, (x.getD k 0).toNat.toUInt8 = x.toArray.getD k 0 := fun k => by simp [UInt8.ofNat_toNat]
  rw [e]
  obtain rfl | rfl : j = 0 ∨ j = 1 := by omega
  · rfl
  · rfl
theorem size2 (n : Nat) (h : n % 2 = 0) : Builtin.Range.rangeSize 0 (n : Int) 2 = ((n / 2 : Nat) : Int) := by
  unfold Builtin.Range.rangeSize
  rw [if_pos (by decide)]
  split <;> omega
theorem small2' {a b : Int} (ha : -(2 ^ 61) ≤ a) (ha' : a < 2 ^ 61) (hb : -(2 ^ 61) ≤ b) (hb' : b < 2 ^ 61) : Builtin.Range.small a b 2 = true := by
  unfold Builtin.Range.small
  have hs : Builtin.Range.rangeSize a b 2 ≤ 2 ^ 62 ∧ 0 ≤ Builtin.Range.rangeSize a b 2 := by
    unfold Builtin.Range.rangeSize
    rw [if_pos (by decide)]
    split <;> omega
  generalize Builtin.Range.rangeSize a b 2 = z at hs ⊢
  simp only [Builtin.Range.rangeFitsLong, Bool.and_eq_true, Bool.or_eq_true, decide_eq_true_eq, beq_iff_eq, show (2 : Int) > 0 by decide, if_true]
  omega
theorem small2 (n : Nat) (h : n < 1000) : Builtin.Range.small 0 (n : Int) 2 = true := small2' (by decide) (by decide) (Int.le_trans (by decide) (Int.natCast_nonneg n)) (Int.lt_trans (Int.ofNat_lt.mpr h) (by decide))
set_option maxRecDepth 100000 in
set_option maxHeartbeats 8000000 in
theorem byteswap {w : World} {mean : ExcName → Option Value} {mg mb : Str → Option Value} {A₀ A : Around} {base h₀ : Heap} {outer : List Env} {env : Env} {L : Addr} {m : Str → Option Value} {s : Shared}
   {news : List (Addr × Obj)} {x : List UInt8} {t t2 : Tok}  {R : Result → Shared → Prop}
   (B : Below A₀ base outer h₀) (F : Fr h₀ L s.heap m) (X : (hd.heap_39 w.params).In h₀) (N : News h₀ L s.heap news) (T : Top hd.view_39 LW mean mg mb h₀)
   (hA : A.frames = some (env :: outer)) (hf : env.frame = some L) (hke : env.scope.kind = .function) (hroom : A.depth < recursionLimit) (hh : A.handled = none)
   (hsz : x.length < 1000) (hev : x.length % 2 = 0)
   (hR : ∀ h' tk t', Fr h₀ L h' m → News h₀ L h' news → R (.ok (.ret (.bytes (swl x).toArray t'))) { s with heap := h', toks := tk }) :
   codeC (model PR w) A (.call (.ref 21) ⟨[.bytes x.toArray t, .int 2 t2], []⟩) R s := by
  refine' enterP B F X N T hA hf hke ?k6 ?k7 (by omega) ?k9 ?kB ?_ ?c2 ?c3 ?c4 ?c5
  (((case k6 => k_is); (case k7 => k_is);  (case k9 => exact BindsTo.of_eq rfl); (case c5 => decide); (case kB => exact locs rfl); (case c2 => exact rfl); (case c3 => exact rfl); (case c4 => exact rfl); k_whole))
  intro g' L' h' tk F' N' B' X' T'; (try dsimp only)
  refine wpC_execs_cons (wpC_Assign_Name (wpC_Call_Name ?_) rfl)
  (repeat' (first | (k_unfold; (try dsimp only)) | (((fail_if_success (with_reducible first | show wpAny _ _ (exec (Stmt.While _ _ _ _) _) _ _ _ | show wpAny _ _ (call (Value.ref _) _ _) _ _ _ | show wpAny _ _ (exec (Stmt.For _ _ _ _ _) _) _ _ _ | show wpAny _ _ (call (Value.builtin "list.append") _ _) _ _ _ | show wpAny _ _ (eval (Expr.ListComp _ _ _ _) _) _ _ _))); first | walk1 | (dsimp only; walk1))))
  refine callWith_Ctype1 ?_
  (repeat' (first | (k_unfold; (try dsimp only)) | (((fail_if_success (with_reducible first | show wpAny _ _ (exec (Stmt.While _ _ _ _) _) _ _ _ | show wpAny _ _ (call (Value.ref _) _ _) _ _ _ | show wpAny _ _ (exec (Stmt.For _ _ _ _ _) _) _ _ _ | show wpAny _ _ (call (Value.builtin "list.append") _ _) _ _ _ | show wpAny _ _ (eval (Expr.ListComp _ _ _ _) _) _ _ _))); first | walk1 | (dsimp only; walk1))))
  refine call_bytearray (by have := sizeLine_eq; rw [List.size_toArray]; omega) fun h₂ k₂ o₂ => ?_
  rename Fr g' L' _ _ => F₁
  rename News g' L' _ _ => N₁
  have F₂ := F₁.keeps k₂
  have N₂ : News g' L' h₂ ((h'.objs.size, baO (Array.replicate x.length 0)) :: news) := fun p hp => by
    rcases List.mem_cons.mp hp with rfl | hp
    · exact ⟨o₂, Nat.ne_of_gt F₁.ns.lt, next_is_new F₁⟩
    · exact ⟨k₂ _ _ (N₁ p hp).1, (N₁ p hp).2⟩
  have hbn : ∀ p ∈ news, p.1 ≠ h'.objs.size := fun p hp => Nat.ne_of_lt (Heap.lt_size (N₁ p hp).1)
  generalize h'.objs.size = b at F₂ N₂ hbn o₂
  clear N₁ F₁ k₂
  dsimp only
  (repeat' (first | (k_unfold; (try dsimp only)) | (((fail_if_success (with_reducible first | show wpAny _ _ (exec (Stmt.While _ _ _ _) _) _ _ _ | show wpAny _ _ (call (Value.ref _) _ _) _ _ _ | show wpAny _ _ (exec (Stmt.For _ _ _ _ _) _) _ _ _ | show wpAny _ _ (call (Value.builtin "list.append") _ _) _ _ _ | show wpAny _ _ (eval (Expr.ListComp _ _ _ _) _) _ _ _))); first | walk1 | (dsimp only; walk1))))
  refine wpC_any ?_
  (repeat' (first | (k_unfold; (try dsimp only)) | (((fail_if_success (with_reducible first | show wpAny _ _ (exec (Stmt.While _ _ _ _) _) _ _ _ | show wpAny _ _ (call (Value.ref _) _ _) _ _ _ | show wpAny _ _ (exec (Stmt.For _ _ _ _ _) _) _ _ _ | show wpAny _ _ (call (Value.builtin "list.append") _ _) _ _ _ | show wpAny _ _ (eval (Expr.ListComp _ _ _ _) _) _ _ _))); first | walk1 | (dsimp only; walk1))))
  rename_i h₃ F₃ N₃
  refine For_turns F₃ ?_
  (repeat' (first | (k_unfold; (try dsimp only)) | (((fail_if_success (with_reducible first | show wpAny _ _ (exec (Stmt.While _ _ _ _) _) _ _ _ | show wpAny _ _ (call (Value.ref _) _ _) _ _ _ | show wpAny _ _ (exec (Stmt.For _ _ _ _ _) _) _ _ _ | show wpAny _ _ (call (Value.builtin "list.append") _ _) _ _ _ | show wpAny _ _ (eval (Expr.ListComp _ _ _ _) _) _ _ _))); first | walk1 | (dsimp only; walk1))))
  rename IsRange _ _ _ _ _ _ _ _ => hr
  rename Fr g' L' _ _ => F₄
  rename News g' L' _ _ => N₄
  refine iter_range (n := x.length / 2) F₄ N₄ hr (small2 _ (by omega)) (size2 _ hev) (by exact hh)
    (fun i m₁ news₁ => ∃ tb, news₁ = (b, baO (swp x.toArray i)) :: news ∧ m₁ (Str.ofString "data") = some (.bytes x.toArray t) ∧ m₁ (Str.ofString "width") = some (.int 2 tb) ∧ m₁ (Str.ofString "swapped_data") = some (.ref b))
    ⟨t2, rfl, rfl, rfl, rfl⟩ ?_ ?_
  · rintro i ti m₁ news₁ h₅ tk₅ I own hI hi ⟨tb, rfl, e1, e2, e3⟩ hown hnI F₅ N₅
    have em := map3 e1 e2 e3
    replace F₅ : Fr g' L' h₅ m₁ := F₅
    obtain ⟨tl0, htl0⟩ : ∃ tl0, tl0 = own ++ news := ⟨_, rfl⟩
    replace N₅ : News g' L' h₅ ((b, baO (swp x.toArray i)) :: tl0) := PyProof.Rows.News.perm N₅ (by subst htl0; intro p hp; simp only [List.mem_cons, List.mem_append] at hp ⊢; grind)
    rw [em] at F₅
    (repeat' (first | (k_unfold; (try dsimp only)) | (((fail_if_success (with_reducible first | show wpAny _ _ (exec (Stmt.While _ _ _ _) _) _ _ _ | show wpAny _ _ (call (Value.ref _) _ _) _ _ _ | show wpAny _ _ (exec (Stmt.For _ _ _ _ _) _) _ _ _ | show wpAny _ _ (call (Value.builtin "list.append") _ _) _ _ _ | show wpAny _ _ (eval (Expr.ListComp _ _ _ _) _) _ _ _))); first | walk1 | (dsimp only; walk1))))
    rename Fr g' L' _ _ => F₆
    rename News g' L' _ _ => N₆
    refine For_turns F₆ ?_
    (repeat' (first | (k_unfold; (try dsimp only)) | (((fail_if_success (with_reducible first | show wpAny _ _ (exec (Stmt.While _ _ _ _) _) _ _ _ | show wpAny _ _ (call (Value.ref _) _ _) _ _ _ | show wpAny _ _ (exec (Stmt.For _ _ _ _ _) _) _ _ _ | show wpAny _ _ (call (Value.builtin "list.append") _ _) _ _ _ | show wpAny _ _ (eval (Expr.ListComp _ _ _ _) _) _ _ _))); first | walk1 | (dsimp only; walk1))))
    rename IsRange _ _ _ _ _ _ _ _ => hr'
    rename Fr g' L' _ _ => F₇
    rename News g' L' _ _ => N₇
    refine iter_range (n := 2) F₇ N₇ hr' (small_one (by decide) (by decide) (by decide) (by decide)) (by rw [rangeSize_one]; decide) (by exact hh)
      (fun j m₂ news₂ => ∃ tb tc, news₂ = (b, baO (swj x.toArray i j)) :: tl0 ∧ m₂ (Str.ofString "data") = some (.bytes x.toArray t) ∧ m₂ (Str.ofString "width") = some (.int 2 tb) ∧ m₂ (Str.ofString "swapped_data") = some (.ref b) ∧ m₂ (Str.ofString "i") = some (.int (2 * (i : Int)) tc))
      ⟨tb, ti, rfl, rfl, rfl, rfl, by show some (Value.int _ _) = _; congr 2; omega⟩ ?_ ?_
    · rintro j tj m₂ news₂ h₉ tk₉ I' own' hI' hj ⟨tb', tc', rfl, f1, f2, f3, f4⟩ hown' hnI' F₉ N₉
      have em := map4 f1 f2 f3 f4
      replace F₉ : Fr g' L' h₉ m₂ := F₉
      obtain ⟨tl, htl⟩ : ∃ tl, tl = own' ++ tl0 := ⟨_, rfl⟩
      replace N₉ : News g' L' h₉ ((b, baO (swj x.toArray i j)) :: tl) := PyProof.Rows.News.perm N₉ (by subst htl; intro p hp; simp only [List.mem_cons, List.mem_append] at hp ⊢; grind)
      rw [em] at F₉
      (repeat' (first | (k_unfold; (try dsimp only)) | (((fail_if_success (with_reducible first | show wpAny _ _ (exec (Stmt.While _ _ _ _) _) _ _ _ | show wpAny _ _ (call (Value.ref _) _ _) _ _ _ | show wpAny _ _ (exec (Stmt.For _ _ _ _ _) _) _ _ _ | show wpAny _ _ (call (Value.builtin "list.append") _ _) _ _ _ | show wpAny _ _ (eval (Expr.ListComp _ _ _ _) _) _ _ _))); first | walk1 | (dsimp only; walk1))))
      have hsz2 : 2 * (i : Int) + (0 + (j : Int) * 1) = ((2 * i + j : Nat) : Int) := by omega
      rename Fr g' L' _ _ => Fa
      rename News g' L' _ _ => Na
      have hbI : b ≠ I := hnI _ (.head _)
      have hbI' : b ≠ I' := hnI' _ (.head _)
      have hz := sizeLine_eq
      refine ba_setItemN (k := 2 * i + 1 - j) (v := (x.getD (2 * i + j) 0).toNat) Fa Na ?hna (by omega) ?hv' (by rw [swj_size, List.size_toArray]; omega) (by rw [swj_size, List.size_toArray]; omega) (UInt8.toNat_lt _) fun hb Fb Nb => ?_
      case hna =>
        intro p hp
        subst htl htl0
        simp only [List.mem_append] at hp
        rcases hp with hp | hp | hp
        · rw [hown' p hp]; exact Ne.symm hbI'
        · rw [hown p hp]; exact Ne.symm hbI
        · exact hbn p hp
      case hv' =>
        rw [hsz2, Int.toNat_natCast]
      (repeat' (first | (k_unfold; (try dsimp only)) | (((fail_if_success (with_reducible first | show wpAny _ _ (exec (Stmt.While _ _ _ _) _) _ _ _ | show wpAny _ _ (call (Value.ref _) _ _) _ _ _ | show wpAny _ _ (exec (Stmt.For _ _ _ _ _) _) _ _ _ | show wpAny _ _ (call (Value.builtin "list.append") _ _) _ _ _ | show wpAny _ _ (eval (Expr.ListComp _ _ _ _) _) _ _ _))); first | walk1 | (dsimp only; walk1))))
      rw [swj_step x i j hj] at Nb
      refine ⟨hb, _, _, (b, baO (swj x.toArray i (j + 1))) :: tl0, rfl, Fb, PyProof.Rows.News.perm Nb ?_, ?_, tb', tc', rfl, rfl, rfl, rfl, rfl⟩
      · intro p hp
        subst htl
        simp only [List.mem_cons, List.mem_append] at hp ⊢
        grind
      · intro p hp
        simp only [List.mem_singleton]
        rcases List.mem_cons.mp hp with rfl | hp
        · exact hbI'
        · exact hnI' p (.tail _ hp)
    · rintro m₂ news₂ ⟨tb', tc', rfl, f1, f2, f3, f4⟩ h₉ tk₉ F₉ N₉
      (repeat' (first | (k_unfold; (try dsimp only)) | (((fail_if_success (with_reducible first | show wpAny _ _ (exec (Stmt.While _ _ _ _) _) _ _ _ | show wpAny _ _ (call (Value.ref _) _ _) _ _ _ | show wpAny _ _ (exec (Stmt.For _ _ _ _ _) _) _ _ _ | show wpAny _ _ (call (Value.builtin "list.append") _ _) _ _ _ | show wpAny _ _ (eval (Expr.ListComp _ _ _ _) _) _ _ _))); first | walk1 | (dsimp only; walk1))))
      have hbI0 : b ≠ I := hnI _ (.head _)
      refine ⟨h₉, tk₉, m₂, (b, baO (swp x.toArray (i + 1))) :: news, rfl, F₉, PyProof.Rows.News.perm N₉ ?_, ?_, tb', rfl, f1, f2, f3⟩
      · intro p hp
        subst htl0
        simp only [List.mem_cons, List.mem_append] at hp ⊢
        have e : swj x.toArray i 2 = swp x.toArray (i + 1) := rfl
        rw [e]
        grind
      · intro p hp
        simp only [List.mem_singleton]
        rcases List.mem_cons.mp hp with rfl | hp
        · exact hbI0
        · exact hnI p (.tail _ hp)
  · rintro m₁ news₁ ⟨tb, rfl, e1, e2, e3⟩ h₅ tk₅ F₅ N₅
    have em := map3 e1 e2 e3
    replace F₅ : Fr g' L' h₅ m₁ := F₅
    rw [em] at F₅
    (repeat' (first | (k_unfold; (try dsimp only)) | (((fail_if_success (with_reducible first | show wpAny _ _ (exec (Stmt.While _ _ _ _) _) _ _ _ | show wpAny _ _ (call (Value.ref _) _ _) _ _ _ | show wpAny _ _ (exec (Stmt.For _ _ _ _ _) _) _ _ _ | show wpAny _ _ (call (Value.builtin "list.append") _ _) _ _ _ | show wpAny _ _ (eval (Expr.ListComp _ _ _ _) _) _ _ _))); first | walk1 | (dsimp only; walk1))))
    have hz := sizeLine_eq
    refine call_bytes_ba (N₅ _ (.head _)).1 (by rw [swp_size, List.size_toArray]; omega) fun tq kq => ?_
    refine leaveK_ F₅ N₅ fun Fz Nz => ?_
    have e : (swl x).toArray = swp x.toArray (x.length / 2) := by unfold swl; simp
    have hq := hR h₅ kq tq Fz (PyProof.Rows.News.perm Nz fun p hp => .tail _ hp)
    rw [e] at hq
    exact hq

end

section
/-! part E2 -/
open AutoSeq1 (wpAny_loadPart')
set_option maxRecDepth 100000
section
variable {prog : Program} {w : World} {A : Around} {E : Value → Shared → Prop} {s : Shared}
theorem nextOf_tup_item {it t : Addr} {i : Nat} {items : Array Value} {x : Value} {Q : Value → Shared → Prop} (hit : IsTupIter s.heap it t i) (ht : IsTup s.heap t items) (hx : items[i]? = some x)
    (hQ : ∀ h', IsTupIter h' it t (i + 1) → Heap.SameBut it s.heap h' → Q x { s with heap := h' }) :
    wpAny (model prog w) A (Builtin.SmallTypes.nextOf (.ref it)) Q E s := by
  obtain ⟨o, ho, hc, hd⟩ := id hit
  obtain ⟨ol, hol, _, nl, hdl⟩ := ht
  have hT : s.TypeIs (.ref it) "tuple_iterator" := ⟨o, ho, hc⟩
  unfold Builtin.SmallTypes.nextOf
  refine wpAny_bind (wpAny_callSpecial?_slot (name := Str.ofString "__next__") hT F.slot_tuple_iterator_next
    (wpAny_call_entry F.slot_tuple_iterator_next hT F.entry_tuple_iterator_next ?_ (F.args_tuple_iterator_next_1 _)))
  show wpAny _ _ (field (.ref it) 0 >>= _) _ _ s
  refine wpAny_bind (wpAny_field ho hd (x := .ref t) rfl ?_)
  show wpAny _ _ (if (Value.ref t == Value.none) = true then _ else _) _ _ s
  rw [if_neg (show ¬ ((Value.ref t == Value.none) = true) from Bool.false_ne_true)]
  show wpAny _ _ (field (.ref it) 1 >>= _) _ _ s
  refine wpAny_bind (wpAny_field ho hd (x := .int i 0) rfl ?_)
  show wpAny _ _ (seqItems? (.ref t) >>= _) _ _ s
  refine wpAny_bind (wpAny_seqItems hol hdl ?_)
  simp only [Int.toNat_natCast, hx]
  refine wpAny_bind (wpAny_setField ho hd (by simp) (wpAny_pure ⟨x, rfl, wpAny_pure (hQ _ ?_ (Heap.SameBut.update ..))⟩))
  exact ⟨_, Heap.get?_update_self _ ho (Obj.isFreed_of_fields (Obj.data_mapFields hd _)), (Obj.cls_mapFields ..).trans hc, by
    rw [Obj.data_mapFields hd]; simp [rawInt]⟩
theorem nextOf_tup_end {it t : Addr} {i : Nat} {items : Array Value} {Q : Value → Shared → Prop} (hh : A.handled = none) (hit : IsTupIter s.heap it t i) (ht : IsTup s.heap t items) (hx : items[i]? = none)
    (hE : ∀ h' e, Heap.ExtBut it s.heap h' → (∃ o, h'.get? e = some o ∧ o.cls = .type "StopIteration") → E (.ref e) { s with heap := h' }) :
    wpAny (model prog w) A (Builtin.SmallTypes.nextOf (.ref it)) Q E s := by
  obtain ⟨o, ho, hc, hd⟩ := id hit
  obtain ⟨ol, hol, _, nl, hdl⟩ := ht
  have hT : s.TypeIs (.ref it) "tuple_iterator" := ⟨o, ho, hc⟩
  unfold Builtin.SmallTypes.nextOf
  refine wpAny_bind (wpAny_callSpecial?_slot (name := Str.ofString "__next__") hT F.slot_tuple_iterator_next
    (wpAny_call_entry F.slot_tuple_iterator_next hT F.entry_tuple_iterator_next ?_ (F.args_tuple_iterator_next_1 _)))
  show wpAny _ _ (field (.ref it) 0 >>= _) _ _ s
  refine wpAny_bind (wpAny_field ho hd (x := .ref t) rfl ?_)
  show wpAny _ _ (if (Value.ref t == Value.none) = true then _ else _) _ _ s
  rw [if_neg (show ¬ ((Value.ref t == Value.none) = true) from Bool.false_ne_true)]
  show wpAny _ _ (field (.ref it) 1 >>= _) _ _ s
  refine wpAny_bind (wpAny_field ho hd (x := .int i 0) rfl ?_)
  show wpAny _ _ (seqItems? (.ref t) >>= _) _ _ s
  refine wpAny_bind (wpAny_seqItems hol hdl ?_)
  simp only [Int.toNat_natCast, hx]
  refine wpAny_bind (wpAny_rule (wpAny_bind (wpAny_setField ho hd (by simp) ?_)))
  show wpAny _ _ (newExc (.type "StopIteration") [] >>= _) _ _ _
  refine wpAny_bind ?_
  simp only [newExc, newTuple]
  refine wpAny_bind (wpAny_newObj_type ?_ (by size_fits))
  refine wpAny_bind (m := firstArgMember _ _) (wpAny_of_eq (a := Value.none) (by first | rfl | (simp only [firstArgMember]; rfl)) ?_)
  refine wpAny_newObj_type ?_ (by size_fits)
  simp only [raiseNew]
  refine wpAny_bind (wpAny_handled ?_)
  first | rw [show A.in1.handled = none from hh] | rw [hh]
  refine wpAny_bind (wpAny_pure (wpAny_throw ?_))
  exact hE _ _ (((Heap.SameBut.update ..).extBut.push _).push _) ⟨_, Heap.get?_push_size _ rfl, rfl⟩
end
theorem draws_tup {prog : Program} {w : World} {A : Around} (hh : A.handled = none) (it t : Addr) (hne : t ≠ it) (items : Array Value) :
    Draws prog w A it [it, t] items.size (fun i v => items[i]? = some v) (fun i h => IsTupIter h it t i ∧ IsTup h t items) where
  live := fun _ _ st => let ⟨o, ho, _⟩ := st.1; ⟨o, ho⟩
  frame := fun _ _ _ st hk => ⟨let ⟨o, ho, r⟩ := st.1; ⟨o, hk it (by simp) o ho, r⟩, let ⟨o, ho, r⟩ := st.2; ⟨o, hk t (by simp) o ho, r⟩⟩
  item := fun i s Q E hi st hQ => by
    refine nextOf_tup_item st.1 st.2 (x := items[i]) (by simp [hi]) fun h' hit' hs' => ?_
    exact hQ _ h' s.toks (by simp [hi]) ⟨hit', let ⟨o, ho, r⟩ := st.2; ⟨o, hs'.extBut t o hne ho, r⟩⟩ hs'
  done := fun s Q E st hE => nextOf_tup_end hh st.1 st.2 (by simp) hE
theorem meets_enum_tup (l : Addr) (items : Array Value) (n : Nat) (dct : Option Addr) (sl : Array (Option Value)) :
    Meets (Builtin.«enumerate.__new__» ⟨[.type "enumerate", .ref l], []⟩) (fun _ R s => s.heap.get? l = some { cls := .type "tuple", dict := dct, data := .seq items n, slots := sl } ∧
      R (.ok (.ret (.ref (s.heap.push { cls := .type "tuple_iterator", data := .fields #[.ref l, .int 0 0] }).objs.size)))
        { s with heap := (s.heap.push { cls := .type "tuple_iterator", data := .fields #[.ref l, .int 0 0] }).push { cls := .type "enumerate", data := .fields #[.none, .bool false, .ref s.heap.objs.size, rawInt 0, .none, .none] } }) :=
  .of_wp fun prog w A R s h => by
    obtain ⟨hp, g, d, tk, os⟩ := s; obtain ⟨hl, h⟩ := h
    have hsub := sub_enumerate
    have hL : IsTup (Shared.heap ⟨hp, g, d, tk, os⟩) l items := ⟨_, hl, rfl, n, rfl⟩
    wp_walk using wpAny_loadPart' hl
    refine wpAny_stack_any fun st => wpAny_pure ?_
    split
    · rename_i c _ _ _ _ _
      cases (c == Value.type "enumerate")
      · wp_walk using wpAny_loadPart' hl, iter_tuple hL
        exact ⟨_, rfl, h⟩
      · wp_walk using wpAny_loadPart' hl, iter_tuple hL
        exact ⟨_, rfl, h⟩
    · wp_walk using wpAny_loadPart' hl, iter_tuple hL
      exact ⟨_, rfl, h⟩
section
variable {prog : Program} {w : World} {A : Around} {E : Value → Shared → Prop} {s : Shared}
theorem call_enum_tup {l : Addr} {items : Array Value} {Q : Value → Shared → Prop} (hL : IsTup s.heap l items)
    (h : ∀ h', IsEnum h' (s.heap.objs.size + 1) s.heap.objs.size 0 .none → IsTupIter h' s.heap.objs.size l 0 → h'.objs.size = s.heap.objs.size + 2 →
      (∀ b o, s.heap.get? b = some o → h'.get? b = some o) → Q (.ref (s.heap.objs.size + 1)) { s with heap := h' }) :
    wpAny (model prog w) A (call (.type "enumerate") [.ref l]) Q E s := by
  obtain ⟨⟨c, dct, dt, sl⟩, hl, hc, n, hd⟩ := hL
  replace hc : c = .type "tuple" := hc
  replace hd : dt = .seq items n := hd
  subst hc hd
  refine callType_new F.called_enumerate (by decide) (F.typeCall_enumerate_1 _) (F.newCall_enumerate_1 _) (fun obj => F.args_object_init_2 obj _) F.entry_enumerate_new
    (meets_enum_tup l items n dct sl) ⟨hl, ?_⟩
  have hz : (s.heap.push { cls := .type "tuple_iterator", data := .fields #[.ref l, .int 0 0] }).objs.size = s.heap.objs.size + 1 := Heap.size_push ..
  show _ ∧ _
  rw [hz]
  have he : IsEnum ((s.heap.push { cls := .type "tuple_iterator", data := .fields #[.ref l, .int 0 0] }).push
      { cls := .type "enumerate", data := .fields #[.none, .bool false, .ref s.heap.objs.size, rawInt 0, .none, .none] }) (s.heap.objs.size + 1) s.heap.objs.size 0 .none := by
    have := Heap.get?_push_size (s.heap.push { cls := .type "tuple_iterator", data := .fields #[.ref l, .int 0 0] })
      (o := { cls := .type "enumerate", data := .fields #[.none, .bool false, .ref s.heap.objs.size, rawInt 0, .none, .none] }) rfl
    rw [hz] at this; exact this
  refine ⟨⟨_, he, rfl⟩, h _ he ⟨_, Heap.get?_push_of_some _ (Heap.get?_push_size _ rfl), rfl, rfl⟩ (by rw [Heap.size_push, hz]) fun b o x => Heap.get?_push_of_some _ (Heap.get?_push_of_some _ x)⟩

/-- a for over enumerate(a tuple of the base), by an invariant -/
theorem iter_enum_tup {h₀ : Heap} {env : Env} {elts : List Expr} {kk : Nat} {tp : Pos} {body : List Stmt} {Q : Flow → Shared → Prop} {l : Addr} {items : Array Value} {m : Str → Option Value} {news : List (Addr × Obj)} (F : Fr h₀ env.locals s.heap m) (N : News h₀ env.locals s.heap news)
    (hT : IsTup h₀ l items) (hh : A.handled = none)
    (Inv : Nat → (Str → Option Value) → List (Addr × Obj) → Prop) (h0 : Inv 0 m news)
    (step : ∀ i x T t m₁ news₁ h tk I own, items[i]? = some x → Inv i m₁ news₁ → (∀ p ∈ news₁, p.1 ∉ [I + 1, I]) → (∀ p ∈ news, p.1 < I) → (∀ p ∈ own, p.1 = I + 1 ∨ p.1 = I) → IsTup h T #[.int (i : Int) t, x] → Fr h₀ env.locals h m₁ → News h₀ env.locals h (own ++ news₁) →
      wpAny (model prog w) A (assign (.Tuple elts kk tp) env (.ref T)) (fun _ s₃ => wpAny (model prog w) A (execs body env) (TurnPost h₀ env.locals { s with heap := h, toks := tk } [I + 1, I] own (Inv (i + 1)) Q) E s₃) E { s with heap := h, toks := tk })
    (fin : ∀ m' news', Inv items.size m' news' → ∀ h tk, Fr h₀ env.locals h m' → News h₀ env.locals h news' → Q .next { s with heap := h, toks := tk }) :
    wpAny (model prog w) A (call (.type "enumerate") [.ref l]) (fun xv s₁ => wpAny (model prog w) A (pyIter xv) (fun it s₂ => TurnsAt prog w A h₀ env (.Tuple elts kk tp) body Q E it s₂) E s₁) E s := by
  have hT' : IsTup s.heap l items := hT.keeps F.keep
  have hl0 : ∃ o, h₀.get? l = some o := let ⟨o, ho, _⟩ := hT; ⟨o, ho⟩
  obtain ⟨ol, hol⟩ := hl0
  have hlt : l < s.heap.objs.size := Heap.lt_size (F.keep l ol hol)
  have hL : env.locals < s.heap.objs.size := F.ns.lt
  have fresh : ∀ b, s.heap.objs.size ≤ b → h₀.get? b = none := fun b hb => by
    cases e : h₀.get? b with
    | none => rfl
    | some o' => exact absurd (Heap.lt_size (F.keep b o' e)) (Nat.not_lt.mpr hb)
  refine call_enum_tup hT' fun h' hE hI hsz hk => ?_
  refine wpAny_pyIter_enum hE ?_
  have W := (WalksT.enumerateD (prog := prog) (w := w) (A := A) (draws_tup (A := A.in1) hh s.heap.objs.size l (Nat.ne_of_lt hlt) items) (s.heap.objs.size + 1) (Nat.succ_ne_self _)
    (by simp only [List.mem_cons, List.not_mem_nil, or_false, not_or]; exact ⟨Nat.succ_ne_self _, Nat.ne_of_gt (Nat.lt_succ_of_lt hlt)⟩) (by simp)).toU
  refine ⟨s.heap.objs.size + 1, _, _, items.size, _, _, _, m, news, Inv, rfl, KTurns.ofWalksU W, ?_, ?_, ?_, ⟨⟨.none, hE⟩, hI, hT'.keeps hk⟩, F.keeps hk, N.grown hk, h0, ?_, ?_⟩
  · simp only [List.mem_cons, List.not_mem_nil, or_false, not_or]
    refine ⟨Nat.ne_of_lt (Nat.lt_succ_of_lt hL), Nat.ne_of_lt hL, fun e => ?_⟩
    have := F.above
    exact absurd (Heap.lt_size (e ▸ hol)) (Nat.not_lt.mpr this)
  · intro b hb
    simp only [List.mem_cons, List.not_mem_nil, or_false] at hb
    rcases hb with rfl | rfl
    · exact fresh _ (Nat.le_succ _)
    · exact fresh _ (Nat.le_refl _)
  · intro p hp hb
    have := Heap.lt_size (N p hp).1
    simp only [List.mem_cons, List.not_mem_nil, or_false] at hb
    rcases hb with e | e
    · rw [e] at this; exact absurd this (Nat.not_lt.mpr (Nat.le_succ _))
    · rw [e] at this; exact Nat.lt_irrefl _ this
  · intro i v m₁ news₁ h₁ tk₁ own hi hv hJ hnw hof _ _ st F₁ N₁
    obtain ⟨T, vals, rfl, ⟨t, x, hx, rfl⟩, hTT⟩ := hv
    have hTT' : IsTup h₁ T #[.int (i : Int) t, x] := hTT
    refine wpAny_mono (step i x T t m₁ news₁ h₁ tk₁ s.heap.objs.size own hx hJ hnw (fun p hp => Heap.lt_size (N p hp).1) (fun p hp => ?_) hTT' F₁ N₁) (fun _ s₃ h₃ => wpAny_mono h₃ (fun f s₄ h₄ => ?_) fun _ _ x => x) fun _ _ x => x
    · have hq := hof p hp
      simp only [List.mem_cons, List.not_mem_nil, or_false] at hq
      rcases hq with e | e | e
      · exact .inl e
      · exact .inr e
      · have := (N₁ p (List.mem_append_left _ hp)).2.2
        rw [e, hol] at this; cases this
    · cases f with
      | ret v => exact h₄
      | brk => exact h₄
      | next =>
        obtain ⟨h', tk, m', news', e, F', N', o', I'⟩ := h₄
        exact ⟨rfl, h', tk, m', news', e, F', N', o', I'⟩
      | cont =>
        obtain ⟨h', tk, m', news', e, F', N', o', I'⟩ := h₄
        exact ⟨rfl, h', tk, m', news', e, F', N', o', I'⟩
  · intro h' tk m' news' F' N' _ hJ
    exact fin m' news' hJ h' tk F' N'
end

end

section
/-! part E3 -/
section
variable {prog : Program} {w : World} {A : Around} {E : Value → Shared → Prop} {s : Shared} {env : Env}
/-- a for over a tuple of the base, with its else, by an invariant -/
theorem for_else_tup {h₀ : Heap} {target : Expr} {body orelse : List Stmt} {Q : Flow → Shared → Prop} {l : Addr} {items : Array Value} {m : Str → Option Value} {news : List (Addr × Obj)} (F : Fr h₀ env.locals s.heap m) (N : News h₀ env.locals s.heap news)
    (hT : IsTup h₀ l items) (hh : A.handled = none) (hE : PassesOwn (model prog w) A env E)
    (Inv : Nat → (Str → Option Value) → List (Addr × Obj) → Prop) (h0 : Inv 0 m news)
    (step : ∀ i x m₁ news₁ h tk I own, items[i]? = some x → Inv i m₁ news₁ → (∀ p ∈ news₁, p.1 ∉ [I]) → (∀ p ∈ news, p.1 < I) → (∀ p ∈ own, p.1 = I) → Fr h₀ env.locals h m₁ → News h₀ env.locals h (own ++ news₁) →
      wpAny (model prog w) A (assign target env x) (fun _ s₃ => wpAny (model prog w) A (execs body env) (TurnPost h₀ env.locals { s with heap := h, toks := tk } [I] own (Inv (i + 1)) Q) E s₃) E { s with heap := h, toks := tk })
    (fin : ∀ m' news', Inv items.size m' news' → ∀ h tk, Fr h₀ env.locals h m' → News h₀ env.locals h news' → wpAny (model prog w) A (execs orelse env) Q E { s with heap := h, toks := tk }) :
    wpAny (model prog w) A (pyIter (.ref l)) (fun it s₂ => codeAny (model prog w) A (.forLoop target it body orelse env) (fun r s' => match r with | .ok f => Q f s' | .error e => cameBackBy (model prog w) A env E e s') s₂) E s := by
  have hT' : IsTup s.heap l items := hT.keeps F.keep
  obtain ⟨ol, hol⟩ : ∃ o, h₀.get? l = some o := let ⟨o, ho, _⟩ := hT; ⟨o, ho⟩
  have hlt : l < s.heap.objs.size := Heap.lt_size (F.keep l ol hol)
  have hL : env.locals < s.heap.objs.size := F.ns.lt
  have hIn : h₀.get? s.heap.objs.size = none := next_is_new F
  have hTT : s.heap.IsTuple l items := hT'
  refine wpAny_pyIter_tuple hTT ?_
  have W := Walks.tuple (prog := prog) (w := w) (A := A) hh s.heap.objs.size l (Nat.ne_of_lt hlt) items
  obtain ⟨I, hI⟩ : ∃ I, I = s.heap.objs.size := ⟨_, rfl⟩
  rw [← hI] at W hIn
  refine codeAny_forLoop_any
    (fun k s' => ∃ h' tk m' news' i, s' = { s with heap := h', toks := tk } ∧ (h'.IsTupleIter I l i ∧ h'.IsTuple l items) ∧ Fr h₀ env.locals h' m' ∧ News h₀ env.locals h' news' ∧ (∀ p ∈ news', p.1 ∉ [I]) ∧ Inv i m' news' ∧ i ≤ items.size ∧ k = items.size + 1 - i) ?_ (items.size + 1)
    ⟨_, s.toks, m, news, 0, rfl, ⟨⟨_, hI ▸ Heap.get?_push_size _ rfl, rfl, rfl⟩, hTT.at fun o e => Heap.get?_push_of_some _ e⟩, F.push _, (fun p hp => ⟨Heap.get?_push_of_some _ (N p hp).1, (N p hp).2⟩), ?_, h0, Nat.zero_le _, rfl⟩
  · rintro k s' ⟨h', tk, m', news', i, rfl, hst', F', N', hnw', hJ, hi, rfl⟩
    have old : ∀ b o, h₀.get? b = some o → b ∉ [I] := fun b o e hb => by rw [List.mem_singleton.mp hb, hIn] at e; cases e
    have hLw : env.locals ∉ [I] := fun hb => by rw [List.mem_singleton.mp hb, hI] at hL; exact Nat.lt_irrefl _ hL
    have next : ∀ h₁ : Heap, (∀ b o, b ∉ [I] → h'.get? b = some o → h₁.get? b = some o) → Fr h₀ env.locals h₁ m' ∧ News h₀ env.locals h₁ news' := fun h₁ hk₁ =>
      ⟨⟨F'.ns.at' fun o e => hk₁ _ o hLw e, fun b o e => hk₁ b o (old b o e) (F'.keep b o e), F'.above⟩, fun p hp => ⟨hk₁ _ _ (hnw' p hp) (N' p hp).1, (N' p hp).2⟩⟩
    by_cases hlt : i < items.size
    · refine hI ▸ W.item i _ _ _ hlt hst' fun v h₁ tk₁ hP hst₁ hk₁ => ?_
      refine letGo_tupleiter hst₁.1 ?_
      obtain ⟨F₂, N₂⟩ := next h₁ hk₁
      obtain ⟨oi, hoi, hoc⟩ := hst₁.1
      have Nown : News h₀ env.locals h₁ [(I, oi)] := fun p hp => by
        rw [List.mem_singleton.mp hp]; exact ⟨hoi, fun e => hLw (by simp [← e]), hIn⟩
      refine wpAny_passesOwn hE (wpAny_mono (step i v m' news' h₁ tk₁ I [(I, oi)] hP hJ hnw' (fun p hp => hI ▸ Heap.lt_size (N p hp).1) (fun p hp => by rw [List.mem_singleton.mp hp]) F₂ (Nown.append N₂)) (fun _ s₂ h₂' => wpAny_passesOwn hE (wpAny_mono h₂' (fun f s₃ h₃ => ?_) fun _ _ e => e)) fun _ _ e => e)
      have fin : (∃ h'' tk m' news', s₃ = { s with heap := h'', toks := tk } ∧ Fr h₀ env.locals h'' m' ∧ News h₀ env.locals h'' ([(I, oi)] ++ news') ∧ (∀ p ∈ news', p.1 ∉ [I]) ∧ Inv (i + 1) m' news') →
          ∃ mm, mm < items.size + 1 - i ∧ ∃ h' tk m' news' j, s₃ = { s with heap := h', toks := tk } ∧ (h'.IsTupleIter I l j ∧ h'.IsTuple l items) ∧ Fr h₀ env.locals h' m' ∧ News h₀ env.locals h' news' ∧ (∀ p ∈ news', p.1 ∉ [I]) ∧ Inv j m' news' ∧ j ≤ items.size ∧ mm = items.size + 1 - j := by
        rintro ⟨h₃', tk₃, m₂, news₂, rfl, F₃, N₃, ha₃, hJ₃⟩
        refine ⟨items.size + 1 - (i + 1), by omega, h₃', tk₃, m₂, news₂, i + 1, rfl, ?_, F₃, N₃.right, ha₃, hJ₃, hlt, rfl⟩
        exact ⟨⟨oi, (N₃ _ (List.mem_append_left _ (List.mem_singleton.mpr rfl))).1, hoc⟩, hT.keeps F₃.keep⟩
      cases f with
      | ret v => exact h₃
      | brk => exact h₃
      | cont => exact fin h₃
      | next => exact fin h₃
    · have hin : i = items.size := by omega
      subst hin
      refine hI ▸ W.done _ _ _ hst' fun h₁ tk₁ hk₁ => ?_
      obtain ⟨F₁, N₁⟩ := next h₁ hk₁
      exact wpAny_passesOwn hE (fin m' news' hJ h₁ tk₁ F₁ N₁)
  · intro p hp
    have := Heap.lt_size (N p hp).1
    intro hb; rw [List.mem_singleton.mp hb, hI] at this; exact Nat.lt_irrefl _ this
end

end

section
/-! part M7 -/
theorem fillx7 : PySem.Challenge.rw_ny0133_01 = PySem.Challenge.rw_ny0133_01 ∧ hd.heap_39 = hd.heap_39 := by k_fill; w_top off; exact ⟨rfl, rfl⟩

theorem tupAt {K : Frag} {h : Heap} {a : Addr} {lo : Obj} {items : Array Value} {n : Nat} (X : K.In h) (hk : K.lookup a = some lo) (hc : lo.cls = .type "tuple") (hd : lo.data = .seq items n) : IsTup h a items := ⟨lo, X _ _ hk, hc, n, hd⟩
noncomputable def All2 {α β : Type} (R : α → β → Prop) (l : List α) (r : List β) : Prop := l.length = r.length ∧ ∀ (i : Nat) (x : α), l[i]? = some x → ∃ y, r[i]? = some y ∧ R x y
section
variable {α β : Type} {R : α → β → Prop} {l : List α} {r : List β}
theorem All2.nil : All2 R [] [] := ⟨rfl, fun i x h => by cases h⟩
theorem All2.cons {a : α} {b : β} (h : R a b) (t : All2 R l r) : All2 R (a :: l) (b :: r) := ⟨congrArg (· + 1) t.1, fun i x hx => by
  cases i with
  | zero => cases hx; exact ⟨b, rfl, h⟩
  | succ i => exact t.2 i x hx⟩
theorem All2.get (h : All2 R l r) (i : Nat) (x : α) (hx : l[i]? = some x) : ∃ y, r[i]? = some y ∧ R x y := h.2 i x hx
theorem All2.len (h : All2 R l r) : l.length = r.length := h.1
end
noncomputable def PairAt (h : Heap) (v : Value) (p : Int × Str) : Prop := ∃ b t t', v = .ref b ∧ IsTup h b #[.int p.1 t, .str p.2 t']
noncomputable def TabAt (h : Heap) (v : Value) (ps : List (Int × Str)) : Prop := ∃ a vs, v = .ref a ∧ IsTup h a (List.toArray vs) ∧ All2 (PairAt h) vs ps
noncomputable def tbl : List (List (Int × Str)) := [[(40960, (Str.ofString "l")), (49152, (Str.ofString "s")), (32768, (Str.ofString "-")), (24576, (Str.ofString "b")), (16384, (Str.ofString "d")), (8192, (Str.ofString "c")), (4096, (Str.ofString "p"))], [(256, (Str.ofString "r"))], [(128, (Str.ofString "w"))], [(2112, (Str.ofString "s")), (2048, (Str.ofString "S")), (64, (Str.ofString "x"))], [(32, (Str.ofString "r"))], [(16, (Str.ofString "w"))], [(1032, (Str.ofString "s")), (1024, (Str.ofString "S")), (8, (Str.ofString "x"))], [(4, (Str.ofString "r"))], [(2, (Str.ofString "w"))], [(513, (Str.ofString "t")), (512, (Str.ofString "T")), (1, (Str.ofString "x"))]]
section
variable {w : World} {h : Heap} (X : (hd.heap_39 w.params).In h)
include X
theorem p57 : PairAt h (.ref 57) (40960, (Str.ofString "l")) := by
  refine' ⟨57, _, _, rfl, tupAt X ?h ?c ?d⟩
  case h => k_is
  case c => exact rfl
  case d => exact rfl
theorem p58 : PairAt h (.ref 58) (49152, (Str.ofString "s")) := by
  refine' ⟨58, _, _, rfl, tupAt X ?h ?c ?d⟩
  case h => k_is
  case c => exact rfl
  case d => exact rfl
theorem p59 : PairAt h (.ref 59) (32768, (Str.ofString "-")) := by
  refine' ⟨59, _, _, rfl, tupAt X ?h ?c ?d⟩
  case h => k_is
  case c => exact rfl
  case d => exact rfl
theorem p60 : PairAt h (.ref 60) (24576, (Str.ofString "b")) := by
  refine' ⟨60, _, _, rfl, tupAt X ?h ?c ?d⟩
  case h => k_is
  case c => exact rfl
  case d => exact rfl
theorem p61 : PairAt h (.ref 61) (16384, (Str.ofString "d")) := by
  refine' ⟨61, _, _, rfl, tupAt X ?h ?c ?d⟩
  case h => k_is
  case c => exact rfl
  case d => exact rfl
theorem p62 : PairAt h (.ref 62) (8192, (Str.ofString "c")) := by
  refine' ⟨62, _, _, rfl, tupAt X ?h ?c ?d⟩
  case h => k_is
  case c => exact rfl
  case d => exact rfl
theorem p63 : PairAt h (.ref 63) (4096, (Str.ofString "p")) := by
  refine' ⟨63, _, _, rfl, tupAt X ?h ?c ?d⟩
  case h => k_is
  case c => exact rfl
  case d => exact rfl
theorem t64 : TabAt h (.ref 64) [(40960, (Str.ofString "l")), (49152, (Str.ofString "s")), (32768, (Str.ofString "-")), (24576, (Str.ofString "b")), (16384, (Str.ofString "d")), (8192, (Str.ofString "c")), (4096, (Str.ofString "p"))] := by
  refine' ⟨64, [.ref 57, .ref 58, .ref 59, .ref 60, .ref 61, .ref 62, .ref 63], rfl, tupAt X ?h ?c ?d, .cons (p57 X) (.cons (p58 X) (.cons (p59 X) (.cons (p60 X) (.cons (p61 X) (.cons (p62 X) (.cons (p63 X) (.nil)))))))⟩
  case h => k_is
  case c => exact rfl
  case d => exact rfl
theorem p65 : PairAt h (.ref 65) (256, (Str.ofString "r")) := by
  refine' ⟨65, _, _, rfl, tupAt X ?h ?c ?d⟩
  case h => k_is
  case c => exact rfl
  case d => exact rfl
theorem t66 : TabAt h (.ref 66) [(256, (Str.ofString "r"))] := by
  refine' ⟨66, [.ref 65], rfl, tupAt X ?h ?c ?d, .cons (p65 X) (.nil)⟩
  case h => k_is
  case c => exact rfl
  case d => exact rfl
theorem p67 : PairAt h (.ref 67) (128, (Str.ofString "w")) := by
  refine' ⟨67, _, _, rfl, tupAt X ?h ?c ?d⟩
  case h => k_is
  case c => exact rfl
  case d => exact rfl
theorem t68 : TabAt h (.ref 68) [(128, (Str.ofString "w"))] := by
  refine' ⟨68, [.ref 67], rfl, tupAt X ?h ?c ?d, .cons (p67 X) (.nil)⟩
  case h => k_is
  case c => exact rfl
  case d => exact rfl
theorem p69 : PairAt h (.ref 69) (2112, (Str.ofString "s")) := by
  refine' ⟨69, _, _, rfl, tupAt X ?h ?c ?d⟩
  case h => k_is
  case c => exact rfl
  case d => exact rfl
theorem p70 : PairAt h (.ref 70) (2048, (Str.ofString "S")) := by
  refine' ⟨70, _, _, rfl, tupAt X ?h ?c ?d⟩
  case h => k_is
  case c => exact rfl
  case d => exact rfl
theorem p71 : PairAt h (.ref 71) (64, (Str.ofString "x")) := by
  refine' ⟨71, _, _, rfl, tupAt X ?h ?c ?d⟩
  case h => k_is
  case c => exact rfl
  case d => exact rfl
theorem t72 : TabAt h (.ref 72) [(2112, (Str.ofString "s")), (2048, (Str.ofString "S")), (64, (Str.ofString "x"))] := by
  refine' ⟨72, [.ref 69, .ref 70, .ref 71], rfl, tupAt X ?h ?c ?d, .cons (p69 X) (.cons (p70 X) (.cons (p71 X) (.nil)))⟩
  case h => k_is
  case c => exact rfl
  case d => exact rfl
theorem p73 : PairAt h (.ref 73) (32, (Str.ofString "r")) := by
  refine' ⟨73, _, _, rfl, tupAt X ?h ?c ?d⟩
  case h => k_is
  case c => exact rfl
  case d => exact rfl
theorem t74 : TabAt h (.ref 74) [(32, (Str.ofString "r"))] := by
  refine' ⟨74, [.ref 73], rfl, tupAt X ?h ?c ?d, .cons (p73 X) (.nil)⟩
  case h => k_is
  case c => exact rfl
  case d => exact rfl
theorem p75 : PairAt h (.ref 75) (16, (Str.ofString "w")) := by
  refine' ⟨75, _, _, rfl, tupAt X ?h ?c ?d⟩
  case h => k_is
  case c => exact rfl
  case d => exact rfl
theorem t76 : TabAt h (.ref 76) [(16, (Str.ofString "w"))] := by
  refine' ⟨76, [.ref 75], rfl, tupAt X ?h ?c ?d, .cons (p75 X) (.nil)⟩
  case h => k_is
  case c => exact rfl
  case d => exact rfl
theorem p77 : PairAt h (.ref 77) (1032, (Str.ofString "s")) := by
  refine' ⟨77, _, _, rfl, tupAt X ?h ?c ?d⟩
  case h => k_is
  case c => exact rfl
  case d => exact rfl
theorem p78 : PairAt h (.ref 78) (1024, (Str.ofString "S")) := by
  refine' ⟨78, _, _, rfl, tupAt X ?h ?c ?d⟩
  case h => k_is
  case c => exact rfl
  case d => exact rfl
theorem p79 : PairAt h (.ref 79) (8, (Str.ofString "x")) := by
  refine' ⟨79, _, _, rfl, tupAt X ?h ?c ?d⟩
  case h => k_is
  case c => exact rfl
  case d => exact rfl
theorem t80 : TabAt h (.ref 80) [(1032, (Str.ofString "s")), (1024, (Str.ofString "S")), (8, (Str.ofString "x"))] := by
  refine' ⟨80, [.ref 77, .ref 78, .ref 79], rfl, tupAt X ?h ?c ?d, .cons (p77 X) (.cons (p78 X) (.cons (p79 X) (.nil)))⟩
  case h => k_is
  case c => exact rfl
  case d => exact rfl
theorem p81 : PairAt h (.ref 81) (4, (Str.ofString "r")) := by
  refine' ⟨81, _, _, rfl, tupAt X ?h ?c ?d⟩
  case h => k_is
  case c => exact rfl
  case d => exact rfl
theorem t82 : TabAt h (.ref 82) [(4, (Str.ofString "r"))] := by
  refine' ⟨82, [.ref 81], rfl, tupAt X ?h ?c ?d, .cons (p81 X) (.nil)⟩
  case h => k_is
  case c => exact rfl
  case d => exact rfl
theorem p83 : PairAt h (.ref 83) (2, (Str.ofString "w")) := by
  refine' ⟨83, _, _, rfl, tupAt X ?h ?c ?d⟩
  case h => k_is
  case c => exact rfl
  case d => exact rfl
theorem t84 : TabAt h (.ref 84) [(2, (Str.ofString "w"))] := by
  refine' ⟨84, [.ref 83], rfl, tupAt X ?h ?c ?d, .cons (p83 X) (.nil)⟩
  case h => k_is
  case c => exact rfl
  case d => exact rfl
theorem p85 : PairAt h (.ref 85) (513, (Str.ofString "t")) := by
  refine' ⟨85, _, _, rfl, tupAt X ?h ?c ?d⟩
  case h => k_is
  case c => exact rfl
  case d => exact rfl
theorem p86 : PairAt h (.ref 86) (512, (Str.ofString "T")) := by
  refine' ⟨86, _, _, rfl, tupAt X ?h ?c ?d⟩
  case h => k_is
  case c => exact rfl
  case d => exact rfl
theorem p87 : PairAt h (.ref 87) (1, (Str.ofString "x")) := by
  refine' ⟨87, _, _, rfl, tupAt X ?h ?c ?d⟩
  case h => k_is
  case c => exact rfl
  case d => exact rfl
theorem t88 : TabAt h (.ref 88) [(513, (Str.ofString "t")), (512, (Str.ofString "T")), (1, (Str.ofString "x"))] := by
  refine' ⟨88, [.ref 85, .ref 86, .ref 87], rfl, tupAt X ?h ?c ?d, .cons (p85 X) (.cons (p86 X) (.cons (p87 X) (.nil)))⟩
  case h => k_is
  case c => exact rfl
  case d => exact rfl
theorem t89 : ∃ vs : List Value, IsTup h 89 vs.toArray ∧ All2 (TabAt h) vs tbl := by
  refine' ⟨[.ref 64, .ref 66, .ref 68, .ref 72, .ref 74, .ref 76, .ref 80, .ref 82, .ref 84, .ref 88], tupAt X ?h ?c ?d, .cons (t64 X) (.cons (t66 X) (.cons (t68 X) (.cons (t72 X) (.cons (t74 X) (.cons (t76 X) (.cons (t80 X) (.cons (t82 X) (.cons (t84 X) (.cons (t88 X) (.nil))))))))))⟩
  case h => k_is
  case c => exact rfl
  case d => exact rfl
end

set_option maxRecDepth 100000 in
set_option maxHeartbeats 8000000 in
theorem sifmt {w : World} {mean : ExcName → Option Value} {mg mb : Str → Option Value} {A₀ A : Around} {base h₀ : Heap} {outer : List Env} {env : Env} {L : Addr} {m : Str → Option Value} {s : Shared}
   {news : List (Addr × Obj)} {md : Int} {t : Tok}  {R : Result → Shared → Prop}
   (B : Below A₀ base outer h₀) (F : Fr h₀ L s.heap m) (X : (hd.heap_39 w.params).In h₀) (N : News h₀ L s.heap news) (T : Top hd.view_39 LW mean mg mb h₀)
   (hA : A.frames = some (env :: outer)) (hf : env.frame = some L) (hke : env.scope.kind = .function) (hroom : A.depth < recursionLimit) (hu : A.units + 5 < cLine)
   (hR : ∀ h' tk t', Fr h₀ L h' m → News h₀ L h' news → R (.ok (.ret (.int (Builtin.bitAnd md 61440) t'))) { s with heap := h', toks := tk }) :
   codeAny (model PR w) A (.call (.ref 56) ⟨[.int md t], []⟩) R s := by
  refine' enter B F X N T hA hf hke ?k6 ?k7 (by omega) ?k9 ?kB ?_ ?c2 ?c3 ?c4 ?c5
  (((case k6 => k_is); (case k7 => k_is);  (case k9 => exact BindsTo.of_eq rfl); (case c5 => decide); (case kB => exact locs rfl); (case c2 => exact rfl); (case c3 => exact rfl); (case c4 => exact rfl); k_whole))
  intro g' L' h' tk F' N' B' X' T'; (try dsimp only)
  (repeat' (first | (k_unfold; (try dsimp only)) | (((fail_if_success (with_reducible first | show wpAny _ _ (exec (Stmt.While _ _ _ _) _) _ _ _ | show wpAny _ _ (call (Value.ref _) _ _) _ _ _ | show wpAny _ _ (exec (Stmt.For _ _ _ _ _) _) _ _ _ | show wpAny _ _ (call (Value.builtin "list.append") _ _) _ _ _ | show wpAny _ _ (eval (Expr.ListComp _ _ _ _) _) _ _ _))); first | walk1 | (dsimp only; walk1))))
  exact hR _ _ _ (by assumption) (by assumption)
theorem no1 {P I : Nat} (h : P < I) (e : P = I + 1 ∨ P = I) : False := by omega
theorem no2 {P I : Nat} (h : P < I) (e : P = I) : False := by omega
noncomputable def pick (d : Str) (ok : Int → Bool) : List (Int × Str) → Str
  | [] => d
  | p :: ps => if ok p.1 = true then p.2 else pick d ok ps
noncomputable def sign (md : Int) (i : Nat) (ps : List (Int × Str)) : Str := if i = 0 then pick (Str.ofString "?") (fun b => Builtin.bitAnd md 61440 == b) ps else pick (Str.ofString "-") (fun b => Builtin.bitAnd md b == b) ps
noncomputable def signsOf (md : Int) : List Str := tbl.mapIdx (sign md)

theorem pick_mem {S : Str → Prop} {d : Str} {ok : Int → Bool} (hd : S d) : ∀ {ps : List (Int × Str)}, (∀ p ∈ ps, S p.2) → S (pick d ok ps)
  | [], _ => hd
  | p :: ps, h => by
    unfold pick
    split
    · exact h p (.head _)
    · exact pick_mem hd fun q hq => h q (.tail _ hq)
theorem tbl_one : ∀ ps ∈ tbl, ∀ p ∈ ps, p.2.length = 1 := by decide
theorem sign_one {md : Int} {i : Nat} {ps : List (Int × Str)} (h : ps ∈ tbl) : (sign md i ps).length = 1 := by
  unfold sign
  split
  · exact pick_mem (S := fun c => c.length = 1) (by decide) (tbl_one ps h)
  · exact pick_mem (S := fun c => c.length = 1) (by decide) (tbl_one ps h)
theorem signs_one {md : Int} : ∀ c ∈ signsOf md, c.length = 1 := by
  intro c hc
  obtain ⟨i, hi, rfl⟩ := List.mem_mapIdx.mp hc
  exact sign_one (List.getElem_mem _)
theorem signs_len {md : Int} : (signsOf md).length = 10 := by simp [signsOf, tbl]
theorem signs_take {md : Int} {i : Nat} {ps : List (Int × Str)} (h : tbl[i]? = some ps) : (signsOf md).take (i + 1) = (signsOf md).take i ++ [sign md i ps] := by
  rw [List.take_add_one]
  unfold signsOf
  rw [List.getElem?_mapIdx, h]; rfl
theorem sign_hit {md : Int} {i j : Nat} {ps : List (Int × Str)} {b : Int} {c : Str} (h : ps[j]? = some (b, c)) (hb : if i = 0 then Builtin.bitAnd md 61440 = b else Builtin.bitAnd md b = b) : sign md i (ps.drop j) = c := by
  obtain ⟨hj, e⟩ := List.getElem?_eq_some_iff.mp h
  rw [List.drop_eq_getElem_cons hj, e]
  unfold sign pick
  split at hb
  · simp [*]
  · simp [*]
theorem sign_miss {md : Int} {i j : Nat} {ps : List (Int × Str)} {b : Int} {c : Str} (h : ps[j]? = some (b, c)) (hb : if i = 0 then Builtin.bitAnd md 61440 ≠ b else Builtin.bitAnd md b ≠ b) : sign md i (ps.drop j) = sign md i (ps.drop (j + 1)) := by
  obtain ⟨hj, e⟩ := List.getElem?_eq_some_iff.mp h
  rw [List.drop_eq_getElem_cons hj, e]
  unfold sign
  split at hb
  · simp [*, pick]
  · simp [*, pick]
set_option maxRecDepth 100000 in
set_option maxHeartbeats 8000000 in
theorem filemode {w : World} {mean : ExcName → Option Value} {mg mb : Str → Option Value} {A₀ A : Around} {base h₀ : Heap} {outer : List Env} {env : Env} {L : Addr} {m : Str → Option Value} {s : Shared}
   {news : List (Addr × Obj)} {md : Int} {t : Tok}  {R : Result → Shared → Prop}
   (B : Below A₀ base outer h₀) (F : Fr h₀ L s.heap m) (X : (hd.heap_39 w.params).In h₀) (N : News h₀ L s.heap news) (T : Top hd.view_39 LW mean mg mb h₀)
   (hA : A.frames = some (env :: outer)) (hf : env.frame = some L) (hke : env.scope.kind = .function) (hroom : A.depth + 1 < recursionLimit) (hu : A.units + 8 < cLine) (hh : A.handled = none)
   (hR : ∀ h' tk t', Fr h₀ L h' m → News h₀ L h' news → R (.ok (.ret (.str (Txt.join (Str.ofString "") (signsOf md)) t'))) { s with heap := h', toks := tk }) :
   codeAny (model PR w) A (.call (.ref 96) ⟨[.int md t], []⟩) R s := by
  refine' enter B F X N T hA hf hke ?k6 ?k7 (by omega) ?k9 ?kB ?_ ?c2 ?c3 ?c4 ?c5
  (((case k6 => k_is); (case k7 => k_is);  (case k9 => exact BindsTo.of_eq rfl); (case c5 => decide); (case kB => exact locs rfl); (case c2 => exact rfl); (case c3 => exact rfl); (case c4 => exact rfl); k_whole))
  intro g' L' h' tk F' N' B' X' T'; (try dsimp only)
  (repeat' (first | (k_unfold; (try dsimp only)) | (((fail_if_success (with_reducible first | show wpAny _ _ (exec (Stmt.While _ _ _ _) _) _ _ _ | show wpAny _ _ (call (Value.ref _) _ _) _ _ _ | show wpAny _ _ (exec (Stmt.For _ _ _ _ _) _) _ _ _ | show wpAny _ _ (call (Value.builtin "list.append") _ _) _ _ _ | show wpAny _ _ (eval (Expr.ListComp _ _ _ _) _) _ _ _))); first | walk1 | (dsimp only; walk1))))
  rename Fr g' L' _ _ => F₁
  rename News g' L' _ _ => N₁
  refine For_turns F₁ ?_
  (repeat' (first | (k_unfold; (try dsimp only)) | (((fail_if_success (with_reducible first | show wpAny _ _ (exec (Stmt.While _ _ _ _) _) _ _ _ | show wpAny _ _ (call (Value.ref _) _ _) _ _ _ | show wpAny _ _ (exec (Stmt.For _ _ _ _ _) _) _ _ _ | show wpAny _ _ (call (Value.builtin "list.append") _ _) _ _ _ | show wpAny _ _ (eval (Expr.ListComp _ _ _ _) _) _ _ _))); first | walk1 | (dsimp only; walk1))))
  obtain ⟨vs, hT, hA2⟩ := t89 X'
  rename_i P _ l₁ h₁
  refine iter_enum_tup F₁ N₁ hT hh (fun i m' news' => ∃ oP vs', news' = (P, oP) :: news ∧ isL oP vs' ∧ StrsAre vs' ((signsOf md).take i) ∧ m' (Str.ofString "perm") = some (.ref P) ∧ m' (Str.ofString "mode") = some (.int md t)) ⟨_, _, rfl, ⟨0, rfl⟩, .nil, rfl, rfl⟩ ?_ ?_
  · rintro i x T tt m₁ news₁ h₃ tk₃ I own hx ⟨oP, vs', rfl, hl, hS, hp, hm⟩ hnI hlt hown isT F₃ N₃
    obtain ⟨no, rfl⟩ := hl
    obtain ⟨oP, hoP⟩ : ∃ o, o = W.listOf vs'.toArray no := ⟨_, rfl⟩
    rw [← hoP] at hnI N₃
    replace F₃ : Fr g' L' h₃ m₁ := F₃
    replace N₃ : News g' L' h₃ (own ++ (P, oP) :: news) := N₃
    obtain ⟨tl, htl⟩ : ∃ tl, tl = own ++ news := ⟨_, rfl⟩
    replace N₃ : News g' L' h₃ ((P, oP) :: tl) := PyProof.Rows.News.perm N₃ (by subst htl; intro p hp; simp only [List.mem_cons, List.mem_append] at hp ⊢; grind)
    have hna : ∀ p ∈ tl, p.1 ≠ P := by
      subst htl
      intro p hp e
      rcases List.mem_append.mp hp with h | h
      · have h1 := hown p h
        have h2 := hlt (P, W.listOf #[] 0) (.head _)
        exact no1 h2 (e ▸ h1)
      · exact no2 (l₁ p h) e
    rw [map2 hp hm] at F₃
    obtain ⟨ps, hps, a, us, rfl, hTa, hAa⟩ := hA2.get i x (by simpa using hx)
    have hend : ∀ h tk o' m' c t', isL o' (vs' ++ [.str c t']) → c = sign md i ps → m' (Str.ofString "perm") = some (.ref P) → m' (Str.ofString "mode") = some (.int md t) → Fr g' L' h m' → News g' L' h ((P, o') :: tl) →
        ∃ h' tk' m'' news'', ({ s with heap := h, toks := tk } : Shared) = { s with heap := h', toks := tk' } ∧ Fr g' L' h' m'' ∧ News g' L' h' (own ++ news'') ∧ (∀ p ∈ news'', p.1 ∉ [I + 1, I]) ∧
          ∃ oP vs', news'' = (P, oP) :: news ∧ isL oP vs' ∧ StrsAre vs' ((signsOf md).take (i + 1)) ∧ m'' (Str.ofString "perm") = some (.ref P) ∧ m'' (Str.ofString "mode") = some (.int md t) := by
      intro h tk o' m' c t' hl hc hp hm F N
      refine ⟨h, tk, m', (P, o') :: news, rfl, F, ?_, ?_, o', _, rfl, hl, ?_, hp, hm⟩
      · refine PyProof.Rows.News.perm N fun p hp => ?_
        subst htl
        simp only [List.mem_cons, List.mem_append] at hp ⊢
        grind
      · intro p hp
        rcases List.mem_cons.mp hp with rfl | hp
        · exact hnI (P, oP) (.head _)
        · exact hnI p (.tail _ hp)
      · rw [signs_take hps, hc]; exact PySem.W.KStt.strs_snoc hS
    have hsz : vs'.length < 100 := by
      have h1 := PyProof.Rows.StrsAre.length hS
      rw [List.length_take] at h1
      have h2 : (signsOf md).length = 10 := by simp [signsOf, tbl]
      omega
    refine unpackN_ F₃ N₃ isT (by exact hh) rfl rfl ?_
    clear F₃ N₃
    intro h₄ F₄ N₄
    (repeat' (first | (k_unfold; (try dsimp only)) | (((fail_if_success (with_reducible first | show wpAny _ _ (exec (Stmt.While _ _ _ _) _) _ _ _ | show wpAny _ _ (call (Value.ref _) _ _) _ _ _ | show wpAny _ _ (exec (Stmt.For _ _ _ _ _) _) _ _ _ | show wpAny _ _ (call (Value.builtin "list.append") _ _) _ _ _ | show wpAny _ _ (eval (Expr.ListComp _ _ _ _) _) _ _ _))); first | walk1 | (dsimp only; walk1))))
    refine wpAny_For ?_
    (repeat' (first | (k_unfold; (try dsimp only)) | (((fail_if_success (with_reducible first | show wpAny _ _ (exec (Stmt.While _ _ _ _) _) _ _ _ | show wpAny _ _ (call (Value.ref _) _ _) _ _ _ | show wpAny _ _ (exec (Stmt.For _ _ _ _ _) _) _ _ _ | show wpAny _ _ (call (Value.builtin "list.append") _ _) _ _ _ | show wpAny _ _ (eval (Expr.ListComp _ _ _ _) _) _ _ _))); first | walk1 | (dsimp only; walk1))))
    rename Fr g' L' _ _ => F₅
    rename News g' L' _ _ => N₅
    refine for_else_tup F₅ N₅ hTa hh (by passes_own) (fun j m' news' => news' = (P, oP) :: tl ∧ m' (Str.ofString "index") = some (.int (i : Int) tt) ∧ m' (Str.ofString "perm") = some (.ref P) ∧ m' (Str.ofString "mode") = some (.int md t) ∧ sign md i ps = sign md i (ps.drop j)) ⟨rfl, rfl, rfl, rfl, rfl⟩ ?_ ?_
    · rintro j y m₆ news₆ h₆ tk₆ J own' hy ⟨rfl, hi6, hp6, hm6, hs6⟩ hnJ hltJ hownJ F₆ N₆
      replace F₆ : Fr g' L' h₆ m₆ := F₆
      replace N₆ : News g' L' h₆ (own' ++ (P, oP) :: tl) := N₆
      obtain ⟨tl2, htl2⟩ : ∃ tl2, tl2 = own' ++ tl := ⟨_, rfl⟩
      replace N₆ : News g' L' h₆ ((P, oP) :: tl2) := PyProof.Rows.News.perm N₆ (by subst htl2; intro p hp; simp only [List.mem_cons, List.mem_append] at hp ⊢; grind)
      rw [map3 hi6 hp6 hm6] at F₆
      obtain ⟨⟨bit, ch⟩, hpj, b, t1, t2, rfl, isT2⟩ := hAa.get j y (by simpa using hy)
      refine unpackN_ F₆ N₆ (isT2.keeps F₆.keep) (by exact hh) rfl rfl ?_
      clear F₆ N₆
      intro h₇ F₇ N₇
      have hna2 : ∀ p ∈ tl2, p.1 ≠ P := by
        subst htl2
        intro p hp e
        rcases List.mem_append.mp hp with h | h
        · exact no2 (hltJ (P, oP) (.head _)) (e ▸ hownJ p h)
        · exact hna p h e
      have hback : ∀ h o, News g' L' h ((P, o) :: tl2) → News g' L' h ((P, o) :: tl) := fun h o N => PyProof.Rows.News.perm N (by subst htl2; intro p hp; simp only [List.mem_cons, List.mem_append] at hp ⊢; grind)
      have hback2 : ∀ h o, News g' L' h ((P, o) :: tl2) → News g' L' h (own' ++ (P, o) :: tl) := fun h o N => PyProof.Rows.News.perm N (by subst htl2; intro p hp; simp only [List.mem_cons, List.mem_append] at hp ⊢; grind)
      subst hoP
      (repeat' (first | (k_unfold; (try dsimp only)) | (((fail_if_success (with_reducible first | show wpAny _ _ (exec (Stmt.While _ _ _ _) _) _ _ _ | show wpAny _ _ (call (Value.ref _) _ _) _ _ _ | show wpAny _ _ (exec (Stmt.For _ _ _ _ _) _) _ _ _ | show wpAny _ _ (call (Value.builtin "list.append") _ _) _ _ _ | show wpAny _ _ (eval (Expr.ListComp _ _ _ _) _) _ _ _))); first | walk1 | (dsimp only; walk1))))
      · rename Fr g' L' _ _ => F₈
        rename News g' L' _ _ => N₈
        rename ((i : Int) = 0) => hi0
        refine wpAny_call (sifmt B' F₈ X' N₈ T' (Around.frames_deeper B'.stack) rfl rfl (by show A.depth + 1 < recursionLimit; omega) (by show A.units + 3 + 5 < cLine; omega) fun h₉ tk₉ t₉ F₉ N₉ => ?_)
        (repeat' (first | (k_unfold; (try dsimp only)) | (((fail_if_success (with_reducible first | show wpAny _ _ (exec (Stmt.While _ _ _ _) _) _ _ _ | show wpAny _ _ (call (Value.ref _) _ _) _ _ _ | show wpAny _ _ (exec (Stmt.For _ _ _ _ _) _) _ _ _ | show wpAny _ _ (call (Value.builtin "list.append") _ _) _ _ _ | show wpAny _ _ (eval (Expr.ListComp _ _ _ _) _) _ _ _))); first | walk1 | (dsimp only; walk1))))
        · rename (Builtin.bitAnd md 61440 = _) => hb
          refine app_list F₉ N₉ ⟨no, rfl⟩ hna2 hsz fun ha oa la Fa Na => ?_
          (repeat' (first | (k_unfold; (try dsimp only)) | (((fail_if_success (with_reducible first | show wpAny _ _ (exec (Stmt.While _ _ _ _) _) _ _ _ | show wpAny _ _ (call (Value.ref _) _ _) _ _ _ | show wpAny _ _ (exec (Stmt.For _ _ _ _ _) _) _ _ _ | show wpAny _ _ (call (Value.builtin "list.append") _ _) _ _ _ | show wpAny _ _ (eval (Expr.ListComp _ _ _ _) _) _ _ _))); first | walk1 | (dsimp only; walk1))))
          exact wpAny_execs_nil (M := model PR w) (hend _ _ _ _ _ _ la (hs6.trans (sign_hit hpj (by rw [if_pos (by omega)]; exact hb))).symm rfl rfl Fa (hback _ _ Na))
        · rename (Builtin.bitAnd md 61440 ≠ _) => hb
          exact ⟨_, _, _, _, rfl, F₉, hback2 _ _ N₉, hnJ, rfl, rfl, rfl, rfl, hs6.trans (sign_miss hpj (by rw [if_pos (by omega)]; exact hb))⟩
      · rename Fr g' L' _ _ => F₉
        rename News g' L' _ _ => N₉
        rename ((i : Int) ≠ 0) => hi0
        rename (Builtin.bitAnd md _ = _) => hb
        refine app_list F₉ N₉ ⟨no, rfl⟩ hna2 hsz fun ha oa la Fa Na => ?_
        (repeat' (first | (k_unfold; (try dsimp only)) | (((fail_if_success (with_reducible first | show wpAny _ _ (exec (Stmt.While _ _ _ _) _) _ _ _ | show wpAny _ _ (call (Value.ref _) _ _) _ _ _ | show wpAny _ _ (exec (Stmt.For _ _ _ _ _) _) _ _ _ | show wpAny _ _ (call (Value.builtin "list.append") _ _) _ _ _ | show wpAny _ _ (eval (Expr.ListComp _ _ _ _) _) _ _ _))); first | walk1 | (dsimp only; walk1))))
        exact wpAny_execs_nil (M := model PR w) (hend _ _ _ _ _ _ la (hs6.trans (sign_hit hpj (by rw [if_neg (by omega)]; exact hb))).symm rfl rfl Fa (hback _ _ Na))
      · rename Fr g' L' _ _ => F₉
        rename News g' L' _ _ => N₉
        rename ((i : Int) ≠ 0) => hi0
        rename (Builtin.bitAnd md _ ≠ _) => hb
        exact ⟨_, _, _, _, rfl, F₉, hback2 _ _ N₉, hnJ, rfl, rfl, rfl, rfl, hs6.trans (sign_miss hpj (by rw [if_neg (by omega)]; exact hb))⟩
    · rintro m₆ news₆ ⟨rfl, hi6, hp6, hm6, hs6⟩ h₆ tk₆ F₆ N₆
      replace F₆ : Fr g' L' h₆ m₆ := F₆
      replace N₆ : News g' L' h₆ ((P, oP) :: tl) := N₆
      rw [map3 hi6 hp6 hm6] at F₆
      rw [List.size_toArray, hAa.len, List.drop_length] at hs6
      subst hoP
      (repeat' (first | (k_unfold; (try dsimp only)) | (((fail_if_success (with_reducible first | show wpAny _ _ (exec (Stmt.While _ _ _ _) _) _ _ _ | show wpAny _ _ (call (Value.ref _) _ _) _ _ _ | show wpAny _ _ (exec (Stmt.For _ _ _ _ _) _) _ _ _ | show wpAny _ _ (call (Value.builtin "list.append") _ _) _ _ _ | show wpAny _ _ (eval (Expr.ListComp _ _ _ _) _) _ _ _))); first | walk1 | (dsimp only; walk1))))
      · rename Fr g' L' _ _ => F₉
        rename News g' L' _ _ => N₉
        rename ((i : Int) = 0) => hi0
        refine app_list F₉ N₉ ⟨no, rfl⟩ hna hsz fun ha oa la Fa Na => ?_
        (repeat' (first | (k_unfold; (try dsimp only)) | (((fail_if_success (with_reducible first | show wpAny _ _ (exec (Stmt.While _ _ _ _) _) _ _ _ | show wpAny _ _ (call (Value.ref _) _ _) _ _ _ | show wpAny _ _ (exec (Stmt.For _ _ _ _ _) _) _ _ _ | show wpAny _ _ (call (Value.builtin "list.append") _ _) _ _ _ | show wpAny _ _ (eval (Expr.ListComp _ _ _ _) _) _ _ _))); first | walk1 | (dsimp only; walk1))))
        exact hend _ _ _ _ _ _ la (hs6.trans (by unfold sign; rw [if_pos (by omega)]; rfl)).symm rfl rfl Fa Na
      · rename Fr g' L' _ _ => F₉
        rename News g' L' _ _ => N₉
        rename ((i : Int) ≠ 0) => hi0
        refine app_list F₉ N₉ ⟨no, rfl⟩ hna hsz fun ha oa la Fa Na => ?_
        (repeat' (first | (k_unfold; (try dsimp only)) | (((fail_if_success (with_reducible first | show wpAny _ _ (exec (Stmt.While _ _ _ _) _) _ _ _ | show wpAny _ _ (call (Value.ref _) _ _) _ _ _ | show wpAny _ _ (exec (Stmt.For _ _ _ _ _) _) _ _ _ | show wpAny _ _ (call (Value.builtin "list.append") _ _) _ _ _ | show wpAny _ _ (eval (Expr.ListComp _ _ _ _) _) _ _ _))); first | walk1 | (dsimp only; walk1))))
        exact hend _ _ _ _ _ _ la (hs6.trans (by unfold sign; rw [if_neg (by omega)]; rfl)).symm rfl rfl Fa Na
  · rintro m₆ news₆ ⟨oP, vs', rfl, hl, hS, hp, hm⟩ h₆ tk₆ F₆ N₆
    replace F₆ : Fr g' L' h₆ m₆ := F₆
    replace N₆ : News g' L' h₆ ((P, oP) :: news) := N₆
    rw [map2 hp hm] at F₆
    obtain ⟨no, rfl⟩ := hl
    (repeat' (first | (k_unfold; (try dsimp only)) | (((fail_if_success (with_reducible first | show wpAny _ _ (exec (Stmt.While _ _ _ _) _) _ _ _ | show wpAny _ _ (call (Value.ref _) _ _) _ _ _ | show wpAny _ _ (exec (Stmt.For _ _ _ _ _) _) _ _ _ | show wpAny _ _ (call (Value.builtin "list.append") _ _) _ _ _ | show wpAny _ _ (eval (Expr.ListComp _ _ _ _) _) _ _ _))); first | walk1 | (dsimp only; walk1))))
    rw [List.size_toArray, hA2.len, show tbl.length = (signsOf md).length from signs_len.symm, List.take_length] at hS
    refine join_listW (N₆.isList (.head _)) (ys := signsOf md) hS (by decide) (by rw [PyProof.Rows.sumLen_of_ones _ signs_one, signs_len]; decide) ?_
    (repeat' (first | (k_unfold; (try dsimp only)) | (((fail_if_success (with_reducible first | show wpAny _ _ (exec (Stmt.While _ _ _ _) _) _ _ _ | show wpAny _ _ (call (Value.ref _) _ _) _ _ _ | show wpAny _ _ (exec (Stmt.For _ _ _ _ _) _) _ _ _ | show wpAny _ _ (call (Value.builtin "list.append") _ _) _ _ _ | show wpAny _ _ (eval (Expr.ListComp _ _ _ _) _) _ _ _))); first | walk1 | (dsimp only; walk1))))
    rename News h₀ L _ (_ :: _) => kN
    exact hR _ _ _ (by assumption) (PyProof.Rows.News.perm kN fun p hp => .tail _ hp)

end

section
/-! part M8 -/
theorem fillx8 : PySem.Challenge.rw_ny0133_01 = PySem.Challenge.rw_ny0133_01 ∧ hd.heap_39 = hd.heap_39 := by k_fill; w_top off; exact ⟨rfl, rfl⟩

section
variable {prog : Program} {w : World} {A : Around} {E : Value → Shared → Prop} {s : Shared} {env : Env} {h₀ : Heap} {target : Expr} {body : List Stmt} {Q : Flow → Shared → Prop}
/-- a for over a list, by an invariant -/
theorem items_list {ws : List (Addr × String)} {keep : List (Addr × Obj)} {vs : List Value} {m : Str → Option Value} {news : List (Addr × Obj)} (Inv : Nat → (Str → Option Value) → List (Addr × Obj) → Prop) (h0 : Inv 0 m news)
    (step : ∀ i v m' news', vs[i]? = some v → Inv i m' news' → ∀ h tk, Fr h₀ env.locals h m' → AllObj ws (fun its => News h₀ env.locals h (its ++ news') →
      wpAny (model prog w) A (assign target env v) (fun _ s₂ => wpAny (model prog w) A (execs body env) (UnrPostW h₀ env.locals { s with heap := h, toks := tk } its (fun m'' n'' => SubL keep n'' ∧ Inv (i + 1) m'' n'') Q) E s₂) E { s with heap := h, toks := tk }))
    (fin : ∀ m' news', Inv vs.length m' news' → ∀ h tk, Fr h₀ env.locals h m' → News h₀ env.locals h news' → Q .next { s with heap := h, toks := tk }) :
    ItemsRest prog w A E h₀ env target body Q s ws keep (vs.map .val) m news := by
  suffices H : ∀ (rest : List Value) (i : Nat), vs.drop i = rest → i ≤ vs.length → ∀ m' news', Inv i m' news' → ItemsRest prog w A E h₀ env target body Q s ws keep (rest.map .val) m' news' from H vs 0 (by simp) (Nat.zero_le _) m news h0
  intro rest
  induction rest with
  | nil =>
    intro i hi hle m' news' hI
    have hl : vs.length ≤ i := List.drop_eq_nil_iff.mp hi
    refine ItemsRest.zero fun h tk F N => ?_
    obtain rfl : i = vs.length := by omega
    exact fin _ _ hI h tk F N
  | cons v r ih =>
    intro i hi hle m' news' hI
    have hv : vs[i]? = some v := by
      have := congrArg (·[0]?) hi
      simpa using this
    have hr : vs.drop (i + 1) = r := by
      rw [← List.drop_drop, hi]; rfl
    refine ItemsRest.val fun h tk F => ?_
    refine allObj_mono (fun its k N => ?_) (step i v m' news' hv hI h tk F)
    refine wpAny_mono (k N) (fun _ s₂ h₂ => wpAny_mono h₂ (fun f s₃ h₃ => ?_) fun _ _ x => x) fun _ _ x => x
    exact unrPost_mono (fun m n x => ⟨x.1, ih (i + 1) hr (by have := (List.getElem?_eq_some_iff.mp hv).1; omega) m n x.2⟩) h₃
end
theorem add_item {w : World} {A : Around} {E : Value → Shared → Prop} {s : Shared} {S x : Str} {i : Int} {t u : Tok} {Q : Value → Shared → Prop} (hS : S.length ≤ 20)
    (h : ∀ t' k S', S' = S ++ Txt.item x i → S'.length = S.length + 1 → Q (.str S' t') { s with toks := k }) : wpAny (model PR w) A (binaryOp .Add (.str S t) (.str (Txt.item x i) u)) Q E s := by
  refine add_str (fun t' k => h t' k _ rfl ?_) ?_
  · rw [Str.length_append, len_item]
  · rw [len_item, sizeLine_eq]; omega
theorem fm2 (x : Int) : 0 ≤ x.fmod 2 ∧ x.fmod 2 < 2 := by rw [Int.fmod_eq_emod_of_nonneg _ (by decide)]; omega
theorem fm8 (x : Int) : 0 ≤ x.fmod 8 ∧ x.fmod 8 < 8 := by rw [Int.fmod_eq_emod_of_nonneg _ (by decide)]; omega
theorem fd4 {x : Int} (h : 0 ≤ x ∧ x < 8) : 0 ≤ x.fdiv 4 ∧ x.fdiv 4 < 2 := by rw [Int.fdiv_eq_ediv_of_nonneg _ (by decide)]; omega
theorem ix4 (x : Int) : -((2 : Nat) : Int) ≤ (x.fmod 8).fdiv 4 ∧ (x.fmod 8).fdiv 4 < ((2 : Nat) : Int) := by have := fd4 (fm8 x); omega
theorem ix2 (x : Int) : -((2 : Nat) : Int) ≤ x.fmod 2 ∧ x.fmod 2 < ((2 : Nat) : Int) := by have := fm2 x; omega
theorem ixm (x y : Int) : -((4 : Nat) : Int) ≤ x.fmod 2 * 2 + y.fmod 2 ∧ x.fmod 2 * 2 + y.fmod 2 < ((4 : Nat) : Int) := by have := fm2 x; have := fm2 y; omega
/-- one statement first, whatever way it takes -/
theorem cut_cons {M : Model} {A : Around} {env : Env} {st : Stmt} {rest : List Stmt} (Q₁ : Shared → Prop) {Q : Flow → Shared → Prop} {E : Value → Shared → Prop} {s : Shared} (h : wpAny M A (exec st env) (fun f s' => f = .next ∧ Q₁ s') E s) (h2 : ∀ s, Q₁ s → wpAny M A (execs rest env) Q E s) : wpAny M A (execs (st :: rest) env) Q E s :=
  wpAny_execs_cons (wpAny_mono h (fun f s x => by obtain ⟨rfl, x⟩ := x; exact h2 s x) fun _ _ x => x)
/-- the kind's letter -/
noncomputable def kindL (md : Int) : Str :=
  if md.fdiv 4096 = 8 then Str.ofString "-" else if md.fdiv 4096 = 6 then Str.ofString "b" else if md.fdiv 4096 = 2 then Str.ofString "c" else if md.fdiv 4096 = 4 then Str.ofString "d" else
  if md.fdiv 4096 = 10 then Str.ofString "l" else if md.fdiv 4096 = 1 then Str.ofString "p" else if md.fdiv 4096 = 12 then Str.ofString "s" else Str.ofString "?"
/-- a class's three signs behind a text -/
noncomputable def addT (S : Str) (md : Int) (p : Int) (mk : Str) : Str :=
  S ++ Txt.item (Str.ofString "-r") (((md.fdiv (8 ^ p.toNat)).fmod 8).fdiv 4) ++ Txt.item (Str.ofString "-w") ((((md.fdiv (8 ^ p.toNat)).fmod 8).fdiv 2).fmod 2) ++ Txt.item mk ((md.fdiv (512 * 2 ^ p.toNat)).fmod 2 * 2 + ((md.fdiv (8 ^ p.toNat)).fmod 8).fmod 2)
noncomputable def lsg1 (md : Int) : Str := addT (kindL md) md 2 (Str.ofString "-xSs")
noncomputable def lsg2 (md : Int) : Str := addT (lsg1 md) md 1 (Str.ofString "-xSs")
noncomputable def lsg3 (md : Int) : Str := addT (lsg2 md) md 0 (Str.ofString "-xTt")
noncomputable def lsg (md : Int) : Nat → Str
  | 0 => kindL md
  | 1 => lsg1 md
  | 2 => lsg2 md
  | _ => lsg3 md
set_option maxRecDepth 100000 in
set_option maxHeartbeats 8000000 in
theorem lsigns {w : World} {mean : ExcName → Option Value} {mg mb : Str → Option Value} {A₀ A : Around} {base h₀ : Heap} {outer : List Env} {env : Env} {L : Addr} {m : Str → Option Value} {s : Shared}
   {news : List (Addr × Obj)} {md : Int} {t : Tok}  {R : Result → Shared → Prop}
   (B : Below A₀ base outer h₀) (F : Fr h₀ L s.heap m) (X : (hd.heap_39 w.params).In h₀) (N : News h₀ L s.heap news) (T : Top hd.view_39 LW mean mg mb h₀)
   (hA : A.frames = some (env :: outer)) (hf : env.frame = some L) (hke : env.scope.kind = .function) (hroom : A.depth + 1 < recursionLimit) (hu : A.units + 8 < cLine) (hh : A.handled = none)
   (hR : ∀ h' tk t', Fr h₀ L h' m → News h₀ L h' news → R (.ok (.ret (.str (lsg3 md) t'))) { s with heap := h', toks := tk }) :
   codeAny (model PR w) A (.call (.ref 108) ⟨[.int md t], []⟩) R s := by
  refine' enter B F X N T hA hf hke ?k6 ?k7 (by omega) ?k9 ?kB ?_ ?c2 ?c3 ?c4 ?c5
  (((case k6 => k_is); (case k7 => k_is);  (case k9 => exact BindsTo.of_eq rfl); (case c5 => decide); (case kB => exact locs rfl); (case c2 => exact rfl); (case c3 => exact rfl); (case c4 => exact rfl); k_whole))
  intro g' L' h' tk F' N' B' X' T'; (try dsimp only)
  obtain ⟨Q₁, hQ₁⟩ : ∃ Q₁ : Shared → Prop, Q₁ = fun s' => ∃ h₂ tk₂ t₂ m₂, s' = { s with heap := h₂, toks := tk₂ } ∧ Fr g' L' h₂ m₂ ∧ m₂ (Str.ofString "signs") = some (.str (kindL md) t₂) ∧ m₂ (Str.ofString "mode") = some (.int md t) ∧ News g' L' h₂ news := ⟨_, rfl⟩
  refine cut_cons Q₁ ?_ ?_
  · (repeat' (first | (k_unfold; (try dsimp only)) | (((fail_if_success (with_reducible first | show LCg.CompSrc _ _ _ _ _ _ _ _ _ _ _ _ _ _ | show wpAny _ _ (exec (Stmt.While _ _ _ _) _) _ _ _ | show wpAny _ _ (call (Value.ref _) _ _) _ _ _ | show wpAny _ _ (exec (Stmt.For _ _ _ _ _) _) _ _ _ | show wpAny _ _ (call (Value.builtin "list.append") _ _) _ _ _ | show wpAny _ _ (eval (Expr.ListComp _ _ _ _) _) _ _ _ | show wpAny _ _ (subscriptTail _ _ (Value.str _ _) _) _ _ _ | show wpAny _ _ (binaryOp Operator.Add (Value.str _ _) (Value.str _ _)) _ _ _ | show wpAny _ _ (call (Value.builtin "sorted") _ _) _ _ _ | show wpAny _ _ (exec (Stmt.Assign _ (Expr.ListComp _ _ _ _) _) _) _ _ _ | show wpAny _ _ (call (Value.type "range") [_] _) _ _ _ | show wpAny _ _ (call (Value.type "bytes") _ _) _ _ _ | show wpAny _ _ (storeName _ _ (Value.ref _)) _ _ _ | show wpAny _ _ (subscriptTail _ _ (Value.bytes _ _) _) _ _ _ | show wpAny _ _ (subscriptTail _ _ (Value.ref _) _) _ _ _ | show wpAny _ _ (binaryOp _ (Value.ref _) (Value.ref _)) _ _ _ | show wpAny _ _ (compareOp _ (Value.ref _) (Value.ref _)) _ _ _ | show wpAny _ _ (compareOp _ (Value.bytes _ _) (Value.bytes _ _)) _ _ _))); walk1; (try dsimp only))))
    all_goals first
      | exact trivial
      | (rename Fr g' L' _ _ => F₂; rename News g' L' _ _ => N₂; rw [hQ₁]
         exact ⟨_, _, _, _, rfl, F₂, congrArg (fun c => some (Value.str c _)) (by unfold kindL; (repeat rw [if_neg (by assumption)]); first | done | rfl | (rw [if_pos (by assumption)]; done)), rfl, PyProof.Rows.News.perm N₂ fun p hp => .tail _ hp⟩)
  · intro s' hs'
    rw [hQ₁] at hs'
    obtain ⟨h₂, tk₂, t₂, m₂, rfl, F₂, hsg, hmd', N₂⟩ := hs'
    rw [map2 hsg hmd'] at F₂
    (repeat' (first | (k_unfold; (try dsimp only)) | (((fail_if_success (with_reducible first | show LCg.CompSrc _ _ _ _ _ _ _ _ _ _ _ _ _ _ | show wpAny _ _ (exec (Stmt.While _ _ _ _) _) _ _ _ | show wpAny _ _ (call (Value.ref _) _ _) _ _ _ | show wpAny _ _ (exec (Stmt.For _ _ _ _ _) _) _ _ _ | show wpAny _ _ (call (Value.builtin "list.append") _ _) _ _ _ | show wpAny _ _ (eval (Expr.ListComp _ _ _ _) _) _ _ _ | show wpAny _ _ (subscriptTail _ _ (Value.str _ _) _) _ _ _ | show wpAny _ _ (binaryOp Operator.Add (Value.str _ _) (Value.str _ _)) _ _ _ | show wpAny _ _ (call (Value.builtin "sorted") _ _) _ _ _ | show wpAny _ _ (exec (Stmt.Assign _ (Expr.ListComp _ _ _ _) _) _) _ _ _ | show wpAny _ _ (call (Value.type "range") [_] _) _ _ _ | show wpAny _ _ (call (Value.type "bytes") _ _) _ _ _ | show wpAny _ _ (storeName _ _ (Value.ref _)) _ _ _ | show wpAny _ _ (subscriptTail _ _ (Value.bytes _ _) _) _ _ _ | show wpAny _ _ (subscriptTail _ _ (Value.ref _) _) _ _ _ | show wpAny _ _ (binaryOp _ (Value.ref _) (Value.ref _)) _ _ _ | show wpAny _ _ (compareOp _ (Value.ref _) (Value.ref _)) _ _ _ | show wpAny _ _ (compareOp _ (Value.bytes _ _) (Value.bytes _ _)) _ _ _))); walk1; (try dsimp only))))
    refine For_turns F₂ ?_
    (repeat' (first | (k_unfold; (try dsimp only)) | (((fail_if_success (with_reducible first | show LCg.CompSrc _ _ _ _ _ _ _ _ _ _ _ _ _ _ | show wpAny _ _ (exec (Stmt.While _ _ _ _) _) _ _ _ | show wpAny _ _ (call (Value.ref _) _ _) _ _ _ | show wpAny _ _ (exec (Stmt.For _ _ _ _ _) _) _ _ _ | show wpAny _ _ (call (Value.builtin "list.append") _ _) _ _ _ | show wpAny _ _ (eval (Expr.ListComp _ _ _ _) _) _ _ _ | show wpAny _ _ (subscriptTail _ _ (Value.str _ _) _) _ _ _ | show wpAny _ _ (binaryOp Operator.Add (Value.str _ _) (Value.str _ _)) _ _ _ | show wpAny _ _ (call (Value.builtin "sorted") _ _) _ _ _ | show wpAny _ _ (exec (Stmt.Assign _ (Expr.ListComp _ _ _ _) _) _) _ _ _ | show wpAny _ _ (call (Value.type "range") [_] _) _ _ _ | show wpAny _ _ (call (Value.type "bytes") _ _) _ _ _ | show wpAny _ _ (storeName _ _ (Value.ref _)) _ _ _ | show wpAny _ _ (subscriptTail _ _ (Value.bytes _ _) _) _ _ _ | show wpAny _ _ (subscriptTail _ _ (Value.ref _) _) _ _ _ | show wpAny _ _ (binaryOp _ (Value.ref _) (Value.ref _)) _ _ _ | show wpAny _ _ (compareOp _ (Value.ref _) (Value.ref _)) _ _ _ | show wpAny _ _ (compareOp _ (Value.bytes _ _) (Value.bytes _ _)) _ _ _))); walk1; (try dsimp only))))
    rename Fr g' L' _ _ => F₃
    rename News g' L' _ _ => N₃
    refine iter_listTurns (vs := [_, _, _]) (by exact hh) F₃ N₃ (.head _) rfl rfl fun I hI => ?_
    have hk1 : (kindL md).length = 1 := by unfold kindL; (repeat' split) <;> decide
    refine items_list (fun i m' news' => ∃ S tS, S.length = 1 + 3 * i ∧ S = lsg md i ∧ m' (Str.ofString "signs") = some (.str S tS) ∧ m' (Str.ofString "mode") = some (.int md t) ∧ news' = _ :: news) ⟨_, _, hk1, rfl, rfl, rfl, rfl⟩ ?_ ?_
    · rintro i v m₄ news₄ hv ⟨S, tS, hSl, hSe, hS, hm4, rfl⟩ h₄ tk₄ F₄
      refine .cons fun o1 hc1 => .nil fun N₄ => ?_
      simp only [List.cons_append, List.nil_append] at N₄
      replace F₄ : Fr g' L' h₄ m₄ := F₄
      replace N₄ : News g' L' h₄ _ := N₄
      rw [map2 hS hm4] at F₄
      have hi : i < 3 := (List.getElem?_eq_some_iff.mp hv).1
      have hSl' : S.length ≤ 7 := by omega
      obtain rfl | rfl | rfl : i = 0 ∨ i = 1 ∨ i = 2 := by omega
      · obtain rfl := Option.some.inj hv
        (repeat' (first | (k_unfold; (try dsimp only)) | (((fail_if_success (with_reducible first | show LCg.CompSrc _ _ _ _ _ _ _ _ _ _ _ _ _ _ | show wpAny _ _ (exec (Stmt.While _ _ _ _) _) _ _ _ | show wpAny _ _ (call (Value.ref _) _ _) _ _ _ | show wpAny _ _ (exec (Stmt.For _ _ _ _ _) _) _ _ _ | show wpAny _ _ (call (Value.builtin "list.append") _ _) _ _ _ | show wpAny _ _ (eval (Expr.ListComp _ _ _ _) _) _ _ _ | show wpAny _ _ (subscriptTail _ _ (Value.str _ _) _) _ _ _ | show wpAny _ _ (binaryOp Operator.Add (Value.str _ _) (Value.str _ _)) _ _ _ | show wpAny _ _ (call (Value.builtin "sorted") _ _) _ _ _ | show wpAny _ _ (exec (Stmt.Assign _ (Expr.ListComp _ _ _ _) _) _) _ _ _ | show wpAny _ _ (call (Value.type "range") [_] _) _ _ _ | show wpAny _ _ (call (Value.type "bytes") _ _) _ _ _ | show wpAny _ _ (storeName _ _ (Value.ref _)) _ _ _ | show wpAny _ _ (subscriptTail _ _ (Value.bytes _ _) _) _ _ _ | show wpAny _ _ (subscriptTail _ _ (Value.ref _) _) _ _ _ | show wpAny _ _ (binaryOp _ (Value.ref _) (Value.ref _)) _ _ _ | show wpAny _ _ (compareOp _ (Value.ref _) (Value.ref _)) _ _ _ | show wpAny _ _ (compareOp _ (Value.bytes _ _) (Value.bytes _ _)) _ _ _))); walk1; (try dsimp only))))
        refine KXi.item (n := 2) rfl (ix4 _).1 (ix4 _).2 (by decide) fun _ => ?_
        (repeat' (first | (k_unfold; (try dsimp only)) | (((fail_if_success (with_reducible first | show LCg.CompSrc _ _ _ _ _ _ _ _ _ _ _ _ _ _ | show wpAny _ _ (exec (Stmt.While _ _ _ _) _) _ _ _ | show wpAny _ _ (call (Value.ref _) _ _) _ _ _ | show wpAny _ _ (exec (Stmt.For _ _ _ _ _) _) _ _ _ | show wpAny _ _ (call (Value.builtin "list.append") _ _) _ _ _ | show wpAny _ _ (eval (Expr.ListComp _ _ _ _) _) _ _ _ | show wpAny _ _ (subscriptTail _ _ (Value.str _ _) _) _ _ _ | show wpAny _ _ (binaryOp Operator.Add (Value.str _ _) (Value.str _ _)) _ _ _ | show wpAny _ _ (call (Value.builtin "sorted") _ _) _ _ _ | show wpAny _ _ (exec (Stmt.Assign _ (Expr.ListComp _ _ _ _) _) _) _ _ _ | show wpAny _ _ (call (Value.type "range") [_] _) _ _ _ | show wpAny _ _ (call (Value.type "bytes") _ _) _ _ _ | show wpAny _ _ (storeName _ _ (Value.ref _)) _ _ _ | show wpAny _ _ (subscriptTail _ _ (Value.bytes _ _) _) _ _ _ | show wpAny _ _ (subscriptTail _ _ (Value.ref _) _) _ _ _ | show wpAny _ _ (binaryOp _ (Value.ref _) (Value.ref _)) _ _ _ | show wpAny _ _ (compareOp _ (Value.ref _) (Value.ref _)) _ _ _ | show wpAny _ _ (compareOp _ (Value.bytes _ _) (Value.bytes _ _)) _ _ _))); walk1; (try dsimp only))))
        refine add_item (Nat.le_trans hSl' (by decide)) fun t5 k5 S5 e5 l5 => ?_
        (repeat' (first | (k_unfold; (try dsimp only)) | (((fail_if_success (with_reducible first | show LCg.CompSrc _ _ _ _ _ _ _ _ _ _ _ _ _ _ | show wpAny _ _ (exec (Stmt.While _ _ _ _) _) _ _ _ | show wpAny _ _ (call (Value.ref _) _ _) _ _ _ | show wpAny _ _ (exec (Stmt.For _ _ _ _ _) _) _ _ _ | show wpAny _ _ (call (Value.builtin "list.append") _ _) _ _ _ | show wpAny _ _ (eval (Expr.ListComp _ _ _ _) _) _ _ _ | show wpAny _ _ (subscriptTail _ _ (Value.str _ _) _) _ _ _ | show wpAny _ _ (binaryOp Operator.Add (Value.str _ _) (Value.str _ _)) _ _ _ | show wpAny _ _ (call (Value.builtin "sorted") _ _) _ _ _ | show wpAny _ _ (exec (Stmt.Assign _ (Expr.ListComp _ _ _ _) _) _) _ _ _ | show wpAny _ _ (call (Value.type "range") [_] _) _ _ _ | show wpAny _ _ (call (Value.type "bytes") _ _) _ _ _ | show wpAny _ _ (storeName _ _ (Value.ref _)) _ _ _ | show wpAny _ _ (subscriptTail _ _ (Value.bytes _ _) _) _ _ _ | show wpAny _ _ (subscriptTail _ _ (Value.ref _) _) _ _ _ | show wpAny _ _ (binaryOp _ (Value.ref _) (Value.ref _)) _ _ _ | show wpAny _ _ (compareOp _ (Value.ref _) (Value.ref _)) _ _ _ | show wpAny _ _ (compareOp _ (Value.bytes _ _) (Value.bytes _ _)) _ _ _))); walk1; (try dsimp only))))
        refine KXi.item (n := 2) rfl (ix2 _).1 (ix2 _).2 (by decide) fun _ => ?_
        (repeat' (first | (k_unfold; (try dsimp only)) | (((fail_if_success (with_reducible first | show LCg.CompSrc _ _ _ _ _ _ _ _ _ _ _ _ _ _ | show wpAny _ _ (exec (Stmt.While _ _ _ _) _) _ _ _ | show wpAny _ _ (call (Value.ref _) _ _) _ _ _ | show wpAny _ _ (exec (Stmt.For _ _ _ _ _) _) _ _ _ | show wpAny _ _ (call (Value.builtin "list.append") _ _) _ _ _ | show wpAny _ _ (eval (Expr.ListComp _ _ _ _) _) _ _ _ | show wpAny _ _ (subscriptTail _ _ (Value.str _ _) _) _ _ _ | show wpAny _ _ (binaryOp Operator.Add (Value.str _ _) (Value.str _ _)) _ _ _ | show wpAny _ _ (call (Value.builtin "sorted") _ _) _ _ _ | show wpAny _ _ (exec (Stmt.Assign _ (Expr.ListComp _ _ _ _) _) _) _ _ _ | show wpAny _ _ (call (Value.type "range") [_] _) _ _ _ | show wpAny _ _ (call (Value.type "bytes") _ _) _ _ _ | show wpAny _ _ (storeName _ _ (Value.ref _)) _ _ _ | show wpAny _ _ (subscriptTail _ _ (Value.bytes _ _) _) _ _ _ | show wpAny _ _ (subscriptTail _ _ (Value.ref _) _) _ _ _ | show wpAny _ _ (binaryOp _ (Value.ref _) (Value.ref _)) _ _ _ | show wpAny _ _ (compareOp _ (Value.ref _) (Value.ref _)) _ _ _ | show wpAny _ _ (compareOp _ (Value.bytes _ _) (Value.bytes _ _)) _ _ _))); walk1; (try dsimp only))))
        refine add_item (by rw [l5]; exact Nat.le_trans (Nat.succ_le_succ hSl') (by decide)) fun t6 k6 S6 e6 l6 => ?_
        (repeat' (first | (k_unfold; (try dsimp only)) | (((fail_if_success (with_reducible first | show LCg.CompSrc _ _ _ _ _ _ _ _ _ _ _ _ _ _ | show wpAny _ _ (exec (Stmt.While _ _ _ _) _) _ _ _ | show wpAny _ _ (call (Value.ref _) _ _) _ _ _ | show wpAny _ _ (exec (Stmt.For _ _ _ _ _) _) _ _ _ | show wpAny _ _ (call (Value.builtin "list.append") _ _) _ _ _ | show wpAny _ _ (eval (Expr.ListComp _ _ _ _) _) _ _ _ | show wpAny _ _ (subscriptTail _ _ (Value.str _ _) _) _ _ _ | show wpAny _ _ (binaryOp Operator.Add (Value.str _ _) (Value.str _ _)) _ _ _ | show wpAny _ _ (call (Value.builtin "sorted") _ _) _ _ _ | show wpAny _ _ (exec (Stmt.Assign _ (Expr.ListComp _ _ _ _) _) _) _ _ _ | show wpAny _ _ (call (Value.type "range") [_] _) _ _ _ | show wpAny _ _ (call (Value.type "bytes") _ _) _ _ _ | show wpAny _ _ (storeName _ _ (Value.ref _)) _ _ _ | show wpAny _ _ (subscriptTail _ _ (Value.bytes _ _) _) _ _ _ | show wpAny _ _ (subscriptTail _ _ (Value.ref _) _) _ _ _ | show wpAny _ _ (binaryOp _ (Value.ref _) (Value.ref _)) _ _ _ | show wpAny _ _ (compareOp _ (Value.ref _) (Value.ref _)) _ _ _ | show wpAny _ _ (compareOp _ (Value.bytes _ _) (Value.bytes _ _)) _ _ _))); walk1; (try dsimp only))))
        refine KXi.item (n := 4) rfl (ixm _ _).1 (ixm _ _).2 (by decide) fun _ => ?_
        (repeat' (first | (k_unfold; (try dsimp only)) | (((fail_if_success (with_reducible first | show LCg.CompSrc _ _ _ _ _ _ _ _ _ _ _ _ _ _ | show wpAny _ _ (exec (Stmt.While _ _ _ _) _) _ _ _ | show wpAny _ _ (call (Value.ref _) _ _) _ _ _ | show wpAny _ _ (exec (Stmt.For _ _ _ _ _) _) _ _ _ | show wpAny _ _ (call (Value.builtin "list.append") _ _) _ _ _ | show wpAny _ _ (eval (Expr.ListComp _ _ _ _) _) _ _ _ | show wpAny _ _ (subscriptTail _ _ (Value.str _ _) _) _ _ _ | show wpAny _ _ (binaryOp Operator.Add (Value.str _ _) (Value.str _ _)) _ _ _ | show wpAny _ _ (call (Value.builtin "sorted") _ _) _ _ _ | show wpAny _ _ (exec (Stmt.Assign _ (Expr.ListComp _ _ _ _) _) _) _ _ _ | show wpAny _ _ (call (Value.type "range") [_] _) _ _ _ | show wpAny _ _ (call (Value.type "bytes") _ _) _ _ _ | show wpAny _ _ (storeName _ _ (Value.ref _)) _ _ _ | show wpAny _ _ (subscriptTail _ _ (Value.bytes _ _) _) _ _ _ | show wpAny _ _ (subscriptTail _ _ (Value.ref _) _) _ _ _ | show wpAny _ _ (binaryOp _ (Value.ref _) (Value.ref _)) _ _ _ | show wpAny _ _ (compareOp _ (Value.ref _) (Value.ref _)) _ _ _ | show wpAny _ _ (compareOp _ (Value.bytes _ _) (Value.bytes _ _)) _ _ _))); walk1; (try dsimp only))))
        refine add_item (by rw [l6, l5]; exact Nat.le_trans (Nat.succ_le_succ (Nat.succ_le_succ hSl')) (by decide)) fun t7 k7 S7 e7 l7 => ?_
        (repeat' (first | (k_unfold; (try dsimp only)) | (((fail_if_success (with_reducible first | show LCg.CompSrc _ _ _ _ _ _ _ _ _ _ _ _ _ _ | show wpAny _ _ (exec (Stmt.While _ _ _ _) _) _ _ _ | show wpAny _ _ (call (Value.ref _) _ _) _ _ _ | show wpAny _ _ (exec (Stmt.For _ _ _ _ _) _) _ _ _ | show wpAny _ _ (call (Value.builtin "list.append") _ _) _ _ _ | show wpAny _ _ (eval (Expr.ListComp _ _ _ _) _) _ _ _ | show wpAny _ _ (subscriptTail _ _ (Value.str _ _) _) _ _ _ | show wpAny _ _ (binaryOp Operator.Add (Value.str _ _) (Value.str _ _)) _ _ _ | show wpAny _ _ (call (Value.builtin "sorted") _ _) _ _ _ | show wpAny _ _ (exec (Stmt.Assign _ (Expr.ListComp _ _ _ _) _) _) _ _ _ | show wpAny _ _ (call (Value.type "range") [_] _) _ _ _ | show wpAny _ _ (call (Value.type "bytes") _ _) _ _ _ | show wpAny _ _ (storeName _ _ (Value.ref _)) _ _ _ | show wpAny _ _ (subscriptTail _ _ (Value.bytes _ _) _) _ _ _ | show wpAny _ _ (subscriptTail _ _ (Value.ref _) _) _ _ _ | show wpAny _ _ (binaryOp _ (Value.ref _) (Value.ref _)) _ _ _ | show wpAny _ _ (compareOp _ (Value.ref _) (Value.ref _)) _ _ _ | show wpAny _ _ (compareOp _ (Value.bytes _ _) (Value.bytes _ _)) _ _ _))); walk1; (try dsimp only))))
        rename Fr g' L' _ _ => F₈
        rename News g' L' _ _ => N₈
        refine ⟨_, _, _, _ :: news, rfl, F₈, N₈, ?_, ⟨⟨.head _, trivial⟩, S7, t7, by rw [l7, l6, l5, hSl], by rw [e7, e6, e5, hSe]; rfl, rfl, rfl, rfl⟩⟩
        intro p hp q hq
        rw [List.mem_singleton.mp hq]
        exact Nat.ne_of_lt (hI p hp)
      · obtain rfl := Option.some.inj hv
        (repeat' (first | (k_unfold; (try dsimp only)) | (((fail_if_success (with_reducible first | show LCg.CompSrc _ _ _ _ _ _ _ _ _ _ _ _ _ _ | show wpAny _ _ (exec (Stmt.While _ _ _ _) _) _ _ _ | show wpAny _ _ (call (Value.ref _) _ _) _ _ _ | show wpAny _ _ (exec (Stmt.For _ _ _ _ _) _) _ _ _ | show wpAny _ _ (call (Value.builtin "list.append") _ _) _ _ _ | show wpAny _ _ (eval (Expr.ListComp _ _ _ _) _) _ _ _ | show wpAny _ _ (subscriptTail _ _ (Value.str _ _) _) _ _ _ | show wpAny _ _ (binaryOp Operator.Add (Value.str _ _) (Value.str _ _)) _ _ _ | show wpAny _ _ (call (Value.builtin "sorted") _ _) _ _ _ | show wpAny _ _ (exec (Stmt.Assign _ (Expr.ListComp _ _ _ _) _) _) _ _ _ | show wpAny _ _ (call (Value.type "range") [_] _) _ _ _ | show wpAny _ _ (call (Value.type "bytes") _ _) _ _ _ | show wpAny _ _ (storeName _ _ (Value.ref _)) _ _ _ | show wpAny _ _ (subscriptTail _ _ (Value.bytes _ _) _) _ _ _ | show wpAny _ _ (subscriptTail _ _ (Value.ref _) _) _ _ _ | show wpAny _ _ (binaryOp _ (Value.ref _) (Value.ref _)) _ _ _ | show wpAny _ _ (compareOp _ (Value.ref _) (Value.ref _)) _ _ _ | show wpAny _ _ (compareOp _ (Value.bytes _ _) (Value.bytes _ _)) _ _ _))); walk1; (try dsimp only))))
        refine KXi.item (n := 2) rfl (ix4 _).1 (ix4 _).2 (by decide) fun _ => ?_
        (repeat' (first | (k_unfold; (try dsimp only)) | (((fail_if_success (with_reducible first | show LCg.CompSrc _ _ _ _ _ _ _ _ _ _ _ _ _ _ | show wpAny _ _ (exec (Stmt.While _ _ _ _) _) _ _ _ | show wpAny _ _ (call (Value.ref _) _ _) _ _ _ | show wpAny _ _ (exec (Stmt.For _ _ _ _ _) _) _ _ _ | show wpAny _ _ (call (Value.builtin "list.append") _ _) _ _ _ | show wpAny _ _ (eval (Expr.ListComp _ _ _ _) _) _ _ _ | show wpAny _ _ (subscriptTail _ _ (Value.str _ _) _) _ _ _ | show wpAny _ _ (binaryOp Operator.Add (Value.str _ _) (Value.str _ _)) _ _ _ | show wpAny _ _ (call (Value.builtin "sorted") _ _) _ _ _ | show wpAny _ _ (exec (Stmt.Assign _ (Expr.ListComp _ _ _ _) _) _) _ _ _ | show wpAny _ _ (call (Value.type "range") [_] _) _ _ _ | show wpAny _ _ (call (Value.type "bytes") _ _) _ _ _ | show wpAny _ _ (storeName _ _ (Value.ref _)) _ _ _ | show wpAny _ _ (subscriptTail _ _ (Value.bytes _ _) _) _ _ _ | show wpAny _ _ (subscriptTail _ _ (Value.ref _) _) _ _ _ | show wpAny _ _ (binaryOp _ (Value.ref _) (Value.ref _)) _ _ _ | show wpAny _ _ (compareOp _ (Value.ref _) (Value.ref _)) _ _ _ | show wpAny _ _ (compareOp _ (Value.bytes _ _) (Value.bytes _ _)) _ _ _))); walk1; (try dsimp only))))
        refine add_item (Nat.le_trans hSl' (by decide)) fun t5 k5 S5 e5 l5 => ?_
        (repeat' (first | (k_unfold; (try dsimp only)) | (((fail_if_success (with_reducible first | show LCg.CompSrc _ _ _ _ _ _ _ _ _ _ _ _ _ _ | show wpAny _ _ (exec (Stmt.While _ _ _ _) _) _ _ _ | show wpAny _ _ (call (Value.ref _) _ _) _ _ _ | show wpAny _ _ (exec (Stmt.For _ _ _ _ _) _) _ _ _ | show wpAny _ _ (call (Value.builtin "list.append") _ _) _ _ _ | show wpAny _ _ (eval (Expr.ListComp _ _ _ _) _) _ _ _ | show wpAny _ _ (subscriptTail _ _ (Value.str _ _) _) _ _ _ | show wpAny _ _ (binaryOp Operator.Add (Value.str _ _) (Value.str _ _)) _ _ _ | show wpAny _ _ (call (Value.builtin "sorted") _ _) _ _ _ | show wpAny _ _ (exec (Stmt.Assign _ (Expr.ListComp _ _ _ _) _) _) _ _ _ | show wpAny _ _ (call (Value.type "range") [_] _) _ _ _ | show wpAny _ _ (call (Value.type "bytes") _ _) _ _ _ | show wpAny _ _ (storeName _ _ (Value.ref _)) _ _ _ | show wpAny _ _ (subscriptTail _ _ (Value.bytes _ _) _) _ _ _ | show wpAny _ _ (subscriptTail _ _ (Value.ref _) _) _ _ _ | show wpAny _ _ (binaryOp _ (Value.ref _) (Value.ref _)) _ _ _ | show wpAny _ _ (compareOp _ (Value.ref _) (Value.ref _)) _ _ _ | show wpAny _ _ (compareOp _ (Value.bytes _ _) (Value.bytes _ _)) _ _ _))); walk1; (try dsimp only))))
        refine KXi.item (n := 2) rfl (ix2 _).1 (ix2 _).2 (by decide) fun _ => ?_
        (repeat' (first | (k_unfold; (try dsimp only)) | (((fail_if_success (with_reducible first | show LCg.CompSrc _ _ _ _ _ _ _ _ _ _ _ _ _ _ | show wpAny _ _ (exec (Stmt.While _ _ _ _) _) _ _ _ | show wpAny _ _ (call (Value.ref _) _ _) _ _ _ | show wpAny _ _ (exec (Stmt.For _ _ _ _ _) _) _ _ _ | show wpAny _ _ (call (Value.builtin "list.append") _ _) _ _ _ | show wpAny _ _ (eval (Expr.ListComp _ _ _ _) _) _ _ _ | show wpAny _ _ (subscriptTail _ _ (Value.str _ _) _) _ _ _ | show wpAny _ _ (binaryOp Operator.Add (Value.str _ _) (Value.str _ _)) _ _ _ | show wpAny _ _ (call (Value.builtin "sorted") _ _) _ _ _ | show wpAny _ _ (exec (Stmt.Assign _ (Expr.ListComp _ _ _ _) _) _) _ _ _ | show wpAny _ _ (call (Value.type "range") [_] _) _ _ _ | show wpAny _ _ (call (Value.type "bytes") _ _) _ _ _ | show wpAny _ _ (storeName _ _ (Value.ref _)) _ _ _ | show wpAny _ _ (subscriptTail _ _ (Value.bytes _ _) _) _ _ _ | show wpAny _ _ (subscriptTail _ _ (Value.ref _) _) _ _ _ | show wpAny _ _ (binaryOp _ (Value.ref _) (Value.ref _)) _ _ _ | show wpAny _ _ (compareOp _ (Value.ref _) (Value.ref _)) _ _ _ | show wpAny _ _ (compareOp _ (Value.bytes _ _) (Value.bytes _ _)) _ _ _))); walk1; (try dsimp only))))
        refine add_item (by rw [l5]; exact Nat.le_trans (Nat.succ_le_succ hSl') (by decide)) fun t6 k6 S6 e6 l6 => ?_
        (repeat' (first | (k_unfold; (try dsimp only)) | (((fail_if_success (with_reducible first | show LCg.CompSrc _ _ _ _ _ _ _ _ _ _ _ _ _ _ | show wpAny _ _ (exec (Stmt.While _ _ _ _) _) _ _ _ | show wpAny _ _ (call (Value.ref _) _ _) _ _ _ | show wpAny _ _ (exec (Stmt.For _ _ _ _ _) _) _ _ _ | show wpAny _ _ (call (Value.builtin "list.append") _ _) _ _ _ | show wpAny _ _ (eval (Expr.ListComp _ _ _ _) _) _ _ _ | show wpAny _ _ (subscriptTail _ _ (Value.str _ _) _) _ _ _ | show wpAny _ _ (binaryOp Operator.Add (Value.str _ _) (Value.str _ _)) _ _ _ | show wpAny _ _ (call (Value.builtin "sorted") _ _) _ _ _ | show wpAny _ _ (exec (Stmt.Assign _ (Expr.ListComp _ _ _ _) _) _) _ _ _ | show wpAny _ _ (call (Value.type "range") [_] _) _ _ _ | show wpAny _ _ (call (Value.type "bytes") _ _) _ _ _ | show wpAny _ _ (storeName _ _ (Value.ref _)) _ _ _ | show wpAny _ _ (subscriptTail _ _ (Value.bytes _ _) _) _ _ _ | show wpAny _ _ (subscriptTail _ _ (Value.ref _) _) _ _ _ | show wpAny _ _ (binaryOp _ (Value.ref _) (Value.ref _)) _ _ _ | show wpAny _ _ (compareOp _ (Value.ref _) (Value.ref _)) _ _ _ | show wpAny _ _ (compareOp _ (Value.bytes _ _) (Value.bytes _ _)) _ _ _))); walk1; (try dsimp only))))
        refine KXi.item (n := 4) rfl (ixm _ _).1 (ixm _ _).2 (by decide) fun _ => ?_
        (repeat' (first | (k_unfold; (try dsimp only)) | (((fail_if_success (with_reducible first | show LCg.CompSrc _ _ _ _ _ _ _ _ _ _ _ _ _ _ | show wpAny _ _ (exec (Stmt.While _ _ _ _) _) _ _ _ | show wpAny _ _ (call (Value.ref _) _ _) _ _ _ | show wpAny _ _ (exec (Stmt.For _ _ _ _ _) _) _ _ _ | show wpAny _ _ (call (Value.builtin "list.append") _ _) _ _ _ | show wpAny _ _ (eval (Expr.ListComp _ _ _ _) _) _ _ _ | show wpAny _ _ (subscriptTail _ _ (Value.str _ _) _) _ _ _ | show wpAny _ _ (binaryOp Operator.Add (Value.str _ _) (Value.str _ _)) _ _ _ | show wpAny _ _ (call (Value.builtin "sorted") _ _) _ _ _ | show wpAny _ _ (exec (Stmt.Assign _ (Expr.ListComp _ _ _ _) _) _) _ _ _ | show wpAny _ _ (call (Value.type "range") [_] _) _ _ _ | show wpAny _ _ (call (Value.type "bytes") _ _) _ _ _ | show wpAny _ _ (storeName _ _ (Value.ref _)) _ _ _ | show wpAny _ _ (subscriptTail _ _ (Value.bytes _ _) _) _ _ _ | show wpAny _ _ (subscriptTail _ _ (Value.ref _) _) _ _ _ | show wpAny _ _ (binaryOp _ (Value.ref _) (Value.ref _)) _ _ _ | show wpAny _ _ (compareOp _ (Value.ref _) (Value.ref _)) _ _ _ | show wpAny _ _ (compareOp _ (Value.bytes _ _) (Value.bytes _ _)) _ _ _))); walk1; (try dsimp only))))
        refine add_item (by rw [l6, l5]; exact Nat.le_trans (Nat.succ_le_succ (Nat.succ_le_succ hSl')) (by decide)) fun t7 k7 S7 e7 l7 => ?_
        (repeat' (first | (k_unfold; (try dsimp only)) | (((fail_if_success (with_reducible first | show LCg.CompSrc _ _ _ _ _ _ _ _ _ _ _ _ _ _ | show wpAny _ _ (exec (Stmt.While _ _ _ _) _) _ _ _ | show wpAny _ _ (call (Value.ref _) _ _) _ _ _ | show wpAny _ _ (exec (Stmt.For _ _ _ _ _) _) _ _ _ | show wpAny _ _ (call (Value.builtin "list.append") _ _) _ _ _ | show wpAny _ _ (eval (Expr.ListComp _ _ _ _) _) _ _ _ | show wpAny _ _ (subscriptTail _ _ (Value.str _ _) _) _ _ _ | show wpAny _ _ (binaryOp Operator.Add (Value.str _ _) (Value.str _ _)) _ _ _ | show wpAny _ _ (call (Value.builtin "sorted") _ _) _ _ _ | show wpAny _ _ (exec (Stmt.Assign _ (Expr.ListComp _ _ _ _) _) _) _ _ _ | show wpAny _ _ (call (Value.type "range") [_] _) _ _ _ | show wpAny _ _ (call (Value.type "bytes") _ _) _ _ _ | show wpAny _ _ (storeName _ _ (Value.ref _)) _ _ _ | show wpAny _ _ (subscriptTail _ _ (Value.bytes _ _) _) _ _ _ | show wpAny _ _ (subscriptTail _ _ (Value.ref _) _) _ _ _ | show wpAny _ _ (binaryOp _ (Value.ref _) (Value.ref _)) _ _ _ | show wpAny _ _ (compareOp _ (Value.ref _) (Value.ref _)) _ _ _ | show wpAny _ _ (compareOp _ (Value.bytes _ _) (Value.bytes _ _)) _ _ _))); walk1; (try dsimp only))))
        rename Fr g' L' _ _ => F₈
        rename News g' L' _ _ => N₈
        refine ⟨_, _, _, _ :: news, rfl, F₈, N₈, ?_, ⟨⟨.head _, trivial⟩, S7, t7, by rw [l7, l6, l5, hSl], by rw [e7, e6, e5, hSe]; rfl, rfl, rfl, rfl⟩⟩
        intro p hp q hq
        rw [List.mem_singleton.mp hq]
        exact Nat.ne_of_lt (hI p hp)
      · obtain rfl := Option.some.inj hv
        (repeat' (first | (k_unfold; (try dsimp only)) | (((fail_if_success (with_reducible first | show LCg.CompSrc _ _ _ _ _ _ _ _ _ _ _ _ _ _ | show wpAny _ _ (exec (Stmt.While _ _ _ _) _) _ _ _ | show wpAny _ _ (call (Value.ref _) _ _) _ _ _ | show wpAny _ _ (exec (Stmt.For _ _ _ _ _) _) _ _ _ | show wpAny _ _ (call (Value.builtin "list.append") _ _) _ _ _ | show wpAny _ _ (eval (Expr.ListComp _ _ _ _) _) _ _ _ | show wpAny _ _ (subscriptTail _ _ (Value.str _ _) _) _ _ _ | show wpAny _ _ (binaryOp Operator.Add (Value.str _ _) (Value.str _ _)) _ _ _ | show wpAny _ _ (call (Value.builtin "sorted") _ _) _ _ _ | show wpAny _ _ (exec (Stmt.Assign _ (Expr.ListComp _ _ _ _) _) _) _ _ _ | show wpAny _ _ (call (Value.type "range") [_] _) _ _ _ | show wpAny _ _ (call (Value.type "bytes") _ _) _ _ _ | show wpAny _ _ (storeName _ _ (Value.ref _)) _ _ _ | show wpAny _ _ (subscriptTail _ _ (Value.bytes _ _) _) _ _ _ | show wpAny _ _ (subscriptTail _ _ (Value.ref _) _) _ _ _ | show wpAny _ _ (binaryOp _ (Value.ref _) (Value.ref _)) _ _ _ | show wpAny _ _ (compareOp _ (Value.ref _) (Value.ref _)) _ _ _ | show wpAny _ _ (compareOp _ (Value.bytes _ _) (Value.bytes _ _)) _ _ _))); walk1; (try dsimp only))))
        refine KXi.item (n := 2) rfl (ix4 _).1 (ix4 _).2 (by decide) fun _ => ?_
        (repeat' (first | (k_unfold; (try dsimp only)) | (((fail_if_success (with_reducible first | show LCg.CompSrc _ _ _ _ _ _ _ _ _ _ _ _ _ _ | show wpAny _ _ (exec (Stmt.While _ _ _ _) _) _ _ _ | show wpAny _ _ (call (Value.ref _) _ _) _ _ _ | show wpAny _ _ (exec (Stmt.For _ _ _ _ _) _) _ _ _ | show wpAny _ _ (call (Value.builtin "list.append") _ _) _ _ _ | show wpAny _ _ (eval (Expr.ListComp _ _ _ _) _) _ _ _ | show wpAny _ _ (subscriptTail _ _ (Value.str _ _) _) _ _ _ | show wpAny _ _ (binaryOp Operator.Add (Value.str _ _) (Value.str _ _)) _ _ _ | show wpAny _ _ (call (Value.builtin "sorted") _ _) _ _ _ | show wpAny _ _ (exec (Stmt.Assign _ (Expr.ListComp _ _ _ _) _) _) _ _ _ | show wpAny _ _ (call (Value.type "range") [_] _) _ _ _ | show wpAny _ _ (call (Value.type "bytes") _ _) _ _ _ | show wpAny _ _ (storeName _ _ (Value.ref _)) _ _ _ | show wpAny _ _ (subscriptTail _ _ (Value.bytes _ _) _) _ _ _ | show wpAny _ _ (subscriptTail _ _ (Value.ref _) _) _ _ _ | show wpAny _ _ (binaryOp _ (Value.ref _) (Value.ref _)) _ _ _ | show wpAny _ _ (compareOp _ (Value.ref _) (Value.ref _)) _ _ _ | show wpAny _ _ (compareOp _ (Value.bytes _ _) (Value.bytes _ _)) _ _ _))); walk1; (try dsimp only))))
        refine add_item (Nat.le_trans hSl' (by decide)) fun t5 k5 S5 e5 l5 => ?_
        (repeat' (first | (k_unfold; (try dsimp only)) | (((fail_if_success (with_reducible first | show LCg.CompSrc _ _ _ _ _ _ _ _ _ _ _ _ _ _ | show wpAny _ _ (exec (Stmt.While _ _ _ _) _) _ _ _ | show wpAny _ _ (call (Value.ref _) _ _) _ _ _ | show wpAny _ _ (exec (Stmt.For _ _ _ _ _) _) _ _ _ | show wpAny _ _ (call (Value.builtin "list.append") _ _) _ _ _ | show wpAny _ _ (eval (Expr.ListComp _ _ _ _) _) _ _ _ | show wpAny _ _ (subscriptTail _ _ (Value.str _ _) _) _ _ _ | show wpAny _ _ (binaryOp Operator.Add (Value.str _ _) (Value.str _ _)) _ _ _ | show wpAny _ _ (call (Value.builtin "sorted") _ _) _ _ _ | show wpAny _ _ (exec (Stmt.Assign _ (Expr.ListComp _ _ _ _) _) _) _ _ _ | show wpAny _ _ (call (Value.type "range") [_] _) _ _ _ | show wpAny _ _ (call (Value.type "bytes") _ _) _ _ _ | show wpAny _ _ (storeName _ _ (Value.ref _)) _ _ _ | show wpAny _ _ (subscriptTail _ _ (Value.bytes _ _) _) _ _ _ | show wpAny _ _ (subscriptTail _ _ (Value.ref _) _) _ _ _ | show wpAny _ _ (binaryOp _ (Value.ref _) (Value.ref _)) _ _ _ | show wpAny _ _ (compareOp _ (Value.ref _) (Value.ref _)) _ _ _ | show wpAny _ _ (compareOp _ (Value.bytes _ _) (Value.bytes _ _)) _ _ _))); walk1; (try dsimp only))))
        refine KXi.item (n := 2) rfl (ix2 _).1 (ix2 _).2 (by decide) fun _ => ?_
        (repeat' (first | (k_unfold; (try dsimp only)) | (((fail_if_success (with_reducible first | show LCg.CompSrc _ _ _ _ _ _ _ _ _ _ _ _ _ _ | show wpAny _ _ (exec (Stmt.While _ _ _ _) _) _ _ _ | show wpAny _ _ (call (Value.ref _) _ _) _ _ _ | show wpAny _ _ (exec (Stmt.For _ _ _ _ _) _) _ _ _ | show wpAny _ _ (call (Value.builtin "list.append") _ _) _ _ _ | show wpAny _ _ (eval (Expr.ListComp _ _ _ _) _) _ _ _ | show wpAny _ _ (subscriptTail _ _ (Value.str _ _) _) _ _ _ | show wpAny _ _ (binaryOp Operator.Add (Value.str _ _) (Value.str _ _)) _ _ _ | show wpAny _ _ (call (Value.builtin "sorted") _ _) _ _ _ | show wpAny _ _ (exec (Stmt.Assign _ (Expr.ListComp _ _ _ _) _) _) _ _ _ | show wpAny _ _ (call (Value.type "range") [_] _) _ _ _ | show wpAny _ _ (call (Value.type "bytes") _ _) _ _ _ | show wpAny _ _ (storeName _ _ (Value.ref _)) _ _ _ | show wpAny _ _ (subscriptTail _ _ (Value.bytes _ _) _) _ _ _ | show wpAny _ _ (subscriptTail _ _ (Value.ref _) _) _ _ _ | show wpAny _ _ (binaryOp _ (Value.ref _) (Value.ref _)) _ _ _ | show wpAny _ _ (compareOp _ (Value.ref _) (Value.ref _)) _ _ _ | show wpAny _ _ (compareOp _ (Value.bytes _ _) (Value.bytes _ _)) _ _ _))); walk1; (try dsimp only))))
        refine add_item (by rw [l5]; exact Nat.le_trans (Nat.succ_le_succ hSl') (by decide)) fun t6 k6 S6 e6 l6 => ?_
        (repeat' (first | (k_unfold; (try dsimp only)) | (((fail_if_success (with_reducible first | show LCg.CompSrc _ _ _ _ _ _ _ _ _ _ _ _ _ _ | show wpAny _ _ (exec (Stmt.While _ _ _ _) _) _ _ _ | show wpAny _ _ (call (Value.ref _) _ _) _ _ _ | show wpAny _ _ (exec (Stmt.For _ _ _ _ _) _) _ _ _ | show wpAny _ _ (call (Value.builtin "list.append") _ _) _ _ _ | show wpAny _ _ (eval (Expr.ListComp _ _ _ _) _) _ _ _ | show wpAny _ _ (subscriptTail _ _ (Value.str _ _) _) _ _ _ | show wpAny _ _ (binaryOp Operator.Add (Value.str _ _) (Value.str _ _)) _ _ _ | show wpAny _ _ (call (Value.builtin "sorted") _ _) _ _ _ | show wpAny _ _ (exec (Stmt.Assign _ (Expr.ListComp _ _ _ _) _) _) _ _ _ | show wpAny _ _ (call (Value.type "range") [_] _) _ _ _ | show wpAny _ _ (call (Value.type "bytes") _ _) _ _ _ | show wpAny _ _ (storeName _ _ (Value.ref _)) _ _ _ | show wpAny _ _ (subscriptTail _ _ (Value.bytes _ _) _) _ _ _ | show wpAny _ _ (subscriptTail _ _ (Value.ref _) _) _ _ _ | show wpAny _ _ (binaryOp _ (Value.ref _) (Value.ref _)) _ _ _ | show wpAny _ _ (compareOp _ (Value.ref _) (Value.ref _)) _ _ _ | show wpAny _ _ (compareOp _ (Value.bytes _ _) (Value.bytes _ _)) _ _ _))); walk1; (try dsimp only))))
        refine KXi.item (n := 4) rfl (ixm _ _).1 (ixm _ _).2 (by decide) fun _ => ?_
        (repeat' (first | (k_unfold; (try dsimp only)) | (((fail_if_success (with_reducible first | show LCg.CompSrc _ _ _ _ _ _ _ _ _ _ _ _ _ _ | show wpAny _ _ (exec (Stmt.While _ _ _ _) _) _ _ _ | show wpAny _ _ (call (Value.ref _) _ _) _ _ _ | show wpAny _ _ (exec (Stmt.For _ _ _ _ _) _) _ _ _ | show wpAny _ _ (call (Value.builtin "list.append") _ _) _ _ _ | show wpAny _ _ (eval (Expr.ListComp _ _ _ _) _) _ _ _ | show wpAny _ _ (subscriptTail _ _ (Value.str _ _) _) _ _ _ | show wpAny _ _ (binaryOp Operator.Add (Value.str _ _) (Value.str _ _)) _ _ _ | show wpAny _ _ (call (Value.builtin "sorted") _ _) _ _ _ | show wpAny _ _ (exec (Stmt.Assign _ (Expr.ListComp _ _ _ _) _) _) _ _ _ | show wpAny _ _ (call (Value.type "range") [_] _) _ _ _ | show wpAny _ _ (call (Value.type "bytes") _ _) _ _ _ | show wpAny _ _ (storeName _ _ (Value.ref _)) _ _ _ | show wpAny _ _ (subscriptTail _ _ (Value.bytes _ _) _) _ _ _ | show wpAny _ _ (subscriptTail _ _ (Value.ref _) _) _ _ _ | show wpAny _ _ (binaryOp _ (Value.ref _) (Value.ref _)) _ _ _ | show wpAny _ _ (compareOp _ (Value.ref _) (Value.ref _)) _ _ _ | show wpAny _ _ (compareOp _ (Value.bytes _ _) (Value.bytes _ _)) _ _ _))); walk1; (try dsimp only))))
        refine add_item (by rw [l6, l5]; exact Nat.le_trans (Nat.succ_le_succ (Nat.succ_le_succ hSl')) (by decide)) fun t7 k7 S7 e7 l7 => ?_
        (repeat' (first | (k_unfold; (try dsimp only)) | (((fail_if_success (with_reducible first | show LCg.CompSrc _ _ _ _ _ _ _ _ _ _ _ _ _ _ | show wpAny _ _ (exec (Stmt.While _ _ _ _) _) _ _ _ | show wpAny _ _ (call (Value.ref _) _ _) _ _ _ | show wpAny _ _ (exec (Stmt.For _ _ _ _ _) _) _ _ _ | show wpAny _ _ (call (Value.builtin "list.append") _ _) _ _ _ | show wpAny _ _ (eval (Expr.ListComp _ _ _ _) _) _ _ _ | show wpAny _ _ (subscriptTail _ _ (Value.str _ _) _) _ _ _ | show wpAny _ _ (binaryOp Operator.Add (Value.str _ _) (Value.str _ _)) _ _ _ | show wpAny _ _ (call (Value.builtin "sorted") _ _) _ _ _ | show wpAny _ _ (exec (Stmt.Assign _ (Expr.ListComp _ _ _ _) _) _) _ _ _ | show wpAny _ _ (call (Value.type "range") [_] _) _ _ _ | show wpAny _ _ (call (Value.type "bytes") _ _) _ _ _ | show wpAny _ _ (storeName _ _ (Value.ref _)) _ _ _ | show wpAny _ _ (subscriptTail _ _ (Value.bytes _ _) _) _ _ _ | show wpAny _ _ (subscriptTail _ _ (Value.ref _) _) _ _ _ | show wpAny _ _ (binaryOp _ (Value.ref _) (Value.ref _)) _ _ _ | show wpAny _ _ (compareOp _ (Value.ref _) (Value.ref _)) _ _ _ | show wpAny _ _ (compareOp _ (Value.bytes _ _) (Value.bytes _ _)) _ _ _))); walk1; (try dsimp only))))
        rename Fr g' L' _ _ => F₈
        rename News g' L' _ _ => N₈
        refine ⟨_, _, _, _ :: news, rfl, F₈, N₈, ?_, ⟨⟨.head _, trivial⟩, S7, t7, by rw [l7, l6, l5, hSl], by rw [e7, e6, e5, hSe]; rfl, rfl, rfl, rfl⟩⟩
        intro p hp q hq
        rw [List.mem_singleton.mp hq]
        exact Nat.ne_of_lt (hI p hp)
    · rintro m₄ news₄ ⟨S, tS, hSl, hSe, hS, hm4, rfl⟩ h₄ tk₄ F₄ N₄
      replace F₄ : Fr g' L' h₄ m₄ := F₄
      replace N₄ : News g' L' h₄ _ := N₄
      rw [map2 hS hm4] at F₄
      subst hSe
      (repeat' (first | (k_unfold; (try dsimp only)) | (((fail_if_success (with_reducible first | show LCg.CompSrc _ _ _ _ _ _ _ _ _ _ _ _ _ _ | show wpAny _ _ (exec (Stmt.While _ _ _ _) _) _ _ _ | show wpAny _ _ (call (Value.ref _) _ _) _ _ _ | show wpAny _ _ (exec (Stmt.For _ _ _ _ _) _) _ _ _ | show wpAny _ _ (call (Value.builtin "list.append") _ _) _ _ _ | show wpAny _ _ (eval (Expr.ListComp _ _ _ _) _) _ _ _ | show wpAny _ _ (subscriptTail _ _ (Value.str _ _) _) _ _ _ | show wpAny _ _ (binaryOp Operator.Add (Value.str _ _) (Value.str _ _)) _ _ _ | show wpAny _ _ (call (Value.builtin "sorted") _ _) _ _ _ | show wpAny _ _ (exec (Stmt.Assign _ (Expr.ListComp _ _ _ _) _) _) _ _ _ | show wpAny _ _ (call (Value.type "range") [_] _) _ _ _ | show wpAny _ _ (call (Value.type "bytes") _ _) _ _ _ | show wpAny _ _ (storeName _ _ (Value.ref _)) _ _ _ | show wpAny _ _ (subscriptTail _ _ (Value.bytes _ _) _) _ _ _ | show wpAny _ _ (subscriptTail _ _ (Value.ref _) _) _ _ _ | show wpAny _ _ (binaryOp _ (Value.ref _) (Value.ref _)) _ _ _ | show wpAny _ _ (compareOp _ (Value.ref _) (Value.ref _)) _ _ _ | show wpAny _ _ (compareOp _ (Value.bytes _ _) (Value.bytes _ _)) _ _ _))); walk1; (try dsimp only))))
      rename News h₀ L _ (_ :: _) => kN
      exact hR _ _ _ (by assumption) (PyProof.Rows.News.perm kN fun p hp => .tail _ hp)

end

section
/-! part G1 -/
open PySem.Spec PySem.Calls PyProof.Rows.LCg
set_option maxRecDepth 100000
section
variable {prog : Program} {w : World} {A : Around} {E : Value → Shared → Prop} {s : Shared} {h₀ : Heap} {L : Addr} {m : Str → Option Value} {env : Env}

/-- binding a turn's item in the comprehension's own names -/
noncomputable def GoC (prog : Program) (w : World) (A : Around) (h₀ : Heap) (L : Addr) (env : Env) (target : Expr) (scope : Scope) (cl : List (Str × Addr)) (I : Addr) (n : Nat) (P : Nat → Value → Prop) (St : Nat → Heap → Prop) (S : List (Addr × Obj) → Prop) (B : Nat → Value → (Str → Option Value) → Prop) : Prop :=
  ∀ (s : Shared) (C : Addr) i v h m' news tk (E' : Value → Shared → Prop) (K : Shared → Prop), i < n → P i v → St (i + 1) h → h.Ns C m' → News h₀ L h news → S news →
    (∀ h₃ m₃ tk₃, h₃.Ns C m₃ → B i v m₃ → (∀ b o, b ≠ C → h.get? b = some o → h₃.get? b = some o) → K { s with heap := h₃, toks := tk₃ }) →
    wpAny (model prog w) A (letOwnedTupleGo target (.ref I) v) (fun _ s₃ => wpAny (model prog w) A (assign target (compEnvC scope cl C env) v) (fun _ s₄ => K s₄) E' s₃) E' { s with heap := h, toks := tk }

theorem block_G {elt target iter : Expr} {scope : Scope} {cl : List (Str × Addr)} {pos : Pos} {s₂ : Shared} {I : Addr} {fp : List Addr} {n : Nat} {P : Nat → Value → Prop} {St : Nat → Heap → Prop} {S : List (Addr × Obj) → Prop} {B : Nat → Value → (Str → Option Value) → Prop} {news : List (Addr × Obj)}
    {RR : Value → Addr → Result → Shared → Prop}
    (W : Walks prog w A I fp [I] n P St) (hsz : n ≤ sizeLine) (hIo : ∀ i h, St i h → ∃ o, h.get? I = some o)
    (hSt : ∀ i h h' o nw, St i h → h.get? I = some o → h'.get? I = some o → (∀ b o, h₀.get? b = some o → h'.get? b = some o) → News h₀ L h' nw → S nw → St i h')
    (hcell : ∀ y ∈ scope.names, y.2 ≠ .cell) (hkind : scope.kind = .function) (hst : St 0 s₂.heap) (hfp : ∀ b ∈ fp, b < s₂.heap.objs.size)
    (go : GoC prog w A h₀ L env target scope cl I n P St S B)
    (F : Fr h₀ L s₂.heap m) (N : News h₀ L s₂.heap news) (hIL : L ≠ I) (hI₀ : h₀.get? I = none) (off : ∀ p ∈ news, p.1 ≠ I) (hS : S news)
    (Inv : Nat → List Value → List (Addr × Obj) → Prop) (h0 : Inv 0 [] news)
    (step : ∀ i v ys news', i < n → P i v → Inv i ys news' → S news' → ∀ oI C oC D m₂ h tk (E' : Value → Shared → Prop), B i v m₂ → NsObj oC m₂ → Fr h₀ L h m → News h₀ L h ((I, oI) :: (C, oC) :: (D, lst ys) :: news') → Off3 I C D news' → ((@Ne Nat I C) ∧ (@Ne Nat I D) ∧ (@Ne Nat C D)) →
      wpAny (model prog w) A (eval elt (compEnvC scope cl C env)) (CompEnd h₀ L m { s₂ with heap := h, toks := tk } I oI C oC D (lst ys) S (fun y news'' => Inv (i + 1) (ys ++ [y]) news'')) E' { s₂ with heap := h, toks := tk })
    (hRR : ∀ D C h tk m' ys news', Fr h₀ L h m → News h₀ L h ((D, lst ys) :: news') → Off1 D news' → h.Ns C m' → h₀.get? C = none → h₀.get? D = none → C ≠ L → D ≠ L → C ≠ D → (∀ p ∈ news', p.1 ≠ C) → Inv n ys news' → RR (.ref D) C (.ok .next) { s₂ with heap := h, toks := tk }) :
    wpAny (model prog w) A (newList []) (fun acc s₃ => wpAny (model prog w) A (newFunctionEnv scope env.globals cl [] env.qual none .none (some env)) (fun cenv s₄ =>
      codeAny (model prog w) A (.compStart (.ListComp elt [⟨target, iter, [], 0⟩] scope pos) 0 (.ref I) acc { cenv with scope := relabel scope env }) (RR acc cenv.locals) s₄) E s₃) E s₂ := by
  refine wpAny_newObj_type (wpAny_newFunctionEnv hcell (by intro y hy; simp at hy) (fun h₁ hns₁ hsb₁ => ?_) hkind)
  dsimp only at hns₁ hsb₁ ⊢
  generalize hH2 : s₂.heap.push { cls := .type "list", dict := none, data := .seq ([] : List Value).toArray } = H2 at hns₁ hsb₁ ⊢
  have hC : H2.objs.size = s₂.heap.objs.size + 1 := by rw [← hH2, Heap.size_push]
  have hDC : s₂.heap.objs.size ≠ H2.objs.size := by rw [hC]; exact Nat.ne_of_lt (Nat.lt_succ_self _)
  have below : ∀ b, b < s₂.heap.objs.size → b ≠ H2.objs.size ∧ b ≠ s₂.heap.objs.size := fun b hb => ⟨by rw [hC]; exact Nat.ne_of_lt (Nat.lt_succ_of_lt hb), Nat.ne_of_lt hb⟩
  have hDf : s₂.heap.objs.size ∉ fp := fun hm => Nat.lt_irrefl _ (hfp _ hm)
  have hCf : H2.objs.size ∉ fp := fun hm => by have := hfp _ hm; rw [hC] at this; exact Nat.lt_irrefl _ (Nat.lt_of_succ_lt this)
  have hIf : I ∈ fp := W.sub I (List.mem_singleton.mpr rfl)
  have hIlt : I < s₂.heap.objs.size := hfp I hIf
  have old : ∀ b o, s₂.heap.get? b = some o → h₁.get? b = some o := fun b o e => hsb₁.extBut b o (below b (Heap.lt_size e)).1 (Heap.get?_push_of_some _ (hH2 ▸ Heap.get?_push_of_some _ e))
  have hacc : h₁.get? s₂.heap.objs.size = some (lst []) := hsb₁.extBut _ _ hDC (Heap.get?_push_of_some _ (hH2 ▸ Heap.get?_push_size _ rfl))
  have hst₁ : St 0 h₁ := W.frame _ _ _ hst fun b _ o e => old b o e
  have fresh : ∀ a, s₂.heap.objs.size ≤ a → s₂.heap.get? a = none := fun a ha => by
    cases e : s₂.heap.get? a with
    | none => rfl
    | some o' => exact absurd (Heap.lt_size e) (Nat.not_lt.mpr ha)
  have fresh₀ : ∀ a, s₂.heap.objs.size ≤ a → h₀.get? a = none := fun a ha => by
    cases e : h₀.get? a with
    | none => rfl
    | some o' => have := F.keep a o' e; rw [fresh a ha] at this; cases this
  have hD₀ : h₀.get? s₂.heap.objs.size = none := fresh₀ _ (Nat.le_refl _)
  have hC₀ : h₀.get? H2.objs.size = none := fresh₀ _ (by rw [hC]; exact Nat.le_succ _)
  have hLlt : L < s₂.heap.objs.size := F.ns.lt
  have hDL : s₂.heap.objs.size ≠ L := Ne.symm (below L hLlt).2
  have hCL : H2.objs.size ≠ L := Ne.symm (below L hLlt).1
  have hCI : I ≠ H2.objs.size := (below I hIlt).1
  have hDI : I ≠ s₂.heap.objs.size := (below I hIlt).2
  have off₀ : Off3 I H2.objs.size s₂.heap.objs.size news := Off3.of fun p hp => ⟨off p hp, (below _ (Heap.lt_size (N p hp).1)).1, (below _ (Heap.lt_size (N p hp).1)).2⟩
  have loop : ∀ s₃ : Shared, s₃ = { s₂ with heap := h₁, toks := s₂.toks + ([] : List (Str × Value)).length } →
      codeAny (model prog w) A (.compLoop (.ListComp elt [⟨target, iter, [], 0⟩] scope pos) 0 (.ref I) (.ref s₂.heap.objs.size) (compEnvC scope cl H2.objs.size env))
        (RR (.ref s₂.heap.objs.size) H2.objs.size) s₃ := by
    rintro s₃ rfl
    refine kcp_loop
      (fun k s' => ∃ h' tk i ys m' news', s' = { s₂ with heap := h', toks := tk } ∧ i ≤ n ∧ k = n + 1 - i ∧ ys.length = i ∧ St i h' ∧ Fr h₀ L h' m ∧ h'.Ns H2.objs.size m' ∧ News h₀ L h' ((s₂.heap.objs.size, lst ys) :: news') ∧
        Off3 I H2.objs.size s₂.heap.objs.size news' ∧ S news' ∧ Inv i ys news') ?_ (n + 1)
      ⟨h₁, _, 0, [], _, news, rfl, Nat.zero_le _, rfl, rfl, hst₁, F.keeps old, hns₁, fun p hp => ?_, off₀, hS, h0⟩
    · rintro k s' ⟨h', tk, i, ys, m', news', rfl, hi, rfl, hyl, hst', F', hn', N', off', hS', R'⟩
      by_cases hlt : i < n
      · refine W.item i _ _ _ hlt hst' fun v h₂ tk₂ hPv hst₂ hk₂ => ?_
        have off3 := off'.mem
        have N₂ : News h₀ L h₂ ((s₂.heap.objs.size, lst ys) :: news') := news_but N' hk₂ fun p hp => by
          rcases List.mem_cons.mp hp with rfl | hp
          · exact Ne.symm hDI
          · exact (off3 p hp).1
        have hn₂ : h₂.Ns H2.objs.size m' := hn'.at' fun o e => hk₂ _ o (by simpa using Ne.symm hCI) e
        refine go s₂ H2.objs.size i v h₂ m' news' tk₂ _ _ hlt hPv hst₂ hn₂ (fun p hp => N₂ p (.tail _ hp)) hS' fun h₃ m₃ tk₃ hn₃ hB hs₃ => ?_
        have hst₃ : St (i + 1) h₃ := W.frame _ _ _ hst₂ fun b hb o e => hs₃ b o (fun q => hCf (by rw [← q]; exact hb)) e
        obtain ⟨oI, heI⟩ := hIo _ _ hst₃
        obtain ⟨oC, heC, hoC⟩ := ns_obj hn₃
        have F₂ : Fr h₀ L h₂ m := fr_but F' hk₂ hIL hI₀
        have F₃ : Fr h₀ L h₃ m := ⟨F₂.ns.at' fun o e => hs₃ _ o (Ne.symm hCL) e, fun b o e => hs₃ b o (fun q => by rw [q, hC₀] at e; cases e) (F₂.keep b o e), F₂.above⟩
        have N₃ : News h₀ L h₃ ((I, oI) :: (H2.objs.size, oC) :: (s₂.heap.objs.size, lst ys) :: news') := fun p hp => by
          rcases List.mem_cons.mp hp with rfl | hp
          · exact ⟨heI, Ne.symm hIL, hI₀⟩
          · rcases List.mem_cons.mp hp with rfl | hp
            · exact ⟨heC, hCL, hC₀⟩
            · have z := N₂ p hp
              refine ⟨hs₃ _ _ ?_ z.1, z.2⟩
              rcases List.mem_cons.mp hp with rfl | hp
              · exact hDC
              · exact (off3 p hp).2.1
        refine wpAny_mono (step i v ys news' hlt hPv R' hS' oI H2.objs.size oC s₂.heap.objs.size m₃ h₃ _ _ hB hoC F₃ N₃ off' ⟨hCI, hDI, Ne.symm hDC⟩) (fun y s₄ h₄ => ?_) fun _ _ e => e
        obtain ⟨h₄, tk₄, news₄, rfl, F₄, N₄, off₄, hS₄, R₄⟩ := h₄
        have zI := (N₄ (I, oI) List.mem_cons_self).1
        have zC := (N₄ (H2.objs.size, oC) (List.mem_cons_of_mem _ List.mem_cons_self)).1
        have zD := (N₄ (s₂.heap.objs.size, lst ys) (List.mem_cons_of_mem _ (List.mem_cons_of_mem _ List.mem_cons_self))).1
        have N₄' : News h₀ L h₄ news₄ := fun p hp => N₄ p (List.mem_cons_of_mem _ (List.mem_cons_of_mem _ (List.mem_cons_of_mem _ hp)))
        have hst₄ : St (i + 1) h₄ := hSt _ _ _ _ _ hst₃ heI zI F₄.keep N₄' hS₄
        refine append_at (hsz := by show ys.toArray.size ≤ sizeLine; rw [List.size_toArray, hyl]; exact Nat.le_trans hi hsz) zD fun h₅ hs₅ hD₅ => ?_
        have off4 := off₄.mem
        refine ⟨n + 1 - (i + 1), by omega, h₅, tk₄, i + 1, ys ++ [y], _, news₄, rfl, hlt, rfl, by rw [List.length_append, List.length_singleton, hyl], W.frame _ _ _ hst₄ fun b hb o e => hs₅.extBut b o (fun q => hDf (q ▸ hb)) e, F₄.change hs₅ hDL hD₀,
          (hoC.ns zC).sameBut hs₅ (Ne.symm hDC), fun p hp => ?_, off₄, hS₄, R₄⟩
        rcases List.mem_cons.mp hp with rfl | hp
        · exact ⟨hD₅.trans (congrArg some (lst_snoc ys y)), hDL, hD₀⟩
        · exact ⟨hs₅.extBut _ _ (off4 p hp).2.2 (N₄' p hp).1, (N₄' p hp).2⟩
      · obtain rfl : i = n := Nat.le_antisymm hi (Nat.not_lt.mp hlt)
        refine W.done _ _ _ hst' fun h₂ tk₂ hk₂ => ?_
        have off3 := off'.mem
        exact hRR _ _ h₂ tk₂ _ ys news' (fr_but F' hk₂ hIL hI₀) (news_but N' hk₂ fun p hp => by
          rcases List.mem_cons.mp hp with rfl | hp
          · exact Ne.symm hDI
          · exact (off3 p hp).1) off'.one (hn'.at' fun o e => hk₂ _ o (by simpa using Ne.symm hCI) e) hC₀ hD₀ hCL hDL (Ne.symm hDC) (fun p hp => (off3 p hp).2.1) R'
    · rcases List.mem_cons.mp hp with rfl | hp
      · exact ⟨hacc, hDL, hD₀⟩
      · exact ⟨old _ _ (N p hp).1, (N p hp).2⟩
  exact codeAny_compStart_list (loop _ rfl) (W.self 0 _ _ _ hst₁ (loop _ rfl))

/-- one name -/
theorem go_name {x : Str} {px : Pos} {scope : Scope} {cl : List (Str × Addr)} {I : Addr} {n : Nat} {P : Nat → Value → Prop} {St : Nat → Heap → Prop} {S : List (Addr × Obj) → Prop} (hkind : scope.kind = .function) (hx : scope.names.lookup x = some .local) :
    GoC prog w A h₀ L env (.Name x px) scope cl I n P St S (fun _ v m => m x = some v) := by
  intro s C i v h m' news tk E' K hi hP hst hn N hS hK
  refine wpAny_of_eq (a := ()) rfl ?_
  refine wpAny_assign_Name (wpAny_storeName_local (lookup_relabel_local hx) hn (fun h₃ hn₃ hs₃ => ?_) (by simp [compEnvC, relabel, hkind]))
  exact hK h₃ _ _ hn₃ (by simp) fun b o hb e => hs₃.extBut b o hb e

noncomputable def RgSrc (prog : Program) (w : World) (A : Around) (h₀ : Heap) (L : Addr) (m : Str → Option Value) (env : Env) (elt : Expr) (x : Str) (scope : Scope) (cl : List (Str × Addr)) (Q : Value → Shared → Prop) (xv : Value) (s₁ : Shared) : Prop :=
  ∃ r a b c t u v n news, xv = .ref r ∧ A.handled = none ∧ Fr h₀ L s₁.heap m ∧ News h₀ L s₁.heap news ∧ IsRange s₁.heap r a b c t u v ∧ Builtin.Range.small a b c = true ∧ Builtin.Range.rangeSize a b c = ((n : Nat) : Int) ∧ n ≤ sizeLine ∧
      ∃ Inv : Nat → List Value → List (Addr × Obj) → Prop, Inv 0 [] news ∧
      (∀ i t ys news' I oI C oC D m₂ g h tk (E' : Value → Shared → Prop), i < n → Inv i ys news' → m₂ x = some (.int (a + (i : Nat) * c) t) → NsObj oC m₂ → Fr h₀ L h m → News h₀ L h ((I, oI) :: (C, oC) :: (D, lst ys) :: news') → Off3 I C D news' → ((@Ne Nat I C) ∧ (@Ne Nat I D) ∧ (@Ne Nat C D)) →
        wpAny (model prog w) A (eval elt (compEnvC scope cl C env)) (CompEnd h₀ L m { s₁ with heap := h, toks := tk, gens := g } I oI C oC D (lst ys) (fun _ => True) (fun y news'' => Inv (i + 1) (ys ++ [y]) news'')) E' { s₁ with heap := h, toks := tk, gens := g }) ∧
      (∀ ys news', Inv n ys news' → FinE h₀ L m s₁ Q ys news')
/-- a comprehension over a range of any step -/
theorem comp_range {elt iter : Expr} {x : Str} {px : Pos} {scope : Scope} {cl : List (Str × Addr)} {pos : Pos} {Q : Value → Shared → Prop}
    (F₀ : Fr h₀ L s.heap m)
    (hclos : closureFor scope env = pure cl) (hcell : ∀ y ∈ scope.names, y.2 ≠ .cell) (hkind : scope.kind = .function)
    (hnames : ∀ y ∈ scope.names, y.2 = .local → scope.names.lookup y.1 = some .local) (hx : scope.names.lookup x = some .local)
    (h : wpAny (model prog w) A (eval iter env) (RgSrc prog w A h₀ L m env elt x scope cl Q) E s)
    (hs : ∀ x, foldedSetIterable iter env x = pure x := by intro _; rfl) :
    wpAny (model prog w) A (eval (.ListComp elt [⟨.Name x px, iter, [], 0⟩] scope pos) env) Q E s := by
  rw [eval_ListComp]
  refine wpAny_comprehension_free (use := none) rfl hs hclos hkind hnames (wpAny_mono h (fun xv s₁ h₁ => ?_) fun _ _ e => e)
  obtain ⟨r, a, b, c, t, u, v, n, news, rfl, hh, F, N, hr, hsm, hn, hsz, Inv, h0, step, fin⟩ := h₁
  refine wpAny_pyIter_range hr hsm ?_
  refine block_G (Inv := Inv) (S := fun _ => True) (Walks.range hh s₁.heap.objs.size a c n) hsz (fun i h st => ⟨_, st⟩) ?_ hcell hkind ?_ (fun b hb => ?_) (go_name hkind hx)
      (F.keeps fun _ _ e => Heap.get?_push_of_some _ e) (N.grown fun _ _ e => Heap.get?_push_of_some _ e) (Nat.ne_of_lt F.ns.lt) (next_is_new F) (fun p hp => Nat.ne_of_lt (Heap.lt_size (N p hp).1)) trivial h0 ?_ ?_
  · intro i h h' o nw st e e' _ _ _
    have st' : h.get? _ = some _ := st
    show h'.get? _ = some _
    rw [e', ← e]; exact st'
  · show IsRangeIter _ _ _ _ _
    have e1 : a + ((0 : Nat) : Int) * c = a := by simp
    have e2 : (n : Int) - ((0 : Nat) : Int) = Builtin.Range.rangeSize a b c := by rw [hn]; simp
    rw [e1, e2]
    exact Heap.get?_push_size _ rfl
  · rw [List.mem_singleton.mp hb]
    show s₁.heap.objs.size < (s₁.heap.push _).objs.size
    rw [Heap.size_push]; exact Nat.lt_succ_self _
  · intro i v ys news' hi hP hI _ oI C oC D m₂ h tk E' hB hoC F' N' off hne
    obtain ⟨t', rfl⟩ := hP
    exact step i t' ys news' _ oI C oC D m₂ s₁.gens h tk E' hi hI hB hoC F' N' off hne
  · intro D C h tk m' ys news' F' N' o1 hn hC₀ hD₀ hCL hDL hCD offC hI
    refine ⟨m', hn, fun h'' hs'' => fin _ _ hI D h'' tk (F'.change hs'' hCL hC₀) (fun p hp => ?_) o1⟩
    refine ⟨hs''.extBut _ _ ?_ (N' p hp).1, (N' p hp).2⟩
    rcases List.mem_cons.mp hp with rfl | hp
    · exact Ne.symm hCD
    · exact offC p hp
end

end

section
/-! part G2 -/
open PySem.Spec PySem.Calls PyProof.Rows.LCg
set_option maxRecDepth 100000
section
variable {prog : Program} {w : World} {A : Around} {E : Value → Shared → Prop} {s : Shared} {h₀ : Heap} {L : Addr} {m : Str → Option Value} {env : Env}

/-- two names, the second one's value told -/
theorem go_tup2 {x y : Str} {px py tp : Pos} {kk : Nat} {scope : Scope} {cl : List (Str × Addr)} {I ax : Addr} {its : Array Value} {n : Nat} {P : Nat → Value → Prop} {S : List (Addr × Obj) → Prop} {Z : Nat → Value → Prop} (hh : A.handled = none) (hkind : scope.kind = .function)
    (hx : scope.names.lookup x = some .local) (hy : scope.names.lookup y = some .local)
    (hS : ∀ nw i v, S nw → i < n → P i v → ∃ T o v1 v2 k, v = .ref T ∧ (T, o) ∈ nw ∧ o.cls = .type "tuple" ∧ o.data = .seq #[v1, v2] k ∧ Z i v2) :
    GoC prog w A h₀ L env (.Tuple [.Name x px, .Name y py] kk tp) scope cl I n P (fun i h => h.IsListIter I ax i ∧ h.IsList ax its) S (fun i _ m => ∃ z, Z i z ∧ m y = some z) := by
  intro s C i v h m' news tk E' K hi hP hst hn N hS' hK
  obtain ⟨T, o, v1, v2, k, rfl, hm, hc, hd, hz⟩ := hS _ _ _ hS' hi hP
  refine wpAny_letOwnedTupleGo_listiter hst.1 ?_
  have ht : IsTup h T #[v1, v2] := ⟨o, (N _ hm).1, hc, k, hd⟩
  refine assign_Tuple_tuple hh ht rfl rfl fun h₅ he => ?_
  have he' : ∀ b o, h.get? b = some o → h₅.get? b = some o := fun b o e => he b o (Nat.ne_of_lt (Heap.lt_size e)) e
  refine assignInOrder_cons (wpAny_assign_Name (wpAny_storeName_local (lookup_relabel_local hx) (hn.at' fun o e => he' _ o e) (fun h₆ hn₆ hs₆ => ?_) (by simp [compEnvC, relabel, hkind])))
  refine assignInOrder_cons (wpAny_assign_Name (wpAny_storeName_local (lookup_relabel_local hy) hn₆ (fun h₃ hn₃ hs₃ => ?_) (by simp [compEnvC, relabel, hkind])))
  refine assignInOrder_nil ?_
  exact hK h₃ _ _ hn₃ ⟨v2, hz, by simp⟩ fun b o hb e => hs₃.extBut b o hb (hs₆.extBut b o hb (he' b o e))
theorem go_tup3 {x y z : Str} {px py pz tp : Pos} {kk : Nat} {scope : Scope} {cl : List (Str × Addr)} {I ax : Addr} {its : Array Value} {n : Nat} {P : Nat → Value → Prop} {S : List (Addr × Obj) → Prop} {Z : Nat → Value → Prop} (hh : A.handled = none) (hkind : scope.kind = .function)
    (hx : scope.names.lookup x = some .local) (hy : scope.names.lookup y = some .local) (hz : scope.names.lookup z = some .local)
    (hS : ∀ nw i v, S nw → i < n → P i v → ∃ T o v1 v2 v3 k, v = .ref T ∧ (T, o) ∈ nw ∧ o.cls = .type "tuple" ∧ o.data = .seq #[v1, v2, v3] k ∧ Z i v3) :
    GoC prog w A h₀ L env (.Tuple [.Name x px, .Name y py, .Name z pz] kk tp) scope cl I n P (fun i h => h.IsListIter I ax i ∧ h.IsList ax its) S (fun i _ m => ∃ v, Z i v ∧ m z = some v) := by
  intro s C i v h m' news tk E' K hi hP hst hn N hS' hK
  obtain ⟨T, o, v1, v2, v3, k, rfl, hm, hc, hd, hz'⟩ := hS _ _ _ hS' hi hP
  refine wpAny_letOwnedTupleGo_listiter hst.1 ?_
  have ht : IsTup h T #[v1, v2, v3] := ⟨o, (N _ hm).1, hc, k, hd⟩
  refine assign_Tuple_tuple hh ht rfl rfl fun h₅ he => ?_
  have he' : ∀ b o, h.get? b = some o → h₅.get? b = some o := fun b o e => he b o (Nat.ne_of_lt (Heap.lt_size e)) e
  refine assignInOrder_cons (wpAny_assign_Name (wpAny_storeName_local (lookup_relabel_local hx) (hn.at' fun o e => he' _ o e) (fun h₆ hn₆ hs₆ => ?_) (by simp [compEnvC, relabel, hkind])))
  refine assignInOrder_cons (wpAny_assign_Name (wpAny_storeName_local (lookup_relabel_local hy) hn₆ (fun h₇ hn₇ hs₇ => ?_) (by simp [compEnvC, relabel, hkind])))
  refine assignInOrder_cons (wpAny_assign_Name (wpAny_storeName_local (lookup_relabel_local hz) hn₇ (fun h₃ hn₃ hs₃ => ?_) (by simp [compEnvC, relabel, hkind])))
  refine assignInOrder_nil ?_
  exact hK h₃ _ _ hn₃ ⟨v3, hz', by simp⟩ fun b o hb e => hs₃.extBut b o hb (hs₇.extBut b o hb (hs₆.extBut b o hb (he' b o e)))

noncomputable def LiSrc (prog : Program) (w : World) (A : Around) (h₀ : Heap) (L : Addr) (m : Str → Option Value) (env : Env) (elt target : Expr) (scope : Scope) (cl : List (Str × Addr)) (Q : Value → Shared → Prop) (xv : Value) (s₁ : Shared) : Prop :=
  ∃ ax its news, xv = .ref ax ∧ A.handled = none ∧ Fr h₀ L s₁.heap m ∧ News h₀ L s₁.heap news ∧ its.size ≤ sizeLine ∧
      ∃ (S : List (Addr × Obj) → Prop) (B : Nat → Value → (Str → Option Value) → Prop), (∀ nw, S nw → SrcAt h₀ ax its nw) ∧ S news ∧
      (∀ I, GoC prog w A h₀ L env target scope cl I its.size (fun i v => its[i]? = some v) (fun i h => h.IsListIter I ax i ∧ h.IsList ax its) S B) ∧
      ∃ Inv : Nat → List Value → List (Addr × Obj) → Prop, Inv 0 [] news ∧
      (∀ i v ys news' I oI C oC D m₂ g h tk (E' : Value → Shared → Prop), its[i]? = some v → Inv i ys news' → S news' → B i v m₂ → NsObj oC m₂ → Fr h₀ L h m → News h₀ L h ((I, oI) :: (C, oC) :: (D, lst ys) :: news') → Off3 I C D news' → ((@Ne Nat I C) ∧ (@Ne Nat I D) ∧ (@Ne Nat C D)) →
        wpAny (model prog w) A (eval elt (compEnvC scope cl C env)) (CompEnd h₀ L m { s₁ with heap := h, toks := tk, gens := g } I oI C oC D (lst ys) S (fun y news'' => Inv (i + 1) (ys ++ [y]) news'')) E' { s₁ with heap := h, toks := tk, gens := g }) ∧
      (∀ ys news', Inv its.size ys news' → FinE h₀ L m s₁ Q ys news')
/-- a comprehension over a list of the ledger, any target -/
theorem comp_list {elt target iter : Expr} {scope : Scope} {cl : List (Str × Addr)} {pos : Pos} {Q : Value → Shared → Prop}
    (F₀ : Fr h₀ L s.heap m)
    (hclos : closureFor scope env = pure cl) (hcell : ∀ y ∈ scope.names, y.2 ≠ .cell) (hkind : scope.kind = .function)
    (hnames : ∀ y ∈ scope.names, y.2 = .local → scope.names.lookup y.1 = some .local)
    (h : wpAny (model prog w) A (eval iter env) (LiSrc prog w A h₀ L m env elt target scope cl Q) E s)
    (hs : ∀ x, foldedSetIterable iter env x = pure x := by intro _; rfl) :
    wpAny (model prog w) A (eval (.ListComp elt [⟨target, iter, [], 0⟩] scope pos) env) Q E s := by
  rw [eval_ListComp]
  refine wpAny_comprehension_free (use := none) rfl hs hclos hkind hnames (wpAny_mono h (fun xv s₁ h₁ => ?_) fun _ _ e => e)
  obtain ⟨ax, its, news, rfl, hh, F, N, hsz, S, B, hSS, hS, go, Inv, h0, step, fin⟩ := h₁
  have hl := (hSS _ hS).list F.keep N
  have hlt : ax < s₁.heap.objs.size := by obtain ⟨_, e, _⟩ := hl; exact Heap.lt_size e
  refine wpAny_pyIter_list hl ?_
  have up : ∀ b o, s₁.heap.get? b = some o → (s₁.heap.push { cls := .type "list_iterator", data := .fields #[.ref ax, .int 0 0] }).get? b = some o := fun b o e => Heap.get?_push_of_some _ e
  refine block_G (Inv := Inv) (S := S) (Walks.list hh s₁.heap.objs.size ax (Nat.ne_of_lt hlt) its) hsz (fun i h st => by obtain ⟨o, e, _⟩ := st.1; exact ⟨o, e⟩) (fun i h h' o nw st e e' k N' S' => list_st i h h' o nw st e e' k N' (hSS _ S')) hcell hkind ⟨⟨_, Heap.get?_push_size _ rfl, rfl, rfl⟩, hl.push _⟩ (fun b hb => ?_) (go _)
      (F.keeps up) (N.grown up) (Nat.ne_of_lt F.ns.lt) (next_is_new F) (fun p hp => Nat.ne_of_lt (Heap.lt_size (N p hp).1)) hS h0 ?_ ?_
  · show b < (s₁.heap.push _).objs.size
    rw [Heap.size_push]
    rcases List.mem_cons.mp hb with rfl | hb
    · exact Nat.lt_succ_self _
    · rw [List.mem_singleton.mp hb]; exact Nat.lt_succ_of_lt hlt
  · intro i v ys news' hi hP hI hS' oI C oC D m₂ h tk E' hB hoC F' N' off hne
    exact step i v ys news' _ oI C oC D m₂ s₁.gens h tk E' hP hI hS' hB hoC F' N' off hne
  · intro D C h tk m' ys news' F' N' o1 hn hC₀ hD₀ hCL hDL hCD offC hI
    refine ⟨m', hn, fun h'' hs'' => fin _ _ hI D h'' tk (F'.change hs'' hCL hC₀) (fun p hp => ?_) o1⟩
    refine ⟨hs''.extBut _ _ ?_ (N' p hp).1, (N' p hp).2⟩
    rcases List.mem_cons.mp hp with rfl | hp
    · exact Ne.symm hCD
    · exact offC p hp
end

end

section
/-! part G3 -/
open PySem.Spec PySem.Calls PyProof.Rows.LCg
set_option maxRecDepth 100000
section
variable {prog : Program} {w : World} {A : Around} {E : Value → Shared → Prop} {s : Shared} {h₀ : Heap} {L : Addr} {m : Str → Option Value} {env : Env}

theorem turn2a (elt t1 i1 t2 i2 : Expr) (scope : Scope) (pos : Pos) (it acc : Value) (env : Env) :
    compTurn (.ListComp elt [⟨t1, i1, [], 0⟩, ⟨t2, i2, [], 0⟩] scope pos) 0 it acc env = (standAt i1.pos >>= fun _ => pyNext it >>= fun r => match r with
      | none => pure (.done .next)
      | some v => letOwnedTupleGo t1 it v >>= fun _ => assign t1 env v >>= fun _ => eval i2 env >>= fun x => standAt i2.pos >>= fun _ => foldedSetIterable i2 env x >>= fun x =>
        holding [x] (pyIter x) >>= fun it2 => runOwn (.compStart (.ListComp elt [⟨t1, i1, [], 0⟩, ⟨t2, i2, [], 0⟩] scope pos) 1 it2 acc env) env >>= fun _ =>
          again (.compLoop (.ListComp elt [⟨t1, i1, [], 0⟩, ⟨t2, i2, [], 0⟩] scope pos) 0 it acc env)) := by rfl
theorem turn2b (elt t1 i1 t2 i2 : Expr) (scope : Scope) (pos : Pos) (it acc : Value) (env : Env) :
    compTurn (.ListComp elt [⟨t1, i1, [], 0⟩, ⟨t2, i2, [], 0⟩] scope pos) 1 it acc env = (standAt i2.pos >>= fun _ => pyNext it >>= fun r => match r with
      | none => pure (.done .next)
      | some v => letOwnedTupleGo t2 it v >>= fun _ => assign t2 env v >>= fun _ =>
        (eval elt env >>= fun x => call (.builtin "list.append") [acc, x] >>= fun _ => pure ()) >>= fun _ =>
          again (.compLoop (.ListComp elt [⟨t1, i1, [], 0⟩, ⟨t2, i2, [], 0⟩] scope pos) 1 it acc env)) := by rfl
theorem start2b {elt t1 i1 t2 i2 scope pos it acc env} {R : Result → Shared → Prop}
    (h0 : codeAny (model prog w) A (.compLoop (.ListComp elt [⟨t1, i1, [], 0⟩, ⟨t2, i2, [], 0⟩] scope pos) 1 it acc env) R s)
    (h : wpAny (model prog w) A (pyIter it) (fun it' s' => codeAny (model prog w) A (.compLoop (.ListComp elt [⟨t1, i1, [], 0⟩, ⟨t2, i2, [], 0⟩] scope pos) 1 it' acc env) R s')
      (notedBy (model prog w) A env fun x s' => R (.error x) s') s) :
    codeAny (model prog w) A (.compStart (.ListComp elt [⟨t1, i1, [], 0⟩, ⟨t2, i2, [], 0⟩] scope pos) 1 it acc env) R s := by
  refine codeAny_of_tree ?_
  show wpAny _ _ ((compStart (.ListComp elt [⟨t1, i1, [], 0⟩, ⟨t2, i2, [], 0⟩] scope pos) 1 it acc env).onRaise (fun x => do noteFrame x env; standAt theWindowsPlace)) _ _ s
  refine wpAny_notedAt ?_
  unfold compStart
  show wpAny _ _ (ask >>= _) _ _ s
  refine wpAny_bind (wpAny_askSetting (wpAny_ite ?_))
  split
  · first
      | exact wpAny_bind (wpAny_pure (wpAny_pure (And.intro rfl h0)))
      | exact wpAny_pure (And.intro rfl h0)
  · first
      | exact wpAny_bind (wpAny_rule (wpAny_bind (wpAny_standAt (wpAny_bind (wpAny_mono h (fun it' s' h' => wpAny_pure (And.intro rfl h')) fun _ _ x => x)))))
      | (refine wpAny_bind (wpAny_rule ?_); show wpAny _ _ (standAt i2.pos >>= _) _ _ s; exact wpAny_bind (wpAny_standAt (wpAny_bind (wpAny_mono h (fun it' s' h' => wpAny_pure (And.intro rfl h')) fun _ _ x => x))))

theorem nest_loop {elt iter iter2 : Expr} {x y : Str} {px py : Pos} {scope : Scope} {cl : List (Str × Addr)} {pos : Pos} {Q : Value → Shared → Prop} {s₁ : Shared} {h₁ : Heap} {tk₀ : Nat} {m₀ : Str → Option Value} {I C D ax : Addr} {its : Array Value} {news : List (Addr × Obj)} {Inv : Nat → List Value → Prop}
    (hkind : scope.kind = .function) (hx : scope.names.lookup x = some .local) (hy : scope.names.lookup y = some .local) (hxy : x ≠ y) (hh : A.handled = none)
    (W : Walks prog w A I [I, ax] [I] its.size (fun i v => its[i]? = some v) (fun i h => h.IsListIter I ax i ∧ h.IsList ax its))
    (hsz : 2 * its.size ≤ sizeLine) (hSrc : SrcAt h₀ ax its news) (h0 : Inv 0 [])
    (hit2 : ∀ (i : Nat) v ys I oI C oC D m₂ h tk (E' : Value → Shared → Prop), its[i]? = some v → m₂ x = some v → NsObj oC m₂ → Fr h₀ L h m → News h₀ L h ((I, oI) :: (C, oC) :: (D, lst ys) :: news) → Off3 I C D news → ((@Ne Nat I C) ∧ (@Ne Nat I D) ∧ (@Ne Nat C D)) →
        wpAny (model prog w) A (eval iter2 (compEnvC scope cl C env)) (fun xv s' => ∃ r t u v' h' tk', xv = .ref r ∧ s' = { s₁ with heap := h', toks := tk' } ∧ Fr h₀ L h' m ∧ News h₀ L h' ((I, oI) :: (C, oC) :: (D, lst ys) :: news) ∧ IsRange h' r 0 2 1 t u v') E' { s₁ with heap := h, toks := tk })
    (helt : ∀ (i j : Nat) v t ys I oI C oC D m₂ h tk (E' : Value → Shared → Prop), its[i]? = some v → j < 2 → Inv (2 * i + j) ys → m₂ x = some v → m₂ y = some (.int (j : Nat) t) → NsObj oC m₂ → Fr h₀ L h m → News h₀ L h ((I, oI) :: (C, oC) :: (D, lst ys) :: news) → Off3 I C D news → ((@Ne Nat I C) ∧ (@Ne Nat I D) ∧ (@Ne Nat C D)) →
        wpAny (model prog w) A (eval elt (compEnvC scope cl C env)) (fun z s' => (∃ tk', s' = { s₁ with heap := h, toks := tk' }) ∧ Inv (2 * i + j + 1) (ys ++ [z])) E' { s₁ with heap := h, toks := tk })
    (fin : ∀ ys, Inv (2 * its.size) ys → FinE h₀ L m s₁ Q ys news) (hs2 : ∀ env' x, foldedSetIterable iter2 env' x = pure x)
    (hIL : L ≠ I) (hI₀ : h₀.get? I = none) (hDC : D ≠ C) (hD₀ : h₀.get? D = none) (hC₀ : h₀.get? C = none) (hDL : D ≠ L) (hCL : C ≠ L) (hCI : I ≠ C) (hDI : I ≠ D) (hoff : Off3 I C D news) (hCf : C ∉ [I, ax])
    (hst₁ : h₁.IsListIter I ax 0 ∧ h₁.IsList ax its) (F₂ : Fr h₀ L h₁ m) (N₂ : News h₀ L h₁ news) (hns₁ : h₁.Ns C m₀) (hacc : h₁.get? D = some (lst [])) :
    codeAny (model prog w) A (.compLoop (.ListComp elt [⟨.Name x px, iter, [], 0⟩, ⟨.Name y py, iter2, [], 0⟩] scope pos) 0 (.ref I) (.ref D) (compEnvC scope cl C env))
        (compPost (model prog w) A E none Q (.ref D) C) { s₁ with heap := h₁, toks := tk₀ } := by
  have off3 := hoff.mem
  have hCI' : ((@Ne Nat I C) ∧ (@Ne Nat I D) ∧ (@Ne Nat C D)) := ⟨hCI, hDI, Ne.symm hDC⟩
  refine codeAny_loop rfl (fun k s' => ∃ h' tk i ys m', s' = { s₁ with heap := h', toks := tk } ∧ i ≤ its.size ∧ k = its.size + 1 - i ∧ ys.length = 2 * i ∧ (h'.IsListIter I ax i ∧ h'.IsList ax its) ∧ Fr h₀ L h' m ∧ h'.Ns C m' ∧ News h₀ L h' ((D, lst ys) :: news) ∧ Inv (2 * i) ys) ?_ (its.size + 1)
    ⟨h₁, _, 0, [], _, rfl, Nat.zero_le _, rfl, rfl, hst₁, F₂, hns₁, fun p hp => ?_, h0⟩
  · rintro k s' ⟨h', tk, i, ys, m', rfl, hi, rfl, hyl, hst', F', hn', N', hI'⟩
    show wpAny _ A ((compTurn (.ListComp elt [⟨.Name x px, iter, [], 0⟩, ⟨.Name y py, iter2, [], 0⟩] scope pos) 0 (.ref I) (.ref D) (compEnvC scope cl C env)).onRaise (fun x => do noteFrame x (compEnvC scope cl C env); theTreesLotGoes x)) _ _ _
    refine wpAny_noted ?_
    rw [turn2a]
    refine wpAny_bind (wpAny_standAt (wpAny_bind ?_))
    by_cases hlt' : i < its.size
    · refine W.item i _ _ _ hlt' hst' fun v h₂ tk₂ hPv hst₂ hk₂ => ?_
      dsimp only
      refine wpAny_bind (wpAny_of_eq (a := ()) rfl ?_)
      refine wpAny_bind (wpAny_assign_Name (wpAny_storeName_local (lookup_relabel_local hx) (hn'.at' fun o e => hk₂ _ o (by simpa using Ne.symm hCI) e) (fun h₃ hn₃ hs₃ => ?_) (by simp [compEnvC, relabel, hkind])))
      have F₂' : Fr h₀ L h₂ m := fr_but F' hk₂ hIL hI₀
      have F₃ : Fr h₀ L h₃ m := F₂'.change hs₃ hCL hC₀
      have N₂' : News h₀ L h₂ ((D, lst ys) :: news) := news_but N' hk₂ fun p hp => by
        rcases List.mem_cons.mp hp with rfl | hp
        · exact Ne.symm hDI
        · exact (off3 p hp).1
      have hst₃ : h₃.IsListIter I ax (i + 1) ∧ h₃.IsList ax its := W.frame _ _ _ hst₂ fun b hb o e => hs₃.extBut b o (fun q => hCf (by have q' : b = C := q; rw [← q']; exact hb)) e
      obtain ⟨oI, heI, hoI⟩ := hst₃.1
      obtain ⟨oC, heC, hoC⟩ := ns_obj hn₃
      have N₃ : News h₀ L h₃ ((I, oI) :: (C, oC) :: (D, lst ys) :: news) := fun p hp => by
        rcases List.mem_cons.mp hp with rfl | hp
        · exact ⟨heI, Ne.symm hIL, hI₀⟩
        · rcases List.mem_cons.mp hp with rfl | hp
          · exact ⟨heC, hCL, hC₀⟩
          · have z := N₂' p hp
            refine ⟨hs₃.extBut _ _ ?_ z.1, z.2⟩
            rcases List.mem_cons.mp hp with rfl | hp
            · exact hDC
            · exact (off3 p hp).2.1
      refine wpAny_bind (wpAny_mono (hit2 i v ys I oI C oC D _ h₃ _ _ hPv (by simp) hoC F₃ N₃ hoff hCI') (fun xv s₄ h₄ => ?_) fun _ _ e => e)
      obtain ⟨r, t, u, v', h₄, tk₄, rfl, rfl, F₄, N₄, hr⟩ := h₄
      refine wpAny_bind (wpAny_standAt (wpAny_bind (wpAny_of_eq (hs2 _ _) (wpAny_bind (wpAny_holding (wpAny_pyIter_range hr (by decide) ?_))))))
      have W2 := Walks.range (prog := prog) (w := w) (A := A) hh h₄.objs.size 0 1 2
      have hJ : IsRangeIter (h₄.push { cls := .type "range_iterator", data := .fields #[rawInt 0, rawInt (Builtin.Range.rangeSize 0 2 1), rawInt 1] }) h₄.objs.size (0 + ((0 : Nat) : Int) * 1) (((2 : Nat) : Int) - ((0 : Nat) : Int)) 1 := Heap.get?_push_size _ rfl
      have up4 : ∀ b o, h₄.get? b = some o → (h₄.push { cls := .type "range_iterator", data := .fields #[rawInt 0, rawInt (Builtin.Range.rangeSize 0 2 1), rawInt 1] }).get? b = some o := fun b o e => Heap.get?_push_of_some _ e
      have F₅ := F₄.keeps up4
      have N₅ := N₄.grown up4
      have hnew : ∀ p ∈ (I, oI) :: (C, oC) :: (D, lst ys) :: news, p.1 ≠ h₄.objs.size := fun p hp => Nat.ne_of_lt (Heap.lt_size (N₄ p hp).1)
      have hLJ : L ≠ h₄.objs.size := Nat.ne_of_lt F₄.ns.lt
      have hJ₀ := next_is_new F₄
      have hJax : ax ≠ h₄.objs.size := Nat.ne_of_lt (by obtain ⟨_, e, _⟩ := hSrc.list F₄.keep (fun p hp => N₄ p (.tail _ (.tail _ (.tail _ hp)))); exact Heap.lt_size e)
      generalize h₄.push { cls := .type "range_iterator", data := .fields #[rawInt 0, rawInt (Builtin.Range.rangeSize 0 2 1), rawInt 1] } = h₅ at hJ F₅ N₅ ⊢
      generalize h₄.objs.size = J at W2 hJ hnew hLJ hJ₀ hJax ⊢
      have hJI : I ≠ J := hnew _ (.head _)
      have hJC : C ≠ J := hnew _ (.tail _ (.head _))
      have hJD : D ≠ J := hnew _ (.tail _ (.tail _ (.head _)))
      refine wpAny_bind (wpAny_runOwn ?_)
      have inner : ∀ (RI : Result → Shared → Prop) (s₆ : Shared), (∀ h₇ tk₇ zs m₆, zs.length = 2 * (i + 1) → (h₇.IsListIter I ax (i + 1) ∧ h₇.IsList ax its) → Fr h₀ L h₇ m → h₇.Ns C m₆ → News h₀ L h₇ ((D, lst zs) :: news) → Inv (2 * (i + 1)) zs → RI (.ok .next) { s₁ with heap := h₇, toks := tk₇ }) →
          (∃ tk₆, s₆ = { s₁ with heap := h₅, toks := tk₆ }) → codeAny (model prog w) A (.compLoop (.ListComp elt [⟨.Name x px, iter, [], 0⟩, ⟨.Name y py, iter2, [], 0⟩] scope pos) 1 (.ref J) (.ref D) (compEnvC scope cl C env)) RI s₆ := by
        rintro RI s₆ hRI ⟨tk₆, rfl⟩
        refine codeAny_loop rfl (fun k s' => ∃ h' tk j zs m' oC', s' = { s₁ with heap := h', toks := tk } ∧ j ≤ 2 ∧ k = 3 - j ∧ zs.length = 2 * i + j ∧ IsRangeIter h' J (0 + (j : Nat) * 1) (((2 : Nat) : Int) - (j : Nat)) 1 ∧ Fr h₀ L h' m ∧ NsObj oC' m' ∧ m' x = some v ∧ News h₀ L h' ((I, oI) :: (C, oC') :: (D, lst zs) :: news) ∧ Inv (2 * i + j) zs) ?_ 3
          ⟨h₅, tk₆, 0, ys, _, oC, rfl, by omega, rfl, hyl, hJ, F₅, hoC, by simp, N₅, hI'⟩
        rintro k' s' ⟨h₆, tk₆, j, zs, m₆, oC', rfl, hj, rfl, hzl, hJ₆, F₆, hoC', hm₆, N₆, hI₆⟩
        show wpAny _ A ((compTurn (.ListComp elt [⟨.Name x px, iter, [], 0⟩, ⟨.Name y py, iter2, [], 0⟩] scope pos) 1 (.ref J) (.ref D) (compEnvC scope cl C env)).onRaise (fun x => do noteFrame x (compEnvC scope cl C env); theTreesLotGoes x)) _ _ _
        refine wpAny_noted ?_
        rw [turn2b]
        refine wpAny_bind (wpAny_standAt (wpAny_bind ?_))
        have offJ : ∀ p ∈ (I, oI) :: (C, oC') :: (D, lst zs) :: news, p.1 ≠ J := fun p hp => by
          rcases List.mem_cons.mp hp with rfl | hp
          · exact hJI
          · rcases List.mem_cons.mp hp with rfl | hp
            · exact hJC
            · rcases List.mem_cons.mp hp with rfl | hp
              · exact hJD
              · exact hnew p (.tail _ (.tail _ (.tail _ hp)))
        by_cases hj2 : j < 2
        · refine W2.item j _ _ _ hj2 hJ₆ fun vj h₇ tk₇ hPj hJ₇ hk₇ => ?_
          obtain ⟨tj, rfl⟩ := hPj
          have N₇ := news_but N₆ hk₇ offJ
          have F₇ := fr_but F₆ hk₇ hLJ hJ₀
          dsimp only
          refine wpAny_bind (wpAny_of_eq (a := ()) rfl ?_)
          refine wpAny_bind (wpAny_assign_Name (wpAny_storeName_local (lookup_relabel_local hy) (hoC'.ns (N₇ _ (.tail _ (.head _))).1) (fun h₈ hn₈ hs₈ => ?_) (by simp [compEnvC, relabel, hkind])))
          obtain ⟨oC₈, heC₈, hoC₈⟩ := ns_obj hn₈
          have N₈ : News h₀ L h₈ ((I, oI) :: (C, oC₈) :: (D, lst zs) :: news) := fun p hp => by
            rcases List.mem_cons.mp hp with rfl | hp
            · exact ⟨hs₈.extBut _ _ hCI (N₇ _ (.head _)).1, (N₇ _ (.head _)).2⟩
            · rcases List.mem_cons.mp hp with rfl | hp
              · exact ⟨heC₈, hCL, hC₀⟩
              · have z := N₇ p (.tail _ (.tail _ hp))
                refine ⟨hs₈.extBut _ _ ?_ z.1, z.2⟩
                rcases List.mem_cons.mp hp with rfl | hp
                · exact hDC
                · exact (off3 p hp).2.1
          have F₈ : Fr h₀ L h₈ m := F₇.change hs₈ hCL hC₀
          have e1 : (0 : Int) + ((j : Nat) : Int) * 1 = (j : Nat) := by omega
          refine wpAny_bind (wpAny_bind (wpAny_mono (helt i j v tj zs I oI C oC₈ D _ h₈ _ _ hPv hj2 hI₆ (by simp [hxy, hm₆]) (by simp) hoC₈ F₈ N₈ hoff hCI') (fun z s₉ h₉ => ?_) fun _ _ e => e))
          obtain ⟨⟨tk₉, rfl⟩, hI₉⟩ := h₉
          have zD := (N₈ (D, lst zs) (.tail _ (.tail _ (.head _)))).1
          refine wpAny_bind (append_at (hsz := by show zs.toArray.size ≤ sizeLine; rw [List.size_toArray, hzl]; omega) zD fun ha hsa hDa => ?_)
          refine wpAny_pure (wpAny_pure ⟨rfl, 3 - (j + 1), by omega, ha, tk₉, j + 1, zs ++ [z], _, oC₈, rfl, by omega, rfl, by rw [List.length_append, List.length_singleton]; omega, ?_, F₈.change hsa hDL hD₀, hoC₈, by simp [hxy, hm₆], fun p hp => ?_, hI₉⟩)
          · exact hsa.extBut _ _ (Ne.symm hJD) (hs₈.extBut _ _ (Ne.symm hJC) hJ₇)
          · rcases List.mem_cons.mp hp with rfl | hp
            · exact ⟨hsa.extBut _ _ hDI (N₈ _ (.head _)).1, (N₈ _ (.head _)).2⟩
            · rcases List.mem_cons.mp hp with rfl | hp
              · exact ⟨hsa.extBut _ _ (Ne.symm hDC) heC₈, hCL, hC₀⟩
              · rcases List.mem_cons.mp hp with rfl | hp
                · exact ⟨hDa.trans (congrArg some (lst_snoc zs z)), hDL, hD₀⟩
                · have z' := N₈ p (.tail _ (.tail _ (.tail _ hp)))
                  exact ⟨hsa.extBut _ _ (off3 p hp).2.2 z'.1, z'.2⟩
        · obtain rfl : j = 2 := by omega
          refine W2.done _ _ _ hJ₆ fun h₇ tk₇ hk₇ => ?_
          have N₇ := news_but N₆ hk₇ offJ
          have F₇ := fr_but F₆ hk₇ hLJ hJ₀
          have N₇' : News h₀ L h₇ news := fun p hp => N₇ p (.tail _ (.tail _ (.tail _ hp)))
          exact wpAny_pure (hRI h₇ tk₇ zs m₆ (by omega) ⟨⟨oI, (N₇ _ (.head _)).1, hoI⟩, hSrc.list F₇.keep N₇'⟩ F₇ (hoC'.ns (N₇ _ (.tail _ (.head _))).1) (fun p hp => N₇ p (.tail _ (.tail _ hp))) hI₆)
      refine start2b (inner _ _ ?_ ⟨_, rfl⟩) (W2.self 0 _ _ _ hJ (inner _ _ ?_ ⟨_, rfl⟩))
      all_goals
        intro h₇ tk₇ zs m₆ a1 a2 a3 a4 a5 a6
        exact wpAny_pure ⟨rfl, its.size + 1 - (i + 1), by omega, h₇, tk₇, i + 1, zs, m₆, rfl, hlt', rfl, a1, a2, a3, a4, a5, a6⟩
    · obtain rfl : i = its.size := by omega
      refine W.done _ _ _ hst' fun h₂ tk₂ hk₂ => ?_
      have N₂' : News h₀ L h₂ ((D, lst ys) :: news) := news_but N' hk₂ fun p hp => by
        rcases List.mem_cons.mp hp with rfl | hp
        · exact Ne.symm hDI
        · exact (off3 p hp).1
      refine wpAny_pure ⟨m', hn'.at' fun o e => hk₂ _ o (by simpa using Ne.symm hCI) e, fun h'' hs'' => fin _ hI' D h'' tk₂ ((fr_but F' hk₂ hIL hI₀).change hs'' hCL hC₀) (fun p hp => ?_) hoff.one⟩
      refine ⟨hs''.extBut _ _ ?_ (N₂' p hp).1, (N₂' p hp).2⟩
      rcases List.mem_cons.mp hp with rfl | hp
      · exact hDC
      · exact (off3 p hp).2.1
  · rcases List.mem_cons.mp hp with rfl | hp
    · exact ⟨hacc, hDL, hD₀⟩
    · exact N₂ p hp

noncomputable def NeSrc (prog : Program) (w : World) (A : Around) (h₀ : Heap) (L : Addr) (m : Str → Option Value) (env : Env) (elt iter2 : Expr) (x y : Str) (scope : Scope) (cl : List (Str × Addr)) (Q : Value → Shared → Prop) (xv : Value) (s₁ : Shared) : Prop :=
  ∃ ax its news, xv = .ref ax ∧ A.handled = none ∧ Fr h₀ L s₁.heap m ∧ News h₀ L s₁.heap news ∧ 2 * its.size ≤ sizeLine ∧ SrcAt h₀ ax its news ∧
      ∃ Inv : Nat → List Value → Prop, Inv 0 [] ∧
      (∀ (i : Nat) v ys I oI C oC D m₂ h tk (E' : Value → Shared → Prop), its[i]? = some v → m₂ x = some v → NsObj oC m₂ → Fr h₀ L h m → News h₀ L h ((I, oI) :: (C, oC) :: (D, lst ys) :: news) → Off3 I C D news → ((@Ne Nat I C) ∧ (@Ne Nat I D) ∧ (@Ne Nat C D)) →
        wpAny (model prog w) A (eval iter2 (compEnvC scope cl C env)) (fun xv s' => ∃ r t u v' h' tk', xv = .ref r ∧ s' = { s₁ with heap := h', toks := tk' } ∧ Fr h₀ L h' m ∧ News h₀ L h' ((I, oI) :: (C, oC) :: (D, lst ys) :: news) ∧ IsRange h' r 0 2 1 t u v') E' { s₁ with heap := h, toks := tk }) ∧
      (∀ (i j : Nat) v t ys I oI C oC D m₂ h tk (E' : Value → Shared → Prop), its[i]? = some v → j < 2 → Inv (2 * i + j) ys → m₂ x = some v → m₂ y = some (.int (j : Nat) t) → NsObj oC m₂ → Fr h₀ L h m → News h₀ L h ((I, oI) :: (C, oC) :: (D, lst ys) :: news) → Off3 I C D news → ((@Ne Nat I C) ∧ (@Ne Nat I D) ∧ (@Ne Nat C D)) →
        wpAny (model prog w) A (eval elt (compEnvC scope cl C env)) (fun z s' => (∃ tk', s' = { s₁ with heap := h, toks := tk' }) ∧ Inv (2 * i + j + 1) (ys ++ [z])) E' { s₁ with heap := h, toks := tk }) ∧
      (∀ ys, Inv (2 * its.size) ys → FinE h₀ L m s₁ Q ys news)
/-- a comprehension of two parts: over a list, and for each of its items over range(2) -/
theorem comp_nest {elt iter iter2 : Expr} {x y : Str} {px py : Pos} {scope : Scope} {cl : List (Str × Addr)} {pos : Pos} {Q : Value → Shared → Prop}
    (F₀ : Fr h₀ L s.heap m)
    (hclos : closureFor scope env = pure cl) (hcell : ∀ y ∈ scope.names, y.2 ≠ .cell) (hkind : scope.kind = .function)
    (hnames : ∀ y ∈ scope.names, y.2 = .local → scope.names.lookup y.1 = some .local) (hx : scope.names.lookup x = some .local) (hy : scope.names.lookup y = some .local) (hxy : x ≠ y)
    (h : wpAny (model prog w) A (eval iter env) (NeSrc prog w A h₀ L m env elt iter2 x y scope cl Q) E s)
    (hs : ∀ x, foldedSetIterable iter env x = pure x := by intro _; rfl) (hs2 : ∀ env' x, foldedSetIterable iter2 env' x = pure x := by intro _ _; rfl) :
    wpAny (model prog w) A (eval (.ListComp elt [⟨.Name x px, iter, [], 0⟩, ⟨.Name y py, iter2, [], 0⟩] scope pos) env) Q E s := by
  rw [eval_ListComp]
  refine wpAny_comprehension_free (use := none) rfl hs hclos hkind hnames (wpAny_mono h (fun xv s₁ h₁ => ?_) fun _ _ e => e)
  obtain ⟨ax, its, news, rfl, hh, F, N, hsz, hSrc, Inv, h0, hit2, helt, fin⟩ := h₁
  have hl := hSrc.list F.keep N
  have hlt : ax < s₁.heap.objs.size := by obtain ⟨_, e, _⟩ := hl; exact Heap.lt_size e
  refine wpAny_pyIter_list hl ?_
  have up : ∀ b o, s₁.heap.get? b = some o → (s₁.heap.push { cls := .type "list_iterator", data := .fields #[.ref ax, .int 0 0] }).get? b = some o := fun b o e => Heap.get?_push_of_some _ e
  have W := Walks.list (prog := prog) (w := w) hh s₁.heap.objs.size ax (Nat.ne_of_lt hlt) its
  have F₁ := F.keeps up
  have N₁ := N.grown up
  have hIo : (s₁.heap.push { cls := .type "list_iterator", data := .fields #[.ref ax, .int 0 0] }).IsListIter s₁.heap.objs.size ax 0 := ⟨_, Heap.get?_push_size _ rfl, rfl, rfl⟩
  have hl₁ : (s₁.heap.push { cls := .type "list_iterator", data := .fields #[.ref ax, .int 0 0] }).IsList ax its := hl.push _
  have hIL : L ≠ s₁.heap.objs.size := Nat.ne_of_lt F.ns.lt
  have hI₀ := next_is_new F
  have hIlt : s₁.heap.objs.size < (s₁.heap.push { cls := .type "list_iterator", data := .fields #[.ref ax, .int 0 0] }).objs.size := by rw [Heap.size_push]; exact Nat.lt_succ_self _
  have offI : ∀ p ∈ news, p.1 ≠ s₁.heap.objs.size := fun p hp => Nat.ne_of_lt (Heap.lt_size (N p hp).1)
  have haxI : ax ≠ s₁.heap.objs.size := Nat.ne_of_lt hlt
  obtain ⟨g₁, hg₁⟩ : ∃ g₁, g₁ = s₁.heap.push { cls := .type "list_iterator", data := .fields #[.ref ax, .int 0 0] } := ⟨_, rfl⟩
  rw [← hg₁] at F₁ N₁ hIo hl₁ hIlt ⊢
  obtain ⟨I, hIe⟩ : ∃ I, I = s₁.heap.objs.size := ⟨_, rfl⟩
  rw [← hIe] at W hIo hIL hI₀ hIlt offI haxI ⊢
  refine wpAny_newObj_type (wpAny_newFunctionEnv hcell (by intro y hy; simp at hy) (fun h₁ hns₁ hsb₁ => ?_) hkind)
  dsimp only at hns₁ hsb₁ ⊢
  generalize hH2 : g₁.push { cls := .type "list", dict := none, data := .seq ([] : List Value).toArray } = H2 at hns₁ hsb₁ ⊢
  have hC : H2.objs.size = g₁.objs.size + 1 := by rw [← hH2, Heap.size_push]
  have below : ∀ b, b < g₁.objs.size → b ≠ H2.objs.size ∧ b ≠ g₁.objs.size := fun b hb => ⟨by rw [hC]; exact Nat.ne_of_lt (Nat.lt_succ_of_lt hb), Nat.ne_of_lt hb⟩
  have hDC : g₁.objs.size ≠ H2.objs.size := by rw [hC]; exact Nat.ne_of_lt (Nat.lt_succ_self _)
  have old : ∀ b o, g₁.get? b = some o → h₁.get? b = some o := fun b o e => hsb₁.extBut b o (below b (Heap.lt_size e)).1 (Heap.get?_push_of_some _ (hH2 ▸ Heap.get?_push_of_some _ e))
  have hacc : h₁.get? g₁.objs.size = some (lst []) := hsb₁.extBut _ _ hDC (Heap.get?_push_of_some _ (hH2 ▸ Heap.get?_push_size _ rfl))
  have fresh₀ : ∀ a, g₁.objs.size ≤ a → h₀.get? a = none := fun a ha => by
    cases e : h₀.get? a with
    | none => rfl
    | some o' => exact absurd (Heap.lt_size (F₁.keep a o' e)) (Nat.not_lt.mpr ha)
  have hD₀ : h₀.get? g₁.objs.size = none := fresh₀ _ (Nat.le_refl _)
  have hC₀ : h₀.get? H2.objs.size = none := fresh₀ _ (by rw [hC]; exact Nat.le_succ _)
  have hLlt : L < g₁.objs.size := F₁.ns.lt
  have hDL : g₁.objs.size ≠ L := Ne.symm (below L hLlt).2
  have hCL : H2.objs.size ≠ L := Ne.symm (below L hLlt).1
  have hCI : I ≠ H2.objs.size := (below I hIlt).1
  have hDI : I ≠ g₁.objs.size := (below I hIlt).2
  have hax : ax < g₁.objs.size := by obtain ⟨_, e, _⟩ := hl₁; exact Heap.lt_size e
  have hoff : Off3 I H2.objs.size g₁.objs.size news := Off3.of fun p hp => ⟨offI p hp, (below _ (Heap.lt_size (N₁ p hp).1)).1, (below _ (Heap.lt_size (N₁ p hp).1)).2⟩
  have off3 := hoff.mem
  have hst₁ : h₁.IsListIter I ax 0 ∧ h₁.IsList ax its := ⟨hIo.at fun o e => old _ o e, hl₁.at fun o e => old _ o e⟩
  have F₂ := F₁.keeps old
  have N₂ : News h₀ L h₁ news := N₁.grown old
  have cn : ∀ a : Addr, a ≠ ax → a ≠ I → a ∉ [I, ax] := fun a h1 h2 hm => by
    simp only [List.mem_cons, List.not_mem_nil, or_false] at hm
    exact hm.elim h2 h1
  have hCf : H2.objs.size ∉ [I, ax] := cn _ (Ne.symm (below ax hax).1) (Ne.symm hCI)
  have hDf : g₁.objs.size ∉ [I, ax] := cn _ (Ne.symm (below ax hax).2) (Ne.symm hDI)
  have loop := fun tk₀ => nest_loop (E := E) (px := px) (py := py) (iter := iter) (pos := pos) (tk₀ := tk₀) hkind hx hy hxy hh W hsz hSrc h0 hit2 helt fin hs2 hIL hI₀ hDC hD₀ hC₀ hDL hCL hCI hDI hoff hCf hst₁ F₂ N₂ hns₁ hacc
  exact codeAny_compStart_list (loop _) (W.self 0 _ _ _ hst₁ (loop _))
end

end

section
/-! part G4 -/
open PySem.Spec PySem.Calls PyProof.Rows.LCg
set_option maxRecDepth 100000
section
variable {prog : Program} {w : World} {A : Around} {E : Value → Shared → Prop} {s : Shared} {h₀ : Heap} {L : Addr} {m : Str → Option Value} {env : Env}
noncomputable def LiSrcA (prog : Program) (w : World) (A : Around) (h₀ : Heap) (L : Addr) (m : Str → Option Value) (env : Env) (elt target : Expr) (scope : Scope) (cl : List (Str × Addr)) (y : Str) (Q : Flow → Shared → Prop) (xv : Value) (s₁ : Shared) : Prop :=
  ∃ ax its news, xv = .ref ax ∧ A.handled = none ∧ Fr h₀ L s₁.heap m ∧ News h₀ L s₁.heap news ∧ its.size ≤ sizeLine ∧
      ∃ (S : List (Addr × Obj) → Prop) (B : Nat → Value → (Str → Option Value) → Prop), (∀ nw, S nw → SrcAt h₀ ax its nw) ∧ S news ∧
      (∀ I, GoC prog w A h₀ L env target scope cl I its.size (fun i v => its[i]? = some v) (fun i h => h.IsListIter I ax i ∧ h.IsList ax its) S B) ∧
      ∃ Inv : Nat → List Value → List (Addr × Obj) → Prop, Inv 0 [] news ∧
      (∀ i v ys news' I oI C oC D m₂ g h tk (E' : Value → Shared → Prop), its[i]? = some v → Inv i ys news' → S news' → B i v m₂ → NsObj oC m₂ → Fr h₀ L h m → News h₀ L h ((I, oI) :: (C, oC) :: (D, lst ys) :: news') → Off3 I C D news' → ((@Ne Nat I C) ∧ (@Ne Nat I D) ∧ (@Ne Nat C D)) →
        wpAny (model prog w) A (eval elt (compEnvC scope cl C env)) (CompEnd h₀ L m { s₁ with heap := h, toks := tk, gens := g } I oI C oC D (lst ys) S (fun y news'' => Inv (i + 1) (ys ++ [y]) news'')) E' { s₁ with heap := h, toks := tk, gens := g }) ∧
      (∀ ys news', Inv its.size ys news' → FinA h₀ L m s₁ y Q ys news')
/-- y = [elt for target in a list of the ledger] -/
theorem comp_listA {elt target iter : Expr} {y : Str} {py : Pos} {scope : Scope} {cl : List (Str × Addr)} {pos spos : Pos} {Q : Flow → Shared → Prop}
    (F₀ : Fr h₀ L s.heap m) (hLe : env.locals = L)
    (hsw : swapsWith (.ListComp elt [⟨target, iter, [], 0⟩] scope pos) (some (.Name y py)) spos.line env = pure true)
    (hclos : closureFor scope env = pure cl) (hcell : ∀ y ∈ scope.names, y.2 ≠ .cell) (hkind : scope.kind = .function)
    (hnames : ∀ y ∈ scope.names, y.2 = .local → scope.names.lookup y.1 = some .local)
    (hy : env.kindOf y = some .local) (hp : (env.scope.kind == .class || (env.scope.kind == .module && env.locals != env.globals)) = false)
    (h : wpAny (model prog w) A (eval iter env) (LiSrcA prog w A h₀ L m env elt target scope cl y Q) E s)
    (hs : ∀ x, foldedSetIterable iter env x = pure x := by intro _; rfl) :
    wpAny (model prog w) A (exec (.Assign [.Name y py] (.ListComp elt [⟨target, iter, [], 0⟩] scope pos) spos) env) Q E s := by
  subst hLe
  rw [exec_Assign_Name_used _ _ _ _ hsw]
  refine wpAny_bind (wpAny_standAt (wpAny_bind ?_))
  show wpAny _ A (do let _ ← comprehension (.ListComp elt [⟨target, iter, [], 0⟩] scope pos) scope env _ (newList []) false (eval iter env) (some (assign (.Name y py) env))) _ _ s
  refine wpAny_bind (wpAny_mono (wpAny_comprehension_free (use := some (assign (.Name y py) env)) (Q := fun _ s' => Q .next s') rfl hs hclos hkind hnames
    (wpAny_mono h (fun xv s₁ h₁ => ?_) fun _ _ e => e)) (fun _ s' hq => wpAny_pure (wpAny_pure hq)) fun _ _ e => e)
  obtain ⟨ax, its, news, rfl, hh, F, N, hsz, S, B, hSS, hS, go, Inv, h0, step, fin⟩ := h₁
  have hl := (hSS _ hS).list F.keep N
  have hlt : ax < s₁.heap.objs.size := by obtain ⟨_, e, _⟩ := hl; exact Heap.lt_size e
  refine wpAny_pyIter_list hl ?_
  have up : ∀ b o, s₁.heap.get? b = some o → (s₁.heap.push { cls := .type "list_iterator", data := .fields #[.ref ax, .int 0 0] }).get? b = some o := fun b o e => Heap.get?_push_of_some _ e
  refine block_G (Inv := Inv) (S := S) (Walks.list hh s₁.heap.objs.size ax (Nat.ne_of_lt hlt) its) hsz (fun i h st => by obtain ⟨o, e, _⟩ := st.1; exact ⟨o, e⟩) (fun i h h' o nw st e e' k N' S' => list_st i h h' o nw st e e' k N' (hSS _ S')) hcell hkind ⟨⟨_, Heap.get?_push_size _ rfl, rfl, rfl⟩, hl.push _⟩ (fun b hb => ?_) (go _)
      (F.keeps up) (N.grown up) (Nat.ne_of_lt F.ns.lt) (next_is_new F) (fun p hp => Nat.ne_of_lt (Heap.lt_size (N p hp).1)) hS h0 ?_ ?_
  · show b < (s₁.heap.push _).objs.size
    rw [Heap.size_push]
    rcases List.mem_cons.mp hb with rfl | hb
    · exact Nat.lt_succ_self _
    · rw [List.mem_singleton.mp hb]; exact Nat.lt_succ_of_lt hlt
  · intro i v ys news' hi hP hI hS' oI C oC D m₂ h tk E' hB hoC F' N' off hne
    exact step i v ys news' _ oI C oC D m₂ s₁.gens h tk E' hP hI hS' hB hoC F' N' off hne
  · intro D C h' tk m' ys news' F' N' o1 hn hC₀ hD₀ hCL hDL hCD offC hI
    show wpAny _ A (assign (.Name y py) env (.ref D)) _ _ _
    refine wpAny_assign_Name (wpAny_storeName_local hy F'.ns (fun h₂ hn₂ hs₂ => ?_) hp)
    have hL₀ : h₀.get? env.locals = none := Heap.get?_none_of_le F'.above
    have F₂ : Fr h₀ env.locals h₂ (fun z => if z = y then some (.ref D) else m z) := ⟨hn₂, fun b o e => hs₂.extBut b o (fun q => by rw [q, hL₀] at e; cases e) (F'.keep b o e), F'.above⟩
    refine ⟨m', hn.sameBut hs₂ hCL, fun h'' hs'' => fin _ _ hI D h'' _ (F₂.change hs'' hCL hC₀) (fun p hp => ?_) o1⟩
    have z : h₂.get? p.1 = some p.2 := hs₂.extBut _ _ (N' p hp).2.1 (N' p hp).1
    refine ⟨hs''.extBut _ _ ?_ z, (N' p hp).2⟩
    rcases List.mem_cons.mp hp with rfl | hp
    · exact Ne.symm hCD
    · exact offC p hp
end

end

section
/-! part M9 -/
theorem fillx9 : PySem.Challenge.rw_ny0133_01 = PySem.Challenge.rw_ny0133_01 ∧ hd.heap_39 = hd.heap_39 := by k_fill; w_top off; exact ⟨rfl, rfl⟩
/-- bytes, one for each place -/
noncomputable def BsAre (ws : List Value) (f : Nat → Array UInt8) : Prop := ∀ (i : Nat) (v : Value), ws[i]? = some v → ∃ t : Tok, v = Value.bytes (f i) t
theorem BsAre.snoc {ws : List Value} {f : Nat → Array UInt8} {t : Tok} (h : BsAre ws f) : BsAre (ws ++ [.bytes (f ws.length) t]) f := by
  intro i v hv
  rcases Nat.lt_or_ge i ws.length with hi | hi
  · rw [List.getElem?_append_left hi] at hv; exact h i v hv
  · have : i = ws.length := by
      have := (List.getElem?_eq_some_iff.mp hv).1
      simp at this; omega
    subst this
    simp at hv
    exact ⟨t, hv.symm⟩
/-- the i-th sample -/
noncomputable def smp (x : List UInt8) (i : Nat) : Array UInt8 := #[x.getD (2 * i) 0, x.getD (2 * i + 1) 0]
theorem picked_smp (x : List UInt8) (i : Nat) (h : 2 * i + 1 < x.length) : KBy.picked x.toArray (some ((2 * i : Nat) : Int)) (some ((2 * i + 2 : Nat) : Int)) = smp x i := by
  rw [KBc.picked_eq]
  simp only [Option.elim, clipAt_nat, List.size_toArray]
  rw [Nat.min_eq_left (by omega), Nat.min_eq_left (by omega)]
  rw [show 2 * i + 2 - 2 * i = 2 by omega]
  unfold smp
  rw [List.getD_eq_getElem?_getD, List.getD_eq_getElem?_getD, List.getElem?_eq_getElem (by omega), List.getElem?_eq_getElem (by omega)]
  show (List.take 2 (List.drop (2 * i) x)).toArray = _
  rw [List.drop_eq_getElem_cons (by omega : 2 * i < x.length), List.drop_eq_getElem_cons (by omega : 2 * i + 1 < x.length)]
  rfl
set_option maxRecDepth 100000 in
set_option maxHeartbeats 8000000 in
theorem samples {w : World} {mean : ExcName → Option Value} {mg mb : Str → Option Value} {A₀ A : Around} {base h₀ : Heap} {outer : List Env} {env : Env} {L : Addr} {m : Str → Option Value} {s : Shared}
   {news : List (Addr × Obj)} {x : List UInt8} {t : Tok}  {R : Result → Shared → Prop}
   (B : Below A₀ base outer h₀) (F : Fr h₀ L s.heap m) (X : (hd.heap_39 w.params).In h₀) (N : News h₀ L s.heap news) (T : Top hd.view_39 LW mean mg mb h₀)
   (hA : A.frames = some (env :: outer)) (hf : env.frame = some L) (hke : env.scope.kind = .function) (hroom : A.depth < recursionLimit) (hh : A.handled = none)
   (hsz : x.length < 1000) (hev : x.length % 2 = 0)
   (hR : ∀ h' tk D o' ws, isL o' ws → ws.length = x.length / 2 → BsAre ws (smp x) → Fr h₀ L h' m → News h₀ L h' ((D, o') :: news) → (∀ p ∈ news, p.1 ≠ D) → R (.ok (.ret (.ref D))) { s with heap := h', toks := tk }) :
   codeAny (model PR w) A (.call (.ref 113) ⟨[.bytes x.toArray t], []⟩) R s := by
  refine' enterC B F X N T hA hf hke ?k6 ?k7 (by omega) ?k9 ?kB ?kD ?_ ?c2 ?c3 ?c4
  (((case k6 => k_is); (case k7 => k_is); (case k9 => exact BindsTo.of_eq rfl); (case kB => exact rfl); (case kD => decide +kernel); (case c2 => exact rfl); (case c3 => exact rfl); (case c4 => exact rfl); k_whole))
  intro g' L' h' tk cells F' N' Y' B' X' T' l1
  k_cells Y'
  (try simp only [List.cons_append, List.nil_append] at N'); (try dsimp only)
  (repeat' (first | (k_unfold; (try dsimp only)) | (((fail_if_success (with_reducible first | show LCg.CompSrc _ _ _ _ _ _ _ _ _ _ _ _ _ _ | show wpAny _ _ (exec (Stmt.While _ _ _ _) _) _ _ _ | show wpAny _ _ (call (Value.ref _) _ _) _ _ _ | show wpAny _ _ (exec (Stmt.For _ _ _ _ _) _) _ _ _ | show wpAny _ _ (call (Value.builtin "list.append") _ _) _ _ _ | show wpAny _ _ (eval (Expr.ListComp _ _ _ _) _) _ _ _ | show wpAny _ _ (subscriptTail _ _ (Value.str _ _) _) _ _ _ | show wpAny _ _ (binaryOp Operator.Add (Value.str _ _) (Value.str _ _)) _ _ _ | show wpAny _ _ (call (Value.builtin "sorted") _ _) _ _ _ | show wpAny _ _ (exec (Stmt.Assign _ (Expr.ListComp _ _ _ _) _) _) _ _ _ | show wpAny _ _ (call (Value.type "range") [_] _) _ _ _ | show wpAny _ _ (call (Value.type "bytes") _ _) _ _ _ | show wpAny _ _ (storeName _ _ (Value.ref _)) _ _ _ | show wpAny _ _ (subscriptTail _ _ (Value.bytes _ _) _) _ _ _ | show wpAny _ _ (subscriptTail _ _ (Value.ref _) _) _ _ _ | show wpAny _ _ (binaryOp _ (Value.ref _) (Value.ref _)) _ _ _ | show wpAny _ _ (compareOp _ (Value.ref _) (Value.ref _)) _ _ _ | show wpAny _ _ (compareOp _ (Value.bytes _ _) (Value.bytes _ _)) _ _ _))); walk1; (try dsimp only))))
  refine comp_range F' (by with_unfolding_all rfl) (by decide) (by rfl) (by decide) (by rfl) ?_
  (repeat' (first | (k_unfold; (try dsimp only)) | (((fail_if_success (with_reducible first | show LCg.CompSrc _ _ _ _ _ _ _ _ _ _ _ _ _ _ | show wpAny _ _ (exec (Stmt.While _ _ _ _) _) _ _ _ | show wpAny _ _ (call (Value.ref _) _ _) _ _ _ | show wpAny _ _ (exec (Stmt.For _ _ _ _ _) _) _ _ _ | show wpAny _ _ (call (Value.builtin "list.append") _ _) _ _ _ | show wpAny _ _ (eval (Expr.ListComp _ _ _ _) _) _ _ _ | show wpAny _ _ (subscriptTail _ _ (Value.str _ _) _) _ _ _ | show wpAny _ _ (binaryOp Operator.Add (Value.str _ _) (Value.str _ _)) _ _ _ | show wpAny _ _ (call (Value.builtin "sorted") _ _) _ _ _ | show wpAny _ _ (exec (Stmt.Assign _ (Expr.ListComp _ _ _ _) _) _) _ _ _ | show wpAny _ _ (call (Value.type "range") [_] _) _ _ _ | show wpAny _ _ (call (Value.type "bytes") _ _) _ _ _ | show wpAny _ _ (storeName _ _ (Value.ref _)) _ _ _ | show wpAny _ _ (subscriptTail _ _ (Value.bytes _ _) _) _ _ _ | show wpAny _ _ (subscriptTail _ _ (Value.ref _) _) _ _ _ | show wpAny _ _ (binaryOp _ (Value.ref _) (Value.ref _)) _ _ _ | show wpAny _ _ (compareOp _ (Value.ref _) (Value.ref _)) _ _ _ | show wpAny _ _ (compareOp _ (Value.bytes _ _) (Value.bytes _ _)) _ _ _))); walk1; (try dsimp only))))
  rename IsRange _ _ _ _ _ _ _ _ => hr
  rename Fr g' L' _ _ => F₂
  rename News g' L' _ _ => N₂
  have hx2 : x.length / 2 * 2 = x.length := by omega
  refine ⟨_, _, _, _, _, _, _, x.length / 2, _, rfl, by exact hh, F₂, N₂, hr, by rw [List.size_toArray]; exact small2 _ hsz, by rw [List.size_toArray]; exact size2 _ hev, by rw [sizeLine_eq]; omega,
    fun i ys news' => news' = _ :: news ∧ ys.length = i ∧ BsAre ys (smp x), ⟨rfl, rfl, fun i v h => nomatch h⟩, ?_, ?_⟩
  · rintro i t' ys news' I oI C oC D m₂ g h tk' E' hi ⟨rfl, hyl, hB⟩ hm hoC F₃ N₃ off hne
    (repeat' (first | (k_unfold; (try dsimp only)) | (((fail_if_success (with_reducible first | show LCg.CompSrc _ _ _ _ _ _ _ _ _ _ _ _ _ _ | show wpAny _ _ (exec (Stmt.While _ _ _ _) _) _ _ _ | show wpAny _ _ (call (Value.ref _) _ _) _ _ _ | show wpAny _ _ (exec (Stmt.For _ _ _ _ _) _) _ _ _ | show wpAny _ _ (call (Value.builtin "list.append") _ _) _ _ _ | show wpAny _ _ (eval (Expr.ListComp _ _ _ _) _) _ _ _ | show wpAny _ _ (subscriptTail _ _ (Value.str _ _) _) _ _ _ | show wpAny _ _ (binaryOp Operator.Add (Value.str _ _) (Value.str _ _)) _ _ _ | show wpAny _ _ (call (Value.builtin "sorted") _ _) _ _ _ | show wpAny _ _ (exec (Stmt.Assign _ (Expr.ListComp _ _ _ _) _) _) _ _ _ | show wpAny _ _ (call (Value.type "range") [_] _) _ _ _ | show wpAny _ _ (call (Value.type "bytes") _ _) _ _ _ | show wpAny _ _ (storeName _ _ (Value.ref _)) _ _ _ | show wpAny _ _ (subscriptTail _ _ (Value.bytes _ _) _) _ _ _ | show wpAny _ _ (subscriptTail _ _ (Value.ref _) _) _ _ _ | show wpAny _ _ (binaryOp _ (Value.ref _) (Value.ref _)) _ _ _ | show wpAny _ _ (compareOp _ (Value.ref _) (Value.ref _)) _ _ _ | show wpAny _ _ (compareOp _ (Value.bytes _ _) (Value.bytes _ _)) _ _ _))); walk1; (try dsimp only))))
    refine KBc.slice_K (s := ⟨h, _, _, _, _⟩) F₃ N₃ rfl (by constructor) (by constructor) (by rw [KBw.ints_length, List.size_toArray]; omega) ?_
    intro h₅ t₅ k₅ F₅ N₅ _
    have e : KBy.picked x.toArray (some (0 + ((i : Nat) : Int) * 2)) (some (0 + ((i : Nat) : Int) * 2 + 2)) = smp x ys.length := by
      subst hyl
      rw [← picked_smp x ys.length (by omega)]
      congr 2 <;> omega
    rw [e]
    exact ⟨h₅, k₅, _, rfl, F₅, N₅, off, trivial, rfl, by rw [List.length_append, hyl]; rfl, hB.snoc⟩
  · rintro ys news' ⟨rfl, hyl, hB⟩ D h₄ tk₄ F₄ N₄ off
    (repeat' (first | (k_unfold; (try dsimp only)) | (((fail_if_success (with_reducible first | show LCg.CompSrc _ _ _ _ _ _ _ _ _ _ _ _ _ _ | show wpAny _ _ (exec (Stmt.While _ _ _ _) _) _ _ _ | show wpAny _ _ (call (Value.ref _) _ _) _ _ _ | show wpAny _ _ (exec (Stmt.For _ _ _ _ _) _) _ _ _ | show wpAny _ _ (call (Value.builtin "list.append") _ _) _ _ _ | show wpAny _ _ (eval (Expr.ListComp _ _ _ _) _) _ _ _ | show wpAny _ _ (subscriptTail _ _ (Value.str _ _) _) _ _ _ | show wpAny _ _ (binaryOp Operator.Add (Value.str _ _) (Value.str _ _)) _ _ _ | show wpAny _ _ (call (Value.builtin "sorted") _ _) _ _ _ | show wpAny _ _ (exec (Stmt.Assign _ (Expr.ListComp _ _ _ _) _) _) _ _ _ | show wpAny _ _ (call (Value.type "range") [_] _) _ _ _ | show wpAny _ _ (call (Value.type "bytes") _ _) _ _ _ | show wpAny _ _ (storeName _ _ (Value.ref _)) _ _ _ | show wpAny _ _ (subscriptTail _ _ (Value.bytes _ _) _) _ _ _ | show wpAny _ _ (subscriptTail _ _ (Value.ref _) _) _ _ _ | show wpAny _ _ (binaryOp _ (Value.ref _) (Value.ref _)) _ _ _ | show wpAny _ _ (compareOp _ (Value.ref _) (Value.ref _)) _ _ _ | show wpAny _ _ (compareOp _ (Value.bytes _ _) (Value.bytes _ _)) _ _ _))); walk1; (try dsimp only))))
    rename Fr h₀ L _ _ => kF
    rename News h₀ L _ _ => kN
    exact hR _ _ D _ ys ⟨_, rfl⟩ hyl hB kF (PyProof.Rows.News.perm kN fun p hp => by
      rcases List.mem_cons.mp hp with rfl | hp
      · exact .head _
      · exact .tail _ (.tail _ hp)) (fun p hp => off1_mem off p (.tail _ hp))

end

section
/-! part S1 -/
/-- a run of the sorting by a plain order: every question within S -/
noncomputable def Rn {α : Type} (S : Nat → Prop) (lt : Nat → Nat → Bool) : KasT α → (α → Prop) → Prop
  | .ret a, Q => Q a
  | .ask i j k, Q => S i ∧ S j ∧ Rn S lt (k (lt i j)) Q
section
variable {α β : Type} {S : Nat → Prop} {lt : Nat → Nat → Bool}
theorem Rn.mono {Q Q' : α → Prop} (hq : ∀ a, Q a → Q' a) : ∀ {t : KasT α}, Rn S lt t Q → Rn S lt t Q'
  | .ret a, h => hq a h
  | .ask i j k, h => ⟨h.1, h.2.1, Rn.mono hq h.2.2⟩
theorem Rn.bind {f : α → KasT β} {Q : β → Prop} : ∀ {t : KasT α}, Rn S lt t (fun a => Rn S lt (f a) Q) → Rn S lt (t.bind f) Q
  | .ret _, h => h
  | .ask i j k, h => ⟨h.1, h.2.1, Rn.bind h.2.2⟩
theorem Rn.wp {cmp : Nat → Nat → (Bool → Shared → Prop) → Shared → Prop} {s : Shared} (hc : ∀ i j (C : Bool → Shared → Prop), S i → S j → C (lt i j) s → cmp i j C s) {G : α → Shared → Prop} : ∀ {t : KasT α}, Rn S lt t (fun a => G a s) → t.kasWp cmp G s
  | .ret _, h => h
  | .ask i j k, h => hc i j _ h.1 h.2.1 (Rn.wp hc h.2.2)
end
/-- a strict order on the places below n, any two of which it tells apart -/
structure Ord (n : Nat) (lt : Nat → Nat → Bool) : Prop where
  irr : ∀ i, i < n → lt i i = false
  tr : ∀ i j k, i < n → j < n → k < n → lt i j = true → lt j k = true → lt i k = true
  tot : ∀ i j, i < n → j < n → i ≠ j → lt i j = true ∨ lt j i = true
theorem Ord.asym {n : Nat} {lt : Nat → Nat → Bool} (O : Ord n lt) {i j : Nat} (hi : i < n) (hj : j < n) (h : lt i j = true) : lt j i = false := by
  cases e : lt j i with
  | false => rfl
  | true => have := O.tr i j i hi hj hi h e; rw [O.irr i hi] at this; cases this
/-- the places 0 .. n-1 in some order -/
structure PermN (n : Nat) (p : Array Nat) : Prop where
  size : p.size = n
  perm : p.toList.Perm (List.range n)
theorem getD_at {p : Array Nat} {i : Nat} (h : i < p.toList.length) : p.getD i 0 = p.toList[i] := by
  rw [Array.getD_eq_getD_getElem?, ← Array.getElem?_toList, List.getElem?_eq_getElem h]; rfl
theorem PermN.len {n : Nat} {p : Array Nat} (P : PermN n p) : p.toList.length = n := P.size
theorem PermN.lt {n : Nat} {p : Array Nat} (P : PermN n p) (i : Nat) (hi : i < n) : p.getD i 0 < n := by
  have h : i < p.toList.length := P.len.symm ▸ hi
  rw [getD_at h]
  exact List.mem_range.mp (P.perm.mem_iff.mp (List.getElem_mem h))
theorem PermN.inj {n : Nat} {p : Array Nat} (P : PermN n p) (i j : Nat) (hi : i < n) (hj : j < n) (e : p.getD i 0 = p.getD j 0) : i = j := by
  have h1 : i < p.toList.length := P.len.symm ▸ hi
  have h2 : j < p.toList.length := P.len.symm ▸ hj
  rw [getD_at h1, getD_at h2] at e
  have nd : p.toList.Nodup := P.perm.nodup_iff.mpr List.nodup_range
  rw [← nd.idxOf_getElem i h1, ← nd.idxOf_getElem j h2, e]
theorem getD_of {p q : Array Nat} {i j : Nat} (h : p[i]? = q[j]?) : p.getD i 0 = q.getD j 0 := by
  rw [Array.getD_eq_getD_getElem?, Array.getD_eq_getD_getElem?, h]
theorem PermN.mirror {n : Nat} {p : Array Nat} (P : PermN n p) {j : Nat} (_hj : j ≤ n) : PermN n (kas_rev p 0 j) :=
  ⟨(mirror_size _ _ _ _).trans P.size, (Array.perm_iff_toList_perm.mp (mirror_perm _ _ _ _)).trans P.perm⟩
theorem rev_getD {n : Nat} {p : Array Nat} (P : PermN n p) {j k : Nat} (hj : j ≤ n) : (kas_rev p 0 j).getD k 0 = if k < j then p.getD (j - 1 - k) 0 else p.getD k 0 := by
  unfold kas_rev
  split
  · apply getD_of
    rw [getElem?_mirror_all (by rw [P.size]; exact hj), if_pos (by omega)]; congr 1; omega
  · apply getD_of
    rw [getElem?_mirror_all (by rw [P.size]; exact hj), if_neg (by omega)]
theorem bub_getD {n : Nat} {p : Array Nat} (P : PermN n p) {src d k : Nat} (hs : src < n) (hd : d ≤ src) : (bubble p src d).getD k 0 = if k = src - d then p.getD src 0 else if src - d < k ∧ k ≤ src then p.getD (k - 1) 0 else p.getD k 0 := by
  have := getElem?_bubble (xs := p) (src := src) (by rw [P.size]; exact hs) d hd k
  split
  · apply getD_of; rw [this, if_pos (by assumption)]
  · split
    · apply getD_of; rw [this, if_neg (by assumption), if_pos (by assumption)]
    · apply getD_of; rw [this, if_neg (by assumption), if_neg (by assumption)]
theorem PermN.bubble {n : Nat} {p : Array Nat} (P : PermN n p) {src d : Nat} (_hs : src < n) (_hd : d ≤ src) : PermN n (bubble p src d) :=
  ⟨(bubble_size _ _ _).trans P.size, (Array.perm_iff_toList_perm.mp (bubble_perm _ _ _)).trans P.perm⟩
/-- ascending up to m -/
noncomputable def Asc (lt : Nat → Nat → Bool) (p : Array Nat) (m : Nat) : Prop := ∀ i j, i < j → j < m → lt (p.getD i 0) (p.getD j 0) = true
noncomputable def Desc (lt : Nat → Nat → Bool) (p : Array Nat) (m : Nat) : Prop := ∀ i j, i < j → j < m → lt (p.getD j 0) (p.getD i 0) = true
section
variable {n : Nat} {lt : Nat → Nat → Bool} {p : Array Nat}
theorem Asc.succ (O : Ord n lt) (P : PermN n p) {m : Nat} (hm : m < n) (h0 : 0 < m) (h : Asc lt p m) (hl : lt (p.getD (m - 1) 0) (p.getD m 0) = true) : Asc lt p (m + 1) := by
  intro i j hij hj
  rcases Nat.lt_or_ge j m with hjm | hjm
  · exact h i j hij hjm
  · obtain rfl : j = m := by omega
    rcases Nat.lt_or_ge i (j - 1) with hi | hi
    · exact O.tr _ _ _ (P.lt _ (by omega)) (P.lt _ (by omega)) (P.lt _ hm) (h i (j - 1) hi (by omega)) hl
    · obtain rfl : i = j - 1 := by omega
      exact hl
theorem Desc.succ (O : Ord n lt) (P : PermN n p) {m : Nat} (hm : m < n) (h0 : 0 < m) (h : Desc lt p m) (hl : lt (p.getD m 0) (p.getD (m - 1) 0) = true) : Desc lt p (m + 1) := by
  intro i j hij hj
  rcases Nat.lt_or_ge j m with hjm | hjm
  · exact h i j hij hjm
  · obtain rfl : j = m := by omega
    rcases Nat.lt_or_ge i (j - 1) with hi | hi
    · exact O.tr _ _ _ (P.lt _ hm) (P.lt _ (by omega)) (P.lt _ (by omega)) hl (h i (j - 1) hi (by omega))
    · obtain rfl : i = j - 1 := by omega
      exact hl
theorem rn_asc (O : Ord n lt) (P : PermN n p) : ∀ (f m : Nat), f + m = n → 0 < m → Asc lt p m → Rn (· < n) lt (kas_asc p f m) fun r => m ≤ r ∧ r ≤ n ∧ Asc lt p r ∧ (r < n → lt (p.getD r 0) (p.getD (r - 1) 0) = true)
  | 0, m, hf, h0, h => by
    obtain rfl : m = n := (Nat.zero_add m).symm.trans hf
    exact ⟨Nat.le_refl _, Nat.le_refl _, h, fun h => absurd h (Nat.lt_irrefl _)⟩
  | f + 1, m, hf, h0, h => by
    have hm : m < n := by omega
    have hm1 : m - 1 < n := Nat.lt_of_le_of_lt (Nat.sub_le _ _) hm
    refine ⟨P.lt _ hm, P.lt _ hm1, ?_⟩
    cases e : lt (p.getD m 0) (p.getD (m - 1) 0) with
    | true => exact ⟨Nat.le_refl _, Nat.le_of_lt hm, h, fun _ => e⟩
    | false =>
      have hl : lt (p.getD (m - 1) 0) (p.getD m 0) = true := by
        rcases O.tot (p.getD (m - 1) 0) (p.getD m 0) (P.lt _ hm1) (P.lt _ hm) (fun q => Nat.ne_of_lt (Nat.sub_lt h0 Nat.one_pos) (P.inj _ _ hm1 hm q)) with h | h
        · exact h
        · rw [e] at h; cases h
      exact (rn_asc O P f (m + 1) (by rw [← hf]; exact Nat.succ_add_eq_add_succ f m ▸ rfl) (Nat.succ_pos _) (h.succ O P hm h0 hl)).mono fun r hr => ⟨Nat.le_of_succ_le hr.1, hr.2⟩
theorem rn_desc (O : Ord n lt) (P : PermN n p) : ∀ (f m : Nat), f + m = n → 0 < m → Desc lt p m → Rn (· < n) lt (kas_desc f p m 0) fun r => r.1 = p ∧ r.2.2 = 0 ∧ m ≤ r.2.1 ∧ r.2.1 ≤ n ∧ Desc lt p r.2.1
  | 0, m, hf, h0, h => ⟨rfl, rfl, Nat.le_refl _, by show m ≤ n; omega, h⟩
  | f + 1, m, hf, h0, h => by
    have hm : m < n := by omega
    have hm1 : m - 1 < n := Nat.lt_of_le_of_lt (Nat.sub_le _ _) hm
    refine ⟨P.lt _ hm, P.lt _ hm1, ?_⟩
    cases e : lt (p.getD m 0) (p.getD (m - 1) 0) with
    | true =>
      simp only [if_true]
      rw [if_neg (Nat.lt_irrefl 0)]
      exact (rn_desc O P f (m + 1) (by rw [← hf]; exact Nat.succ_add_eq_add_succ f m ▸ rfl) (Nat.succ_pos _) (h.succ O P hm h0 e)).mono fun r hr => ⟨hr.1, hr.2.1, Nat.le_of_succ_le hr.2.2.1, hr.2.2.2⟩
    | false =>
      have hl : lt (p.getD (m - 1) 0) (p.getD m 0) = true := by
        rcases O.tot (p.getD (m - 1) 0) (p.getD m 0) (P.lt _ hm1) (P.lt _ hm) (fun q => Nat.ne_of_lt (Nat.sub_lt h0 Nat.one_pos) (P.inj _ _ hm1 hm q)) with h | h
        · exact h
        · rw [e] at h; cases h
      simp only [Bool.false_eq_true, if_false]
      refine ⟨P.lt _ hm1, P.lt _ hm, ?_⟩
      rw [hl]
      exact ⟨rfl, rfl, Nat.le_refl _, Nat.le_of_lt hm, h⟩
theorem rev_asc (P : PermN n p) {m : Nat} (hm : m ≤ n) (h : Desc lt p m) : Asc lt (kas_rev p 0 m) m := by
  intro i j hij hj
  rw [rev_getD P hm, rev_getD P hm, if_pos (by omega), if_pos hj]
  exact h _ _ (by omega) (by omega)
theorem rn_count (O : Ord n lt) (P : PermN n p) (hn : 2 ≤ n) : Rn (· < n) lt (kas_count n p) fun r => 1 ≤ r.1 ∧ r.1 ≤ n ∧ PermN n r.2 ∧ Asc lt r.2 r.1 := by
  unfold kas_count
  have h0n : 0 < n := Nat.lt_of_lt_of_le (Nat.succ_pos _) hn
  refine Rn.bind ((rn_asc O P (n - 1) 1 (Nat.sub_add_cancel h0n) Nat.one_pos (fun i j h1 h2 => absurd (Nat.lt_of_lt_of_le h1 (Nat.le_of_lt_succ h2)) (Nat.not_lt_zero _))).mono fun r hr => ?_)
  by_cases h1 : r = n
  · rw [if_pos (beq_iff_eq.mpr h1)]
    exact ⟨hr.1, hr.2.1, P, hr.2.2.1⟩
  · rw [if_neg (fun e => h1 (beq_iff_eq.mp e))]
    have hrn : r < n := Nat.lt_of_le_of_ne hr.2.1 h1
    by_cases h2 : r > 1
    · rw [if_pos h2]
      refine ⟨P.lt _ h0n, P.lt _ (Nat.lt_of_le_of_lt (Nat.sub_le _ _) hrn), ?_⟩
      rw [hr.2.2.1 0 (r - 1) (Nat.sub_pos_of_lt h2) (Nat.sub_lt hr.1 Nat.one_pos)]
      exact ⟨hr.1, hr.2.1, P, hr.2.2.1⟩
    · rw [if_neg h2]
      obtain rfl : r = 1 := Nat.le_antisymm (Nat.le_of_not_lt h2) hr.1
      unfold kas_descPart
      have hd : Desc lt p 2 := by
        intro i j hij hj
        obtain rfl : j = 1 := Nat.le_antisymm (Nat.le_of_lt_succ hj) (Nat.lt_of_le_of_lt (Nat.zero_le i) hij)
        obtain rfl : i = 0 := Nat.lt_one_iff.mp hij
        exact hr.2.2.2 hrn
      refine Rn.bind ((rn_desc O P (n - (1 + 1)) (1 + 1) (Nat.sub_add_cancel hn) (Nat.succ_pos _) hd).mono fun r' hr' => ?_)
      obtain ⟨r1, r2, r3⟩ := r'
      obtain ⟨e1, e2, h3, h4, h5⟩ := hr'
      dsimp only at e1 e2 h3 h4 h5 ⊢
      subst e1 e2
      rw [if_neg (Nat.lt_irrefl 0)]
      unfold kas_tail3
      have h30 : 1 ≤ r2 := Nat.le_trans (Nat.succ_le_succ (Nat.zero_le 1)) h3
      exact Rn.bind ((rn_asc O (P.mirror h4) (n - r2) r2 (Nat.sub_add_cancel h4) h30 (rev_asc P h4 h5)).mono fun r hr => ⟨Nat.le_trans h30 hr.1, hr.2.1, P.mirror h4, hr.2.2.1⟩)
theorem rn_place (O : Ord n lt) (P : PermN n p) {k : Nat} (hk : k < n) (hA : Asc lt p k) : ∀ (f l r : Nat), r - l ≤ f → l ≤ r → r ≤ k → (∀ i, i < l → lt (p.getD i 0) (p.getD k 0) = true) → (∀ i, r ≤ i → i < k → lt (p.getD k 0) (p.getD i 0) = true) →
    Rn (· < n) lt (kas_place p k f l r) fun x => x ≤ k ∧ (∀ i, i < x → lt (p.getD i 0) (p.getD k 0) = true) ∧ ∀ i, x ≤ i → i < k → lt (p.getD k 0) (p.getD i 0) = true
  | 0, l, r, hf, hlr, hr, h1, h2 => ⟨by omega, h1, fun i hi hk => h2 i (by omega) hk⟩
  | f + 1, l, r, hf, hlr, hr, h1, h2 => by
    unfold kas_place
    by_cases h : l ≥ r
    · rw [if_pos h]; exact ⟨by omega, h1, fun i hi hk => h2 i (by omega) hk⟩
    · rw [if_neg h]
      have m1 : l ≤ (l + r) / 2 ∧ (l + r) / 2 < r := by omega
      generalize (l + r) / 2 = c at m1 ⊢
      have hck : c < k := Nat.lt_of_lt_of_le m1.2 hr
      have hcn : c < n := Nat.lt_trans hck hk
      refine ⟨P.lt _ hk, P.lt _ hcn, ?_⟩
      cases e : lt (p.getD k 0) (p.getD c 0) with
      | true =>
        refine rn_place O P hk hA f l c (by omega) m1.1 (Nat.le_of_lt hck) h1 fun i hi hik => ?_
        rcases Nat.lt_or_ge c i with h' | h'
        · exact O.tr _ _ _ (P.lt _ hk) (P.lt _ hcn) (P.lt _ (Nat.lt_trans hik hk)) e (hA _ _ h' hik)
        · rw [Nat.le_antisymm h' hi]
          exact e
      | false =>
        have hl : lt (p.getD c 0) (p.getD k 0) = true := by
          rcases O.tot (p.getD c 0) (p.getD k 0) (P.lt _ hcn) (P.lt _ hk) (fun q => Nat.ne_of_lt hck (P.inj _ _ hcn hk q)) with h | h
          · exact h
          · rw [e] at h; cases h
        refine rn_place O P hk hA f (c + 1) r (by omega) m1.2 hr (fun i hi => ?_) h2
        rcases Nat.lt_or_ge i c with h' | h'
        · exact O.tr _ _ _ (P.lt _ (Nat.lt_trans h' hcn)) (P.lt _ hcn) (P.lt _ hk) (hA _ _ h' hck) hl
        · rw [Nat.le_antisymm (Nat.le_of_lt_succ hi) h']
          exact hl
end
theorem bub_asc {n : Nat} {lt : Nat → Nat → Bool} {p : Array Nat} (P : PermN n p) {k x : Nat} (hk : k < n) (hx : x ≤ k) (hA : Asc lt p k) (h1 : ∀ i, i < x → lt (p.getD i 0) (p.getD k 0) = true) (h2 : ∀ i, x ≤ i → i < k → lt (p.getD k 0) (p.getD i 0) = true) :
    Asc lt (bubble p k (k - x)) (k + 1) := by
  intro i j hij hj
  have hjk : j ≤ k := Nat.le_of_lt_succ hj
  have hj1 : j - 1 < k := Nat.lt_of_lt_of_le (Nat.sub_lt (Nat.lt_of_le_of_lt (Nat.zero_le i) hij) Nat.one_pos) hjk
  rw [bub_getD P hk (Nat.sub_le k x), bub_getD P hk (Nat.sub_le k x), Nat.sub_sub_self hx]
  by_cases i1 : i = x
  · subst i1
    rw [if_pos rfl, if_neg (Nat.ne_of_gt hij), if_pos ⟨hij, hjk⟩]
    exact h2 _ (Nat.le_sub_one_of_lt hij) hj1
  · rw [if_neg i1]
    by_cases i2 : x < i ∧ i ≤ k
    · have hxj := Nat.lt_trans i2.1 hij
      rw [if_pos i2, if_neg (Nat.ne_of_gt hxj), if_pos ⟨hxj, hjk⟩]
      exact hA _ _ (Nat.sub_lt_sub_right (Nat.lt_of_le_of_lt (Nat.zero_le x) i2.1) hij) hj1
    · rw [if_neg i2]
      have hix : i < x := Nat.lt_of_le_of_ne (Nat.le_of_not_lt (fun h => i2 ⟨h, Nat.le_of_lt (Nat.lt_of_lt_of_le hij hjk)⟩)) i1
      by_cases j1 : j = x
      · rw [if_pos j1]; exact h1 _ hix
      · rw [if_neg j1]
        by_cases j2 : x < j ∧ j ≤ k
        · rw [if_pos j2]
          exact hA _ _ (Nat.lt_of_lt_of_le hix (Nat.le_sub_one_of_lt j2.1)) hj1
        · rw [if_neg j2]
          exact hA _ _ hij (Nat.lt_of_lt_of_le (Nat.lt_of_le_of_ne (Nat.le_of_not_lt (fun h => j2 ⟨h, hjk⟩)) j1) hx)
theorem rn_bin {n : Nat} {lt : Nat → Nat → Bool} (O : Ord n lt) : ∀ (f k : Nat) (p : Array Nat), f + k = n → PermN n p → Asc lt p k → Rn (· < n) lt (kas_bin f p k) fun p' => PermN n p' ∧ Asc lt p' n
  | 0, k, p, hf, P, hA => by obtain rfl : k = n := by omega
                             exact ⟨P, hA⟩
  | f + 1, k, p, hf, P, hA => by
    unfold kas_bin
    refine Rn.bind ((rn_place O P (by omega : k < n) hA k 0 k (by omega) (by omega) (Nat.le_refl _) (fun i h => by omega) (fun i h h' => by omega)).mono fun x hx => ?_)
    exact rn_bin O f (k + 1) _ (by omega) (P.bubble (by omega) (by omega)) (bub_asc P (by omega) hx.1 hA hx.2.1 hx.2.2)
theorem permN_range (n : Nat) : PermN n (List.toArray (List.range n)) := ⟨by simp, by simp⟩
/-- the sorting gives the places in their order -/
theorem rn_sort {n : Nat} {lt : Nat → Nat → Bool} (O : Ord n lt) (hn : 2 ≤ n) : Rn (· < n) lt (kas_sort n) fun p => PermN n p ∧ Asc lt p n := by
  unfold kas_sort
  refine Rn.bind ((rn_count O (permN_range n) hn).mono fun r hr => ?_)
  by_cases h : r.1 < n
  · rw [if_pos h, show max r.1 1 = r.1 by omega]
    exact rn_bin O _ _ _ (by omega) hr.2.2.1 hr.2.2.2
  · rw [if_neg h]
    obtain ⟨h1, h2, h3, h4⟩ := hr
    exact ⟨h3, by rw [show r.1 = n by omega] at h4; exact h4⟩

end

section
/-! part S2 -/
open PySem.Calls
set_option maxRecDepth 100000
section
variable {prog : Program} {w : World} {A : Around} {E : Value → Shared → Prop} {s : Shared} {h₀ : Heap} {L : Addr} {m : Str → Option Value} {news : List (Addr × Obj)}

theorem oneLtF_int {a b : Int} {t u : Tok} {Q : Bool → Shared → Prop} (c : Bool) (h : Q (decide (a < b)) s) : wpAny (model prog w) A (oneLt' c (.int a t) (.int b u)) Q E s := by
  cases c with
  | true => exact oneLt_int h
  | false => exact kat_one _ _ (lt_int h)
theorem keylt2 {x y : Addr} {k1 k2 : Value} {i j : Int} {ti tj : Tok} {n1 n2 : Nat} {b c : Bool} {Q : Bool → Shared → Prop} (hx : s.heap.get? x = some (tupO [k1, .int i ti] n1)) (hy : s.heap.get? y = some (tupO [k2, .int j tj] n2))
    (he : ∀ (Q : Bool → Shared → Prop) (E : Value → Shared → Prop), Q b s → wpAny (model prog w) A (eqBool k1 k2) Q E s)
    (hl : ∀ (Q : Bool → Shared → Prop) (E : Value → Shared → Prop), Q c s → wpAny (model prog w) A (oneLt' true k1 k2) Q E s)
    (h : Q (if b = true then decide (i < j) else c) s) : wpAny (model prog w) A (keyLt' (tuples' true) (.ref x) (.ref y)) Q E s := by
  refine kat_lt (xs := #[k1, .int i ti]) (ys := #[k2, .int j tj]) hx rfl hy rfl ?_
  refine kat_cons (he _ _ ?_)
  refine kat_go (fun e => ?_) (fun e => ?_)
  · refine kat_yes (kat_cons (wpAny_eqBool_int ?_))
    rw [e, if_pos rfl] at h
    refine kat_go (fun e2 => ?_) (fun e2 => ?_)
    · refine kat_yes (kat_nil ?_)
      have : i = j := by simpa using e2
      subst this
      simpa using h
    · exact kat_no (oneLtF_int _ h)
  · rw [e, if_neg (by decide)] at h
    exact kat_no (hl _ _ h)
theorem keylt3 {x y : Addr} {a1 b1 a2 b2 i j : Int} {ta1 tb1 ta2 tb2 ti tj : Tok} {n1 n2 : Nat} {Q : Bool → Shared → Prop} (hx : s.heap.get? x = some (tupO [.int a1 ta1, .int b1 tb1, .int i ti] n1)) (hy : s.heap.get? y = some (tupO [.int a2 ta2, .int b2 tb2, .int j tj] n2))
    (h : Q (if a1 = a2 then (if b1 = b2 then decide (i < j) else decide (b1 < b2)) else decide (a1 < a2)) s) : wpAny (model prog w) A (keyLt' (tuples' true) (.ref x) (.ref y)) Q E s := by
  refine kat_lt (xs := #[.int a1 ta1, .int b1 tb1, .int i ti]) (ys := #[.int a2 ta2, .int b2 tb2, .int j tj]) hx rfl hy rfl ?_
  refine kat_cons (wpAny_eqBool_int ?_)
  refine kat_go (fun e => ?_) (fun e => ?_)
  · rw [if_pos (by simpa using e)] at h
    refine kat_yes (kat_cons (wpAny_eqBool_int ?_))
    refine kat_go (fun e => ?_) (fun e => ?_)
    · rw [if_pos (by simpa using e)] at h
      refine kat_yes (kat_cons (wpAny_eqBool_int ?_))
      refine kat_go (fun e2 => ?_) (fun e2 => ?_)
      · refine kat_yes (kat_nil ?_)
        have : i = j := by simpa using e2
        subst this
        simpa using h
      · exact kat_no (oneLtF_int _ h)
    · rw [if_neg (by simpa using e)] at h
      exact kat_no (oneLtF_int _ h)
  · rw [if_neg (by simpa using e)] at h
    exact kat_no (oneLtF_int _ h)

theorem kat_of {h : Heap} : ∀ {tp : List (Addr × Obj)} {fs : List Value}, tp.length = fs.length → (∀ (i : Nat) p f, tp[i]? = some p → fs[i]? = some f → h.get? p.1 = some p.2 ∧ ∃ vs k, p.2 = tupO (f :: vs) k) → KatTups h (tp.map fun p => .ref p.1) fs
  | [], [], _, _ => KatTups.nil
  | [], _ :: _, h, _ => by simp at h
  | _ :: _, [], h, _ => by simp at h
  | p :: tp, f :: fs, hl, k => by
    obtain ⟨ho, vs, n, e⟩ := k 0 p f rfl rfl
    refine KatTups.cons (xs := (f :: vs).toArray) (n := n) ho (by rw [e]) (by rw [e]) (by simp) (kat_of (by simpa using hl) fun i p f h1 h2 => k (i + 1) p f (by simpa using h1) (by simpa using h2))
/-- sorted(a list of tuples) -/
theorem sorted_tups {l : Addr} {tp : List (Addr × Obj)} {fs : List Value} {T : Value} {lt : Nat → Nat → Bool} {Q : Value → Shared → Prop} (F : Fr h₀ L s.heap m) (N : News h₀ L s.heap news)
    (hl : s.heap.IsList l (tp.map fun p => Value.ref p.1).toArray) (h2 : 2 ≤ tp.length) (h64 : tp.length < 64) (ht : ∀ p ∈ tp, p ∈ news) (O : Ord tp.length lt)
    (hfs : tp.length = fs.length) (hfirst : ∀ (i : Nat) (p : Addr × Obj) (f : Value), tp[i]? = some p → fs[i]? = some f → ∃ vs k, p.2 = tupO (f :: vs) k)
    (hT : ∀ v ∈ fs, typeOf v = pure T) (hT1 : (T != Value.type "tuple") = true) (hT2 : (T == T) = true)
    (hlt : ∀ (A : Around) (i j : Nat) (p q : Addr × Obj) (s' : Shared) (Q : Bool → Shared → Prop) (E : Value → Shared → Prop), tp[i]? = some p → tp[j]? = some q → s'.heap.get? p.1 = some p.2 → s'.heap.get? q.1 = some q.2 → Q (lt i j) s' → wpAny (model prog w) A (keyLt' (tuples' true) (.ref p.1) (.ref q.1)) Q E s')
    (hQ : ∀ D h' p c, PermN tp.length p → Asc lt p tp.length → Fr h₀ L h' m → News h₀ L h' ((D, listOf (p.toList.map fun i => (tp.map fun p => Value.ref p.1).getD i Value.none).toArray c) :: news) → (∀ q ∈ news, q.1 < D) → Q (.ref D) { s with heap := h' }) :
    wpAny (model prog w) A (call (.builtin "sorted") [.ref l]) Q E s := by
  refine kat_sorted F N hl (by simpa using h2) (by simpa using h64) fun D e1 h' F' N' hD => ?_
  have hg : ∀ p ∈ tp, h'.get? p.1 = some p.2 := fun p hp => (N' p (.tail _ (ht p hp))).1
  refine kat_kind (fs := fs) (T := T) (kat_of hfs fun i p f h1 h2 => ⟨hg p (List.mem_of_getElem? h1), hfirst i p f h1 h2⟩) (by omega) (fun v hv => Looks.of_pure (hT v hv)) hT2 ?_
  rw [hT1, List.length_map]
  refine Rn.wp (S := (· < tp.length)) (lt := lt) (fun i j C hi hj hC => ?_) ((rn_sort O h2).mono fun p hp => ?_)
  · show wpAny _ _ (keyLt' _ _ _) _ _ _
    have e : ∀ i (hi : i < tp.length), (tp.map fun p => Value.ref p.1).getD i Value.none = .ref (tp[i]).1 := fun i hi => by
      rw [List.getD_eq_getElem?_getD, List.getElem?_map, List.getElem?_eq_getElem hi]; rfl
    rw [e i hi, e j hj]
    exact hlt _ i j _ _ _ _ _ (List.getElem?_eq_getElem hi) (List.getElem?_eq_getElem hj) (hg _ (List.getElem_mem _)) (hg _ (List.getElem_mem _)) hC
  · exact KasFin.intro F' N' (.head fun q hq => Nat.ne_of_lt (hD q hq)) fun h'' c F'' N'' => hQ D h'' p c hp.1 hp.2 F'' N'' hD
end

end

section
/-! part P2 -/
section
variable {n : Nat} {lt : Nat → Nat → Bool}
noncomputable def le (lt : Nat → Nat → Bool) (a b : Nat) : Prop := lt b a = false
theorem Ord.le_of (O : Ord n lt) {a b : Nat} (ha : a < n) (hb : b < n) (h : lt a b = true) : le lt a b := O.asym ha hb h
theorem Ord.le_refl (O : Ord n lt) {a : Nat} (ha : a < n) : le lt a a := O.irr a ha
theorem Ord.le_tr (O : Ord n lt) {a b c : Nat} (ha : a < n) (hb : b < n) (hc : c < n) (h1 : le lt a b) (h2 : le lt b c) : le lt a c := by
  unfold le at *
  cases e : lt c a with
  | false => rfl
  | true =>
    by_cases hab : a = b
    · subst hab; rw [h2] at e; cases e
    · rcases O.tot a b ha hb hab with h | h
      · have := O.tr c a b hc ha hb e h; rw [h2] at this; cases this
      · rw [h1] at h; cases h
noncomputable def At (H : List Nat) (i : Nat) : Nat := H.getD i 0
theorem At_set {H : List Nat} {i j x : Nat} (hi : i < H.length) : At (H.set i x) j = if j = i then x else At H j := by
  unfold At
  rw [List.getD_eq_getElem?_getD, List.getElem?_set]
  split
  · rename_i h; subst h; simp [hi]
  · rename_i h; rw [if_neg (fun e => h e.symm), List.getD_eq_getElem?_getD]
theorem At_mem {H : List Nat} {i : Nat} (hi : i < H.length) : At H i ∈ H := by
  unfold At; rw [List.getD_eq_getElem?_getD, List.getElem?_eq_getElem hi]; exact List.getElem_mem _
theorem At_getD {H : List Nat} {i d : Nat} (hi : i < H.length) : H.getD i d = At H i := by
  unfold At; rw [List.getD_eq_getElem?_getD, List.getD_eq_getElem?_getD, List.getElem?_eq_getElem hi]; rfl
theorem At_some {H : List Nat} {i : Nat} (hi : i < H.length) : H[i]? = some (At H i) := by
  unfold At; rw [List.getD_eq_getElem?_getD, List.getElem?_eq_getElem hi]; rfl
theorem At_eq {H : List Nat} {i : Nat} (hi : i < H.length) : At H i = H[i] := by
  unfold At; rw [List.getD_eq_getElem?_getD, List.getElem?_eq_getElem hi]; rfl
noncomputable def In (n : Nat) (H : List Nat) : Prop := ∀ i, i < H.length → At H i < n
theorem In.set {H : List Nat} {i x : Nat} (h : In n H) (hi : i < H.length) (hx : x < n) : In n (H.set i x) := fun j hj => by
  rw [At_set hi]; split
  · exact hx
  · exact h j (by simpa using hj)
theorem In.of_mem {H : List Nat} (h : ∀ y ∈ H, y < n) : In n H := fun i hi => h _ (At_mem hi)
theorem swap_perm {H : List Nat} {i j x : Nat} (hi : i < H.length) (hj : j < H.length) (hij : i ≠ j) : ((H.set i (At H j)).set j x).Perm (H.set i x) := by
  have h := List.set_set_perm (as := H.set i x) (i := i) (j := j) (by simpa using hi) (by simpa using hj)
  rw [List.getElem_set_self, List.getElem_set_ne hij, List.set_set, ← At_eq hj] at h
  exact h
theorem par_lt {i : Nat} (h : 0 < i) : (i - 1) / 2 < i := by omega
theorem par_le (i : Nat) : (i - 1) / 2 ≤ i := Nat.le_trans (Nat.div_le_self _ _) (Nat.sub_le _ _)
theorem par1 (p : Nat) : (2 * p + 1 - 1) / 2 = p := by omega
theorem par2 (p : Nat) : (2 * p + 1 + 1 - 1) / 2 = p := by omega
theorem par_of {i p : Nat} (h : 0 < i) (e : (i - 1) / 2 = p) : i = 2 * p + 1 ∨ i = 2 * p + 1 + 1 := by omega
theorem par_lt1 (p : Nat) : p < 2 * p + 1 := by omega
theorem par_lt2 (p : Nat) : p < 2 * p + 1 + 1 := Nat.lt_succ_of_lt (par_lt1 p)
theorem sd_perm (x : Nat) : ∀ (pos : Nat) (H : List Nat), pos < H.length → (sd lt x H pos).Perm (H.set pos x) := by
  intro pos
  induction pos using Nat.strongRecOn with
  | ind pos ih =>
    intro H hp
    rw [sd_eq]
    split
    · exact List.Perm.refl _
    · rename_i h0
      have hqp := par_lt (Nat.pos_of_ne_zero h0)
      have hq := Nat.lt_trans hqp hp
      rw [At_some hq]
      dsimp only
      split
      · exact (ih _ hqp _ (by rw [List.length_set]; exact hq)).trans (swap_perm hp hq (Nat.ne_of_gt hqp))
      · exact List.Perm.refl _
/-- a heap but for the place pos, where x is to stand -/
noncomputable def HoleUp (lt : Nat → Nat → Bool) (H : List Nat) (pos x : Nat) : Prop :=
  (∀ i, 0 < i → i < H.length → i ≠ pos → (i - 1) / 2 ≠ pos → le lt (At H ((i - 1) / 2)) (At H i)) ∧
  (∀ i, 0 < i → i < H.length → (i - 1) / 2 = pos → le lt x (At H i)) ∧
  (∀ i, 0 < i → i < H.length → (i - 1) / 2 = pos → 0 < pos → le lt (At H ((pos - 1) / 2)) (At H i))
noncomputable def IsHeap (lt : Nat → Nat → Bool) (H : List Nat) : Prop := ∀ i, 0 < i → i < H.length → le lt (At H ((i - 1) / 2)) (At H i)
theorem HoleUp.fill {H : List Nat} {pos x : Nat} (hp : pos < H.length) (h : HoleUp lt H pos x) (hx : 0 < pos → le lt (At H ((pos - 1) / 2)) x) : IsHeap lt (H.set pos x) := by
  intro i h0 hi
  rw [List.length_set] at hi
  rw [At_set hp, At_set hp]
  by_cases e1 : i = pos
  · subst e1; rw [if_pos rfl, if_neg (Nat.ne_of_lt (par_lt h0))]; exact hx h0
  · rw [if_neg e1]
    by_cases e2 : (i - 1) / 2 = pos
    · rw [if_pos e2]; exact h.2.1 i h0 hi e2
    · rw [if_neg e2]; exact h.1 i h0 hi e1 e2
theorem sd_heap (O : Ord n lt) {x : Nat} (hx : x < n) : ∀ (pos : Nat) (H : List Nat), pos < H.length → In n H → HoleUp lt H pos x → IsHeap lt (sd lt x H pos) := by
  intro pos
  induction pos using Nat.strongRecOn with
  | ind pos ih =>
    intro H hp hin h
    rw [sd_eq]
    split
    · rename_i h0
      exact h.fill hp (fun h1 => by omega)
    · rename_i h0
      have h0' := Nat.pos_of_ne_zero h0
      have hqp := par_lt h0'
      have hq : (pos - 1) / 2 < H.length := Nat.lt_trans hqp hp
      have hqq := Nat.lt_of_le_of_lt (par_le ((pos - 1) / 2)) hqp
      rw [At_some hq]
      dsimp only
      split
      · rename_i hl
        refine ih _ hqp _ (by rw [List.length_set]; exact hq) (hin.set hp (hin _ hq)) ⟨?_, ?_, ?_⟩
        · intro i h1 h2 h3 h4
          rw [List.length_set] at h2
          rw [At_set hp, At_set hp]
          by_cases e1 : i = pos
          · exact absurd (by rw [e1]) h4
          · rw [if_neg e1]
            by_cases e2 : (i - 1) / 2 = pos
            · rw [if_pos e2]; exact h.2.2 i h1 h2 e2 h0'
            · rw [if_neg e2]; exact h.1 i h1 h2 e1 e2
        · intro i h1 h2 h3
          rw [List.length_set] at h2
          rw [At_set hp]
          by_cases e1 : i = pos
          · rw [if_pos e1]; exact O.le_of hx (hin _ hq) hl
          · rw [if_neg e1]
            have := h.1 i h1 h2 e1 (fun e => Nat.ne_of_lt hqp (h3.symm.trans e))
            rw [h3] at this
            exact O.le_tr hx (hin _ hq) (hin _ h2) (O.le_of hx (hin _ hq) hl) this
        · intro i h1 h2 h3 h5
          rw [List.length_set] at h2
          rw [At_set hp, At_set hp, if_neg (Nat.ne_of_lt hqq)]
          have e := h.1 ((pos - 1) / 2) h5 hq (Nat.ne_of_lt hqp) (Nat.ne_of_lt hqq)
          by_cases e1 : i = pos
          · rw [if_pos e1]; exact e
          · rw [if_neg e1]
            have := h.1 i h1 h2 e1 (fun e => Nat.ne_of_lt hqp (h3.symm.trans e))
            rw [h3] at this
            exact O.le_tr (hin _ (Nat.lt_of_le_of_lt (par_le _) hq)) (hin _ hq) (hin _ h2) e this
      · rename_i hl
        refine h.fill hp fun _ => ?_
        show lt x _ = false
        simpa using hl
noncomputable def HoleDown (lt : Nat → Nat → Bool) (H : List Nat) (pos : Nat) : Prop :=
  (∀ i, 0 < i → i < H.length → i ≠ pos → (i - 1) / 2 ≠ pos → le lt (At H ((i - 1) / 2)) (At H i)) ∧
  (∀ i, 0 < i → i < H.length → (i - 1) / 2 = pos → 0 < pos → le lt (At H ((pos - 1) / 2)) (At H i))
theorem hole_step {H : List Nat} {pos c : Nat} (hp : pos < H.length) (hc : c < H.length) (hpc : (c - 1) / 2 = pos) (h0 : 0 < c) (h : HoleDown lt H pos) (hsib : ∀ i, 0 < i → i < H.length → (i - 1) / 2 = pos → i ≠ c → le lt (At H c) (At H i)) :
    HoleDown lt (H.set pos (At H c)) c := by
  refine ⟨?_, ?_⟩
  · intro i h1 h2 h3 h4
    rw [List.length_set] at h2
    rw [At_set hp, At_set hp]
    by_cases e1 : i = pos
    · subst e1; rw [if_pos rfl, if_neg (Nat.ne_of_lt (par_lt h1))]
      exact h.2 c h0 hc hpc h1
    · rw [if_neg e1]
      by_cases e2 : (i - 1) / 2 = pos
      · rw [if_pos e2]; exact hsib i h1 h2 e2 h3
      · rw [if_neg e2]; exact h.1 i h1 h2 e1 e2
  · intro i h1 h2 h3 h4
    rw [List.length_set] at h2
    rw [At_set hp, At_set hp, if_pos hpc, if_neg (by omega)]
    have := h.1 i h1 h2 (by omega) (by omega)
    rw [h3] at this
    exact this
theorem su_spec (O : Ord n lt) {d : Nat} : ∀ (k : Nat) (H : List Nat) (pos : Nat), H.length - pos = k → pos < H.length → In n H → HoleDown lt H pos →
    (su lt d H pos).2 < (su lt d H pos).1.length ∧ ¬ 2 * (su lt d H pos).2 + 1 < (su lt d H pos).1.length ∧ In n (su lt d H pos).1 ∧ HoleDown lt (su lt d H pos).1 (su lt d H pos).2 ∧ ∀ y, ((su lt d H pos).1.set (su lt d H pos).2 y).Perm (H.set pos y) := by
  intro k
  induction k using Nat.strongRecOn with
  | ind k ih =>
    intro H pos hk hp hin h
    rw [su_eq]
    split
    · rename_i h1
      split
      · rename_i h2
        rw [At_getD h1, At_getD h2.1] at h2
        rw [At_getD h2.1]
        obtain ⟨a, b, c, e, f⟩ := ih (H.length - (2 * pos + 1 + 1)) (hk ▸ Nat.sub_lt_sub_left hp (par_lt2 pos)) (H.set pos (At H (2 * pos + 1 + 1))) (2 * pos + 1 + 1) (by rw [List.length_set]) (by rw [List.length_set]; exact h2.1) (hin.set hp (hin _ h2.1))
          (hole_step hp h2.1 (par2 pos) (Nat.succ_pos _) h fun i h3 h4 h5 h6 => by
            obtain rfl : i = 2 * pos + 1 := (par_of h3 h5).resolve_right h6
            exact h2.2)
        exact ⟨a, b, c, e, fun y => (f y).trans (swap_perm hp h2.1 (Nat.ne_of_lt (par_lt2 pos)))⟩
      · rename_i h2
        rw [At_getD h1]
        obtain ⟨a, b, c, e, f⟩ := ih (H.length - (2 * pos + 1)) (hk ▸ Nat.sub_lt_sub_left hp (par_lt1 pos)) (H.set pos (At H (2 * pos + 1))) (2 * pos + 1) (by rw [List.length_set]) (by rw [List.length_set]; exact h1) (hin.set hp (hin _ h1))
          (hole_step hp h1 (par1 pos) (Nat.succ_pos _) h fun i h3 h4 h5 h6 => by
            obtain rfl : i = 2 * pos + 1 + 1 := (par_of h3 h5).resolve_left h6
            have h7 : lt (At H (2 * pos + 1)) (At H (2 * pos + 1 + 1)) = true := by
              cases e : lt (At H (2 * pos + 1)) (At H (2 * pos + 1 + 1)) with
              | true => rfl
              | false => exact absurd ⟨h4, by rw [At_getD h1, At_getD h4]; exact e⟩ h2
            exact O.le_of (hin _ h1) (hin _ h4) h7)
        exact ⟨a, b, c, e, fun y => (f y).trans (swap_perm hp h1 (Nat.ne_of_lt (par_lt1 pos)))⟩
    · rename_i h1
      exact ⟨hp, h1, hin, h, fun y => List.Perm.refl _⟩
theorem sup_spec (O : Ord n lt) {x : Nat} {H : List Nat} (hx : x < n) (hp : 0 < H.length) (hin : In n H) (h : HoleDown lt H 0) : IsHeap lt (sup lt x H) ∧ (sup lt x H).Perm (H.set 0 x) := by
  obtain ⟨a, b, c, e, f⟩ := su_spec O (d := x) _ H 0 rfl hp hin h
  unfold sup
  refine ⟨sd_heap O hx _ _ (by simpa using a) (c.set a hx) ⟨?_, ?_, ?_⟩, ?_⟩
  · intro i h1 h2 h3 h4
    rw [At_set a, At_set a, if_neg h3, if_neg h4]
    exact e.1 i h1 (by simpa using h2) h3 h4
  · intro i h1 h2 h3
    rw [List.length_set] at h2
    omega
  · intro i h1 h2 h3
    rw [List.length_set] at h2
    omega
  · refine (sd_perm x _ _ (by simpa using a)).trans ?_
    rw [List.set_set]
    exact f x
theorem heap_min (O : Ord n lt) {H : List Nat} (hin : In n H) (h : IsHeap lt H) : ∀ i, i < H.length → le lt (At H 0) (At H i) := by
  intro i
  induction i using Nat.strongRecOn with
  | ind i ih =>
    intro hi
    by_cases h0 : i = 0
    · subst h0; exact O.le_refl (hin _ hi)
    · have h0' := Nat.pos_of_ne_zero h0
      have hq := Nat.lt_trans (par_lt h0') hi
      exact O.le_tr (hin _ (Nat.lt_trans h0' hi)) (hin _ hq) (hin _ hi) (ih ((i - 1) / 2) (par_lt h0') hq) (h i h0' hi)
theorem in_perm {H H' : List Nat} (h : In n H) (p : H'.Perm H) : In n H' := In.of_mem fun y hy => by
  obtain ⟨i, hi, e⟩ := List.getElem_of_mem (p.mem_iff.mp hy)
  rw [← e, ← At_eq hi]; exact h i hi
theorem pushes_spec (O : Ord n lt) : ∀ k, k ≤ n → IsHeap lt (pushes lt k) ∧ (pushes lt k).Perm (List.range k)
  | 0, _ => ⟨fun i h h' => absurd h' (by simp [pushes]), List.Perm.refl _⟩
  | k + 1, hk => by
    obtain ⟨h1, h2⟩ := pushes_spec O k (by omega)
    have hl : (pushes lt k).length = k := pushes_length lt k
    have hin : In n (pushes lt k ++ [k]) := In.of_mem fun y hy => by
      rcases List.mem_append.mp hy with h | h
      · have := pushes_mem lt k y h; omega
      · have := List.mem_singleton.mp h; omega
    have ha : ∀ i, i < k → At (pushes lt k ++ [k]) i = At (pushes lt k) i := fun i hi => by
      unfold At
      rw [List.getD_eq_getElem?_getD, List.getElem?_append_left (by omega), ← List.getD_eq_getElem?_getD]
    rw [pushes]
    refine ⟨sd_heap O (by omega) _ _ (by simp) hin ⟨?_, ?_, ?_⟩, ?_⟩
    · intro i h3 h4 h5 h6
      rw [List.length_append, List.length_singleton, hl] at h4
      rw [hl] at h5
      rw [ha _ (by omega), ha _ (by omega)]
      exact h1 i h3 (by omega)
    · intro i h3 h4 h5
      rw [List.length_append, List.length_singleton] at h4
      omega
    · intro i h3 h4 h5
      rw [List.length_append, List.length_singleton] at h4
      omega
    · refine (sd_perm k _ _ (by simp)).trans ?_
      rw [List.range_succ]
      have : (pushes lt k ++ [k]).set (pushes lt k).length k = pushes lt k ++ [k] := by
        rw [List.set_append]; simp
      rw [this]
      exact h2.append_right _
theorem pops_spec (O : Ord n lt) : ∀ (k : Nat) (H : List Nat), H.length = k → In n H → IsHeap lt H → (pops lt k H).Perm H ∧ (pops lt k H).Pairwise (le lt)
  | 0, H, hl, _, _ => by
    obtain rfl : H = [] := List.eq_nil_of_length_eq_zero hl
    exact ⟨List.Perm.refl _, List.Pairwise.nil⟩
  | k + 1, H, hl, hin, hh => by
    obtain ⟨ys, z, rfl⟩ : ∃ ys z, H = ys ++ [z] := by
      rcases List.eq_nil_or_concat H with h | ⟨ys, z, h⟩
      · subst h; simp at hl
      · exact ⟨ys, z, by simpa using h⟩
    have hps : pops lt (k + 1) (ys ++ [z]) = popV ys z :: pops lt k (popL lt ys z) := by simp [pops]
    rw [hps]
    have hz : z < n := by
      have := hin ys.length (by simp)
      unfold At at this
      simpa using this
    have hv : popV ys z = At (ys ++ [z]) 0 := by cases ys <;> rfl
    have hyl : ys.length = k := by simpa using hl
    have key : IsHeap lt (popL lt ys z) ∧ (popV ys z :: popL lt ys z).Perm (ys ++ [z]) := by
      unfold popL
      cases ys with
      | nil => exact ⟨fun i h h' => absurd h' (by simp), List.Perm.refl _⟩
      | cons y ys =>
        rw [if_neg (by simp)]
        have hin' : In n (y :: ys) := In.of_mem fun a ha => by
          obtain ⟨i, hi, e⟩ := List.getElem_of_mem (List.mem_append_left [z] ha)
          rw [← e, ← At_eq hi]; exact hin i hi
        have hal : ∀ i, i < (y :: ys).length → At (y :: ys ++ [z]) i = At (y :: ys) i := fun i hi => by
          unfold At
          rw [List.getD_eq_getElem?_getD, List.getElem?_append_left hi, ← List.getD_eq_getElem?_getD]
        obtain ⟨a, b⟩ := sup_spec O (x := z) (H := (y :: ys).set 0 z) hz (by simp) (hin'.set (by simp) hz) ⟨fun i h1 h2 h3 h4 => by
          rw [List.length_set] at h2
          rw [At_set (by simp), At_set (by simp), if_neg h3, if_neg h4, ← hal _ h2, ← hal _ (by omega)]
          exact hh i h1 (by simp at h2 ⊢; omega), fun i h1 h2 h3 h4 => by omega⟩
        refine ⟨a, ?_⟩
        refine (b.cons _).trans ?_
        rw [List.set_set]
        show (y :: z :: ys).Perm (y :: (ys ++ [z]))
        exact (List.perm_append_singleton z ys).symm.cons y
    obtain ⟨k1, k2⟩ := key
    have hin2 : In n (popL lt ys z) := In.of_mem fun a ha => by
      obtain ⟨i, hi, e⟩ := List.getElem_of_mem (k2.mem_iff.mp (List.mem_cons_of_mem _ ha))
      rw [← e, ← At_eq hi]; exact hin i hi
    obtain ⟨p1, p2⟩ := pops_spec O k (popL lt ys z) (by rw [popL_length]; exact hyl) hin2 k1
    refine ⟨(p1.cons _).trans k2, List.Pairwise.cons (fun a ha => ?_) p2⟩
    obtain ⟨i, hi, e⟩ := List.getElem_of_mem (k2.mem_iff.mp (List.mem_cons_of_mem _ (p1.mem_iff.mp ha)))
    rw [hv, ← e, ← At_eq hi]
    exact heap_min O hin hh i hi
theorem uniq (O : Ord n lt) : ∀ (l₁ l₂ : List Nat), l₁.Perm l₂ → (∀ y ∈ l₁, y < n) → l₁.Pairwise (le lt) → l₂.Pairwise (le lt) → l₁ = l₂
  | [], l₂, p, _, _, _ => (List.nil_perm.mp p).symm
  | a :: l₁, [], p, _, _, _ => absurd p.length_eq (by simp)
  | a :: l₁, b :: l₂, p, hn, h1, h2 => by
    have hb : b < n := hn b (p.mem_iff.mpr (.head _))
    have e : a = b := by
      by_cases hab : a = b
      · exact hab
      · have h3 : le lt a b := by
          rcases List.mem_cons.mp (p.mem_iff.mpr (.head _) : b ∈ a :: l₁) with h | h
          · exact absurd h.symm hab
          · exact (List.pairwise_cons.mp h1).1 b h
        have h4 : le lt b a := by
          rcases List.mem_cons.mp (p.mem_iff.mp (.head _) : a ∈ b :: l₂) with h | h
          · exact absurd h hab
          · exact (List.pairwise_cons.mp h2).1 a h
        rcases O.tot a b (hn a (.head _)) hb hab with h | h
        · unfold le at h4; rw [h4] at h; cases h
        · unfold le at h3; rw [h3] at h; cases h
    subst e
    rw [uniq O l₁ l₂ (List.perm_cons a |>.mp p) (fun y hy => hn y (.tail _ hy)) (List.pairwise_cons.mp h1).2 (List.pairwise_cons.mp h2).2]
theorem asc_pairwise (O : Ord n lt) {p : Array Nat} (P : PermN n p) (h : Asc lt p n) : p.toList.Pairwise (le lt) := by
  have g : ∀ i (h : i < p.toList.length), p.toList[i] = p.getD i 0 := fun i h => by
    rw [Array.getD_eq_getD_getElem?, Array.getElem?_eq_getElem (by simpa using h)]; simp
  have hl : p.toList.length = n := by simpa using P.size
  rw [List.pairwise_iff_getElem]
  intro i j hi hj hij
  rw [g i hi, g j hj]
  exact O.le_of (P.lt _ (by omega)) (P.lt _ (by omega)) (h i j hij (by omega))
/-- heaps and the sorting give the same -/
theorem heap_is_sort (O : Ord n lt) {p : Array Nat} (P : PermN n p) (h : Asc lt p n) : pops lt n (pushes lt n) = p.toList := by
  obtain ⟨h1, h2⟩ := pushes_spec O n (Nat.le_refl _)
  have hin : In n (pushes lt n) := In.of_mem (pushes_mem lt n)
  obtain ⟨p1, p2⟩ := pops_spec O n (pushes lt n) (pushes_length lt n) hin h1
  refine uniq O _ _ ((p1.trans h2).trans P.perm.symm) (fun y hy => pushes_mem lt n y (p1.mem_iff.mp hy)) p2 (asc_pairwise O P h)
end

end

section
/-! part M10 -/
theorem fillx10 : PySem.Challenge.rw_ny0133_01 = PySem.Challenge.rw_ny0133_01 ∧ hd.heap_39 = hd.heap_39 := by k_fill; w_top off; exact ⟨rfl, rfl⟩
noncomputable def lt1 (mds : List Int) (i j : Nat) : Bool :=
  if (mds.getD i 0).fmod 256 = (mds.getD j 0).fmod 256 then (if (mds.getD i 0).fdiv 256 = (mds.getD j 0).fdiv 256 then decide ((i : Int) < (j : Int)) else decide ((mds.getD i 0).fdiv 256 < (mds.getD j 0).fdiv 256)) else decide ((mds.getD i 0).fmod 256 < (mds.getD j 0).fmod 256)
noncomputable def lt2 (mds : List Int) (i j : Nat) : Bool := if (mds.getD i 0 == mds.getD j 0) = true then decide ((i : Int) < (j : Int)) else decide (mds.getD i 0 < mds.getD j 0)
noncomputable def lt3 (mds : List Int) (i j : Nat) : Bool := if decide (lsg3 (mds.getD i 0) = lsg3 (mds.getD j 0)) = true then decide ((i : Int) < (j : Int)) else decide ((lsg3 (mds.getD i 0)).cps.toList < (lsg3 (mds.getD j 0)).cps.toList)
/-- the tuples (octet, more, place) -/
noncomputable def T3 (mds : List Int) (tp : List (Addr × Obj)) : Prop := ∀ (j : Nat) (p : Addr × Obj), tp[j]? = some p → ∃ t1 t2 t3 k, p.2 = tupO [.int ((mds.getD j 0).fmod 256) t1, .int ((mds.getD j 0).fdiv 256) t2, .int (j : Int) t3] k
/-- the tuples (key, place) -/
noncomputable def T2 (key : Nat → Value → Prop) (tp : List (Addr × Obj)) : Prop := ∀ (j : Nat) (p : Addr × Obj), tp[j]? = some p → ∃ f t3 k, key j f ∧ p.2 = tupO [f, .int (j : Int) t3] k
theorem get_snoc {α : Type} {l : List α} {x p : α} {j : Nat} (h : (l ++ [x])[j]? = some p) : l[j]? = some p ∨ (j = l.length ∧ p = x) := by
  rcases Nat.lt_or_ge j l.length with hi | hi
  · rw [List.getElem?_append_left hi] at h; exact .inl h
  · have : j = l.length := by
      have := (List.getElem?_eq_some_iff.mp h).1
      simp at this; omega
    subst this
    simp at h
    exact .inr ⟨rfl, h.symm⟩
theorem T3.snoc {mds : List Int} {tp : List (Addr × Obj)} {T : Addr} {t1 t2 t3 : Tok} {k : Nat} (h : T3 mds tp) : T3 mds (tp ++ [(T, tupO [.int ((mds.getD tp.length 0).fmod 256) t1, .int ((mds.getD tp.length 0).fdiv 256) t2, .int ((tp.length : Nat) : Int) t3] k)]) := by
  intro j p hp
  rcases get_snoc hp with h1 | ⟨rfl, rfl⟩
  · exact h j p h1
  · exact ⟨t1, t2, t3, k, rfl⟩
theorem T2.snoc {key : Nat → Value → Prop} {tp : List (Addr × Obj)} {T : Addr} {f : Value} {t3 : Tok} {k : Nat} (h : T2 key tp) (hf : key tp.length f) : T2 key (tp ++ [(T, tupO [f, .int ((tp.length : Nat) : Int) t3] k)]) := by
  intro j p hp
  rcases get_snoc hp with h1 | ⟨rfl, rfl⟩
  · exact h j p h1
  · exact ⟨f, t3, k, hf, rfl⟩
noncomputable def firstO (o : Obj) : Value := match o.data with | .seq xs _ => xs.getD 0 .none | _ => .none
/-- the places, as ints -/
noncomputable def PlAre (zs : List Value) (p : Array Nat) : Prop := ∀ (j : Nat) (v : Value), zs[j]? = some v → ∃ t : Tok, v = Value.int ((p.getD j 0 : Nat) : Int) t
theorem PlAre.snoc {zs : List Value} {p : Array Nat} {t : Tok} (h : PlAre zs p) : PlAre (zs ++ [.int ((p.getD zs.length 0 : Nat) : Int) t]) p := by
  intro j v hv
  rcases get_snoc hv with h1 | ⟨rfl, rfl⟩
  · exact h j v h1
  · exact ⟨t, rfl⟩
theorem ints_of : ∀ {zs : List Value} {ns : List Int}, zs.length = ns.length → (∀ (j : Nat) (v : Value), zs[j]? = some v → ∃ t : Tok, v = Value.int (ns.getD j 0) t) → IntsAre zs ns
  | [], [], _, _ => .nil
  | [], _ :: _, h, _ => by simp at h
  | _ :: _, [], h, _ => by simp at h
  | z :: zs, n :: ns, hl, h => by
    obtain ⟨t, e⟩ := h 0 z rfl
    rw [e]
    exact .cons n t (ints_of (by simpa using hl) fun j v hv => by simpa using h (j + 1) v (by simpa using hv))
theorem PlAre.ints {zs : List Value} {p : Array Nat} (h : PlAre zs p) (hl : zs.length = p.size) : IntsAre zs (p.toList.map fun (j : Nat) => (j : Int)) := by
  refine ints_of (by simpa using hl) fun j v hv => ?_
  obtain ⟨t, e⟩ := h j v hv
  have hj : j < p.size := by have := (List.getElem?_eq_some_iff.mp hv).1; omega
  refine ⟨t, ?_⟩
  rw [e, List.getD_eq_getElem?_getD, List.getElem?_map, Array.getElem?_toList, Array.getD_eq_getD_getElem?]
  simp [hj]
/-- an item of the sorted list is one of the tuples -/
theorem pick_item {tp : List (Addr × Obj)} {p : Array Nat} {n i : Nat} {v : Value} (P : PermN n p) (hn : tp.length = n) (h : (p.toList.map fun i => (tp.map fun p => Value.ref p.1).getD i Value.none).toArray[i]? = some v) :
    ∃ q, tp[p.getD i 0]? = some q ∧ v = .ref q.1 := by
  simp only [List.getElem?_toArray, List.getElem?_map, Array.getElem?_toList] at h
  rcases Nat.lt_or_ge i p.size with hi | hi
  · have hi' : i < n := by rw [← P.size]; exact hi
    have hlt := P.lt i hi'
    have e : p[i]? = some (p.getD i 0) := by rw [Array.getD_eq_getD_getElem?, Array.getElem?_eq_getElem hi]; rfl
    rw [e] at h
    simp only [Option.map_some, Option.some.injEq] at h
    refine ⟨tp[p.getD i 0]'(by omega), List.getElem?_eq_getElem (by omega), ?_⟩
    rw [← h, List.getD_eq_getElem?_getD, List.getElem?_map, List.getElem?_eq_getElem (by omega)]
    rfl
  · rw [Array.getElem?_eq_none hi] at h; cases h
/-- texts, one for each place -/
noncomputable def SsAre (ws : List Value) (f : Nat → Str) : Prop := ∀ (i : Nat) (v : Value), ws[i]? = some v → ∃ t : Tok, v = Value.str (f i) t
theorem SsAre.snoc {ws : List Value} {f : Nat → Str} {t : Tok} (h : SsAre ws f) : SsAre (ws ++ [.str (f ws.length) t]) f := by
  intro i v hv
  rcases Nat.lt_or_ge i ws.length with hi | hi
  · rw [List.getElem?_append_left hi] at hv; exact h i v hv
  · have : i = ws.length := by
      have := (List.getElem?_eq_some_iff.mp hv).1
      simp at this; omega
    subst this
    simp at hv
    exact ⟨t, hv.symm⟩
section
variable {prog : Program} {w : World} {A : Around} {E : Value → Shared → Prop} {s : Shared} {h₀ : Heap} {L : Addr} {m : Str → Option Value} {news : List (Addr × Obj)}
noncomputable abbrev rgO (a b c : Int) (t u v : Tok) : Obj := { cls := .type "range", dict := none, data := .fields #[.int a t, .int b u, .int c v], slots := #[] }
theorem range_news {n : Int} {t : Tok} {Q : Value → Shared → Prop} (F : Fr h₀ L s.heap m) (N : News h₀ L s.heap news)
    (h : ∀ h' r tk t₁ u₁ v₁, Fr h₀ L h' m → News h₀ L h' ((r, rgO 0 n 1 t₁ u₁ v₁) :: news) → (∀ p ∈ news, p.1 < r) → Q (.ref r) { s with heap := h', toks := tk }) :
    wpAny (model prog w) A (call (.type "range") [.int n t]) Q E s := by
  refine call_range_1 (h _ _ _ s.toks t (s.toks + 1) (F.push _) (fun (p : Addr × Obj) (hp : p ∈ _) => ?_) fun p hp => Heap.lt_size (N p hp).1)
  rcases List.mem_cons.mp hp with rfl | hp
  · exact ⟨Heap.get?_push_size _ rfl, Nat.ne_of_gt F.ns.lt, next_is_new F⟩
  · exact ⟨Heap.get?_push_of_some _ (N p hp).1, (N p hp).2⟩
theorem item_list {value slice : PySem.Expr} {l : Addr} {vs : List Value} {k : Int} {i : Nat} {u : Tok} {v : Value} {Q : Value → Shared → Prop} (hl : s.heap.IsList l vs.toArray) (hk : k = (i : Int)) (hx : vs[i]? = some v) (h60 : vs.length < 60) (h : Q v s)
    (hs : subscripted slice false (.ref l) (.int k u) = operate [.ref l, .int k u] (getItem (.ref l) (.int k u)) := by with_unfolding_all rfl) :
    wpAny (model prog w) A (subscriptTail value slice (.ref l) (.int k u)) Q E s := by
  subst hk
  have hi : i < vs.length := (List.getElem?_eq_some_iff.mp hx).1
  exact item_litK hl (by omega) (by omega) (by rw [Int.toNat_natCast]; exact hx) h hs
end
set_option maxRecDepth 100000 in
set_option maxHeartbeats 8000000 in
theorem due {w : World} {mean : ExcName → Option Value} {mg mb : Str → Option Value} {A₀ A : Around} {base h₀ : Heap} {outer : List Env} {env : Env} {L : Addr} {m : Str → Option Value} {s : Shared}
   {news : List (Addr × Obj)} {a : Addr} {vs : List Value} {mds : List Int} {no : Nat} {R : Result → Shared → Prop}
   (B : Below A₀ base outer h₀) (F : Fr h₀ L s.heap m) (X : (hd.heap_39 w.params).In h₀) (N : News h₀ L s.heap ((a, W.listOf vs.toArray no) :: news)) (T : Top hd.view_39 LW mean mg mb h₀)
   (hA : A.frames = some (env :: outer)) (hf : env.frame = some L) (hke : env.scope.kind = .function) (hroom : A.depth + 2 < recursionLimit) (hu : A.units + 14 < cLine) (hh : A.handled = none)
   (hI : IntsAre vs mds) (h2 : 2 ≤ vs.length) (h60 : vs.length < 60) (O1 : Ord vs.length (lt1 mds)) (O2 : Ord vs.length (lt2 mds)) (O3 : Ord vs.length (lt3 mds))
   (hR : ∀ h' tk D o' A1 A2 A3 o1 o2 o3 w1 w2 w3 p1 p2 p3, isL o' [.ref A1, .ref A2, .ref A3] → isL o1 w1 → isL o2 w2 → isL o3 w3 → IntsAre w1 ((Array.toList p1).map fun (j : Nat) => (j : Int)) → IntsAre w2 ((Array.toList p2).map fun (j : Nat) => (j : Int)) → IntsAre w3 ((Array.toList p3).map fun (j : Nat) => (j : Int)) →
      PermN vs.length p1 → PermN vs.length p2 → PermN vs.length p3 → Asc (lt1 mds) p1 vs.length → Asc (lt2 mds) p2 vs.length → Asc (lt3 mds) p3 vs.length →
      Fr h₀ L h' m → News h₀ L h' ((D, o') :: (A1, o1) :: (A2, o2) :: (A3, o3) :: (a, W.listOf vs.toArray no) :: news) → R (.ok (.ret (.ref D))) { s with heap := h', toks := tk }) :
   codeAny (model PR w) A (.call (.ref 118) ⟨[.ref a], []⟩) R s := by
  refine' enterC B F X N T hA hf hke ?k6 ?k7 (by omega) ?k9 ?kB ?kD ?_ ?c2 ?c3 ?c4
  (((case k6 => k_is); (case k7 => k_is); (case k9 => exact BindsTo.of_eq rfl); (case kB => exact rfl); (case kD => decide +kernel); (case c2 => exact rfl); (case c3 => exact rfl); (case c4 => exact rfl); k_whole))
  intro g' L' h' tk cells F' N' Y' B' X' T' l1
  k_cells Y'
  (try simp only [List.cons_append, List.nil_append] at N'); (try dsimp only)
  (repeat' (first | (k_unfold; (try dsimp only)) | (((fail_if_success (with_reducible first | show LCg.CompSrc _ _ _ _ _ _ _ _ _ _ _ _ _ _ | show wpAny _ _ (exec (Stmt.While _ _ _ _) _) _ _ _ | show wpAny _ _ (call (Value.ref _) _ _) _ _ _ | show wpAny _ _ (exec (Stmt.For _ _ _ _ _) _) _ _ _ | show wpAny _ _ (call (Value.builtin "list.append") _ _) _ _ _ | show wpAny _ _ (eval (Expr.ListComp _ _ _ _) _) _ _ _ | show wpAny _ _ (subscriptTail _ _ (Value.str _ _) _) _ _ _ | show wpAny _ _ (binaryOp Operator.Add (Value.str _ _) (Value.str _ _)) _ _ _ | show wpAny _ _ (call (Value.builtin "sorted") _ _) _ _ _ | show wpAny _ _ (exec (Stmt.Assign _ (Expr.ListComp _ _ _ _) _) _) _ _ _ | show wpAny _ _ (call (Value.type "range") [_] _) _ _ _ | show wpAny _ _ (call (Value.type "bytes") _ _) _ _ _ | show wpAny _ _ (storeName _ _ (Value.ref _)) _ _ _ | show wpAny _ _ (subscriptTail _ _ (Value.bytes _ _) _) _ _ _ | show wpAny _ _ (subscriptTail _ _ (Value.ref _) _) _ _ _ | show wpAny _ _ (binaryOp _ (Value.ref _) (Value.ref _)) _ _ _ | show wpAny _ _ (compareOp _ (Value.ref _) (Value.ref _)) _ _ _ | show wpAny _ _ (compareOp _ (Value.bytes _ _) (Value.bytes _ _)) _ _ _))); walk1; (try dsimp only))))
  walk1
  dsimp only
  refine LCg.ListComp_U (F₀ := F') (by with_unfolding_all rfl) (by decide) (by rfl) (by decide) (by rfl) ?_
  (repeat' (first | (k_unfold; (try dsimp only)) | (((fail_if_success (with_reducible first | show LCg.CompSrc _ _ _ _ _ _ _ _ _ _ _ _ _ _ | show wpAny _ _ (exec (Stmt.While _ _ _ _) _) _ _ _ | show wpAny _ _ (call (Value.ref _) _ _) _ _ _ | show wpAny _ _ (exec (Stmt.For _ _ _ _ _) _) _ _ _ | show wpAny _ _ (call (Value.builtin "list.append") _ _) _ _ _ | show wpAny _ _ (eval (Expr.ListComp _ _ _ _) _) _ _ _ | show wpAny _ _ (subscriptTail _ _ (Value.str _ _) _) _ _ _ | show wpAny _ _ (binaryOp Operator.Add (Value.str _ _) (Value.str _ _)) _ _ _ | show wpAny _ _ (call (Value.builtin "sorted") _ _) _ _ _ | show wpAny _ _ (exec (Stmt.Assign _ (Expr.ListComp _ _ _ _) _) _) _ _ _ | show wpAny _ _ (call (Value.type "range") [_] _) _ _ _ | show wpAny _ _ (call (Value.type "bytes") _ _) _ _ _ | show wpAny _ _ (storeName _ _ (Value.ref _)) _ _ _ | show wpAny _ _ (subscriptTail _ _ (Value.bytes _ _) _) _ _ _ | show wpAny _ _ (subscriptTail _ _ (Value.ref _) _) _ _ _ | show wpAny _ _ (binaryOp _ (Value.ref _) (Value.ref _)) _ _ _ | show wpAny _ _ (compareOp _ (Value.ref _) (Value.ref _)) _ _ _ | show wpAny _ _ (compareOp _ (Value.bytes _ _) (Value.bytes _ _)) _ _ _))); walk1; (try dsimp only))))
  rename_i oS oM dS dM
  refine LCg.CompSrc.ledger (k := no) (its := vs.toArray) (by exact hh) F' N' (by simp [W.listOf]) (by rw [List.size_toArray, sizeLine_eq]; omega) fun g => ?_
  refine comp_ind (fun i ys news' => news' = _ :: _ :: (a, W.listOf vs.toArray no) :: news ∧ ys.length = i ∧ SsAre ys (fun j => lsg3 (mds.getD j 0))) ⟨rfl, rfl, fun i v h => nomatch h⟩ ?_ ?_
  · rintro i ys news' hi ⟨rfl, hyl, hS⟩ v I oI C oC D m₂ h₃ tk₃ E' hP hoC hm F₃ N₃ off hne
    obtain ⟨t, rfl⟩ := PyProof.Rows.IntsAre.int_at hI i v (by simpa using hP)
    (repeat' (first | (k_unfold; (try dsimp only)) | (((fail_if_success (with_reducible first | show LCg.CompSrc _ _ _ _ _ _ _ _ _ _ _ _ _ _ | show wpAny _ _ (exec (Stmt.While _ _ _ _) _) _ _ _ | show wpAny _ _ (call (Value.ref _) _ _) _ _ _ | show wpAny _ _ (exec (Stmt.For _ _ _ _ _) _) _ _ _ | show wpAny _ _ (call (Value.builtin "list.append") _ _) _ _ _ | show wpAny _ _ (eval (Expr.ListComp _ _ _ _) _) _ _ _ | show wpAny _ _ (subscriptTail _ _ (Value.str _ _) _) _ _ _ | show wpAny _ _ (binaryOp Operator.Add (Value.str _ _) (Value.str _ _)) _ _ _ | show wpAny _ _ (call (Value.builtin "sorted") _ _) _ _ _ | show wpAny _ _ (exec (Stmt.Assign _ (Expr.ListComp _ _ _ _) _) _) _ _ _ | show wpAny _ _ (call (Value.type "range") [_] _) _ _ _ | show wpAny _ _ (call (Value.type "bytes") _ _) _ _ _ | show wpAny _ _ (storeName _ _ (Value.ref _)) _ _ _ | show wpAny _ _ (subscriptTail _ _ (Value.bytes _ _) _) _ _ _ | show wpAny _ _ (subscriptTail _ _ (Value.ref _) _) _ _ _ | show wpAny _ _ (binaryOp _ (Value.ref _) (Value.ref _)) _ _ _ | show wpAny _ _ (compareOp _ (Value.ref _) (Value.ref _)) _ _ _ | show wpAny _ _ (compareOp _ (Value.bytes _ _) (Value.bytes _ _)) _ _ _))); walk1; (try dsimp only))))
    refine wpAny_call (lsigns B' F₃ X' N₃ T' (Around.frames_deeper B'.stack) rfl rfl (by show A.depth + 1 + 1 < recursionLimit; omega) (by show A.units + 3 + 8 < cLine; omega) (by exact hh) fun h₄ tk₄ t₄ F₄ N₄ => ?_)
    (repeat' (first | (k_unfold; (try dsimp only)) | (((fail_if_success (with_reducible first | show LCg.CompSrc _ _ _ _ _ _ _ _ _ _ _ _ _ _ | show wpAny _ _ (exec (Stmt.While _ _ _ _) _) _ _ _ | show wpAny _ _ (call (Value.ref _) _ _) _ _ _ | show wpAny _ _ (exec (Stmt.For _ _ _ _ _) _) _ _ _ | show wpAny _ _ (call (Value.builtin "list.append") _ _) _ _ _ | show wpAny _ _ (eval (Expr.ListComp _ _ _ _) _) _ _ _ | show wpAny _ _ (subscriptTail _ _ (Value.str _ _) _) _ _ _ | show wpAny _ _ (binaryOp Operator.Add (Value.str _ _) (Value.str _ _)) _ _ _ | show wpAny _ _ (call (Value.builtin "sorted") _ _) _ _ _ | show wpAny _ _ (exec (Stmt.Assign _ (Expr.ListComp _ _ _ _) _) _) _ _ _ | show wpAny _ _ (call (Value.type "range") [_] _) _ _ _ | show wpAny _ _ (call (Value.type "bytes") _ _) _ _ _ | show wpAny _ _ (storeName _ _ (Value.ref _)) _ _ _ | show wpAny _ _ (subscriptTail _ _ (Value.bytes _ _) _) _ _ _ | show wpAny _ _ (subscriptTail _ _ (Value.ref _) _) _ _ _ | show wpAny _ _ (binaryOp _ (Value.ref _) (Value.ref _)) _ _ _ | show wpAny _ _ (compareOp _ (Value.ref _) (Value.ref _)) _ _ _ | show wpAny _ _ (compareOp _ (Value.bytes _ _) (Value.bytes _ _)) _ _ _))); walk1; (try dsimp only))))
    subst hyl
    exact ⟨h₄, _, _, rfl, F₄, N₄, off, .inr ⟨_, .tail _ (.tail _ (.head _)), rfl, no, rfl⟩, rfl, by simp, hS.snoc⟩
  rintro ys news' ⟨rfl, hyl, hS⟩ D h₄ tk₄ F₄ N₄ off
  (repeat' (first | (k_unfold; (try dsimp only)) | (((fail_if_success (with_reducible first | show LCg.CompSrc _ _ _ _ _ _ _ _ _ _ _ _ _ _ | show wpAny _ _ (exec (Stmt.While _ _ _ _) _) _ _ _ | show wpAny _ _ (call (Value.ref _) _ _) _ _ _ | show wpAny _ _ (exec (Stmt.For _ _ _ _ _) _) _ _ _ | show wpAny _ _ (call (Value.builtin "list.append") _ _) _ _ _ | show wpAny _ _ (eval (Expr.ListComp _ _ _ _) _) _ _ _ | show wpAny _ _ (subscriptTail _ _ (Value.str _ _) _) _ _ _ | show wpAny _ _ (binaryOp Operator.Add (Value.str _ _) (Value.str _ _)) _ _ _ | show wpAny _ _ (call (Value.builtin "sorted") _ _) _ _ _ | show wpAny _ _ (exec (Stmt.Assign _ (Expr.ListComp _ _ _ _) _) _) _ _ _ | show wpAny _ _ (call (Value.type "range") [_] _) _ _ _ | show wpAny _ _ (call (Value.type "bytes") _ _) _ _ _ | show wpAny _ _ (storeName _ _ (Value.ref _)) _ _ _ | show wpAny _ _ (subscriptTail _ _ (Value.bytes _ _) _) _ _ _ | show wpAny _ _ (subscriptTail _ _ (Value.ref _) _) _ _ _ | show wpAny _ _ (binaryOp _ (Value.ref _) (Value.ref _)) _ _ _ | show wpAny _ _ (compareOp _ (Value.ref _) (Value.ref _)) _ _ _ | show wpAny _ _ (compareOp _ (Value.bytes _ _) (Value.bytes _ _)) _ _ _))); walk1; (try dsimp only))))
  refine' storeX_C F₄ N₄ rfl (.tail (Ne.symm off.1) (.head ?_)) dS ?_
  · intro p hp
    rcases List.mem_cons.mp hp with rfl | hp
    · exact Nat.ne_of_lt (Nat.lt_succ_self _)
    · exact Nat.ne_of_lt (Nat.lt_succ_of_lt (Nat.lt_succ_of_lt (l1 p hp)))
  intro h₅ oS' F₅ N₅ dS'
  (try dsimp only at N₅)
  clear N₄ F₄ N' F' N F
  (repeat' (first | (k_unfold; (try dsimp only)) | (((fail_if_success (with_reducible first | show LCg.CompSrc _ _ _ _ _ _ _ _ _ _ _ _ _ _ | show wpAny _ _ (exec (Stmt.While _ _ _ _) _) _ _ _ | show wpAny _ _ (call (Value.ref _) _ _) _ _ _ | show wpAny _ _ (exec (Stmt.For _ _ _ _ _) _) _ _ _ | show wpAny _ _ (call (Value.builtin "list.append") _ _) _ _ _ | show wpAny _ _ (eval (Expr.ListComp _ _ _ _) _) _ _ _ | show wpAny _ _ (subscriptTail _ _ (Value.str _ _) _) _ _ _ | show wpAny _ _ (binaryOp Operator.Add (Value.str _ _) (Value.str _ _)) _ _ _ | show wpAny _ _ (call (Value.builtin "sorted") _ _) _ _ _ | show wpAny _ _ (exec (Stmt.Assign _ (Expr.ListComp _ _ _ _) _) _) _ _ _ | show wpAny _ _ (call (Value.type "range") [_] _) _ _ _ | show wpAny _ _ (call (Value.type "bytes") _ _) _ _ _ | show wpAny _ _ (storeName _ _ (Value.ref _)) _ _ _ | show wpAny _ _ (subscriptTail _ _ (Value.bytes _ _) _) _ _ _ | show wpAny _ _ (subscriptTail _ _ (Value.ref _) _) _ _ _ | show wpAny _ _ (binaryOp _ (Value.ref _) (Value.ref _)) _ _ _ | show wpAny _ _ (compareOp _ (Value.ref _) (Value.ref _)) _ _ _ | show wpAny _ _ (compareOp _ (Value.bytes _ _) (Value.bytes _ _)) _ _ _))); walk1; (try dsimp only))))
  refine len_list (N₅.isList (.tail _ (.tail _ (.tail _ (.head _))))) (by rw [List.size_toArray]; omega) ?_
  (repeat' (first | (k_unfold; (try dsimp only)) | (((fail_if_success (with_reducible first | show LCg.CompSrc _ _ _ _ _ _ _ _ _ _ _ _ _ _ | show wpAny _ _ (exec (Stmt.While _ _ _ _) _) _ _ _ | show wpAny _ _ (call (Value.ref _) _ _) _ _ _ | show wpAny _ _ (exec (Stmt.For _ _ _ _ _) _) _ _ _ | show wpAny _ _ (call (Value.builtin "list.append") _ _) _ _ _ | show wpAny _ _ (eval (Expr.ListComp _ _ _ _) _) _ _ _ | show wpAny _ _ (subscriptTail _ _ (Value.str _ _) _) _ _ _ | show wpAny _ _ (binaryOp Operator.Add (Value.str _ _) (Value.str _ _)) _ _ _ | show wpAny _ _ (call (Value.builtin "sorted") _ _) _ _ _ | show wpAny _ _ (exec (Stmt.Assign _ (Expr.ListComp _ _ _ _) _) _) _ _ _ | show wpAny _ _ (call (Value.type "range") [_] _) _ _ _ | show wpAny _ _ (call (Value.type "bytes") _ _) _ _ _ | show wpAny _ _ (storeName _ _ (Value.ref _)) _ _ _ | show wpAny _ _ (subscriptTail _ _ (Value.bytes _ _) _) _ _ _ | show wpAny _ _ (subscriptTail _ _ (Value.ref _) _) _ _ _ | show wpAny _ _ (binaryOp _ (Value.ref _) (Value.ref _)) _ _ _ | show wpAny _ _ (compareOp _ (Value.ref _) (Value.ref _)) _ _ _ | show wpAny _ _ (compareOp _ (Value.bytes _ _) (Value.bytes _ _)) _ _ _))); walk1; (try dsimp only))))
  refine range_news F₅ N₅ fun h₆ r tk₆ r1 r2 r3 F₆ N₆ hr6 => ?_
  clear F₅ N₅
  (try dsimp only)
  walk1
  (try dsimp only)
  (repeat' (first | (k_unfold; (try dsimp only)) | (((fail_if_success (with_reducible first | show LCg.CompSrc _ _ _ _ _ _ _ _ _ _ _ _ _ _ | show wpAny _ _ (exec (Stmt.While _ _ _ _) _) _ _ _ | show wpAny _ _ (call (Value.ref _) _ _) _ _ _ | show wpAny _ _ (exec (Stmt.For _ _ _ _ _) _) _ _ _ | show wpAny _ _ (call (Value.builtin "list.append") _ _) _ _ _ | show wpAny _ _ (eval (Expr.ListComp _ _ _ _) _) _ _ _ | show wpAny _ _ (subscriptTail _ _ (Value.str _ _) _) _ _ _ | show wpAny _ _ (binaryOp Operator.Add (Value.str _ _) (Value.str _ _)) _ _ _ | show wpAny _ _ (call (Value.builtin "sorted") _ _) _ _ _ | show wpAny _ _ (exec (Stmt.Assign _ (Expr.ListComp _ _ _ _) _) _) _ _ _ | show wpAny _ _ (call (Value.type "range") [_] _) _ _ _ | show wpAny _ _ (call (Value.type "bytes") _ _) _ _ _ | show wpAny _ _ (storeName _ _ (Value.ref _)) _ _ _ | show wpAny _ _ (subscriptTail _ _ (Value.bytes _ _) _) _ _ _ | show wpAny _ _ (subscriptTail _ _ (Value.ref _) _) _ _ _ | show wpAny _ _ (binaryOp _ (Value.ref _) (Value.ref _)) _ _ _ | show wpAny _ _ (compareOp _ (Value.ref _) (Value.ref _)) _ _ _ | show wpAny _ _ (compareOp _ (Value.bytes _ _) (Value.bytes _ _)) _ _ _))); walk1; (try dsimp only))))
  rename Fr g' L' _ _ => F₇
  rename News g' L' _ _ => N₇
  have hvl : vs.toArray.size = vs.length := List.size_toArray ..
  have hyl' : ys.length = vs.length := hyl.trans hvl
  clear off hr6
  refine comp_listA F₇ rfl (by rfl) (by with_unfolding_all rfl) (by decide) (by rfl) (by decide) (by rfl) (by rfl) ?_
  (repeat' (first | (k_unfold; (try dsimp only)) | (((fail_if_success (with_reducible first | show LCg.CompSrc _ _ _ _ _ _ _ _ _ _ _ _ _ _ | show wpAny _ _ (exec (Stmt.While _ _ _ _) _) _ _ _ | show wpAny _ _ (call (Value.ref _) _ _) _ _ _ | show wpAny _ _ (exec (Stmt.For _ _ _ _ _) _) _ _ _ | show wpAny _ _ (call (Value.builtin "list.append") _ _) _ _ _ | show wpAny _ _ (eval (Expr.ListComp _ _ _ _) _) _ _ _ | show wpAny _ _ (subscriptTail _ _ (Value.str _ _) _) _ _ _ | show wpAny _ _ (binaryOp Operator.Add (Value.str _ _) (Value.str _ _)) _ _ _ | show wpAny _ _ (call (Value.builtin "sorted") _ _) _ _ _ | show wpAny _ _ (exec (Stmt.Assign _ (Expr.ListComp _ _ _ _) _) _) _ _ _ | show wpAny _ _ (call (Value.type "range") [_] _) _ _ _ | show wpAny _ _ (call (Value.type "bytes") _ _) _ _ _ | show wpAny _ _ (storeName _ _ (Value.ref _)) _ _ _ | show wpAny _ _ (subscriptTail _ _ (Value.bytes _ _) _) _ _ _ | show wpAny _ _ (subscriptTail _ _ (Value.ref _) _) _ _ _ | show wpAny _ _ (binaryOp _ (Value.ref _) (Value.ref _)) _ _ _ | show wpAny _ _ (compareOp _ (Value.ref _) (Value.ref _)) _ _ _ | show wpAny _ _ (compareOp _ (Value.bytes _ _) (Value.bytes _ _)) _ _ _))); walk1; (try dsimp only))))
  refine comp_range F₇ (by with_unfolding_all rfl) (by decide) (by rfl) (by decide) (by rfl) ?_
  (repeat' (first | (k_unfold; (try dsimp only)) | (((fail_if_success (with_reducible first | show LCg.CompSrc _ _ _ _ _ _ _ _ _ _ _ _ _ _ | show wpAny _ _ (exec (Stmt.While _ _ _ _) _) _ _ _ | show wpAny _ _ (call (Value.ref _) _ _) _ _ _ | show wpAny _ _ (exec (Stmt.For _ _ _ _ _) _) _ _ _ | show wpAny _ _ (call (Value.builtin "list.append") _ _) _ _ _ | show wpAny _ _ (eval (Expr.ListComp _ _ _ _) _) _ _ _ | show wpAny _ _ (subscriptTail _ _ (Value.str _ _) _) _ _ _ | show wpAny _ _ (binaryOp Operator.Add (Value.str _ _) (Value.str _ _)) _ _ _ | show wpAny _ _ (call (Value.builtin "sorted") _ _) _ _ _ | show wpAny _ _ (exec (Stmt.Assign _ (Expr.ListComp _ _ _ _) _) _) _ _ _ | show wpAny _ _ (call (Value.type "range") [_] _) _ _ _ | show wpAny _ _ (call (Value.type "bytes") _ _) _ _ _ | show wpAny _ _ (storeName _ _ (Value.ref _)) _ _ _ | show wpAny _ _ (subscriptTail _ _ (Value.bytes _ _) _) _ _ _ | show wpAny _ _ (subscriptTail _ _ (Value.ref _) _) _ _ _ | show wpAny _ _ (binaryOp _ (Value.ref _) (Value.ref _)) _ _ _ | show wpAny _ _ (compareOp _ (Value.ref _) (Value.ref _)) _ _ _ | show wpAny _ _ (compareOp _ (Value.bytes _ _) (Value.bytes _ _)) _ _ _))); walk1; (try dsimp only))))
  refine ⟨_, _, _, _, _, _, _, vs.length, _, rfl, by exact hh, F₇, N₇, (N₇ _ (.head _)).1, ?_, ?_, by rw [sizeLine_eq]; omega,
    fun i zs news' => ∃ tp, news' = tp ++ (r, rgO 0 (vs.toArray.size : Int) 1 r1 r2 r3) :: (D, LCg.lst ys) :: (L' + 1 + 1, oS') :: (L' + 1, oM) :: (a, W.listOf vs.toArray no) :: news ∧ tp.length = i ∧ zs = tp.map (fun p => Value.ref p.1) ∧ T3 mds tp, ⟨[], rfl, rfl, rfl, fun j p h => nomatch h⟩, ?_, ?_⟩
  · rw [hvl]; exact small_one (by decide) (by decide) (by omega) (by omega)
  · rw [hvl]; exact rangeSize_nat _ _
  · rintro i ti zs news' I oI C oC D3 m₂ g₈ h₈ tk₈ E' hi ⟨tp, rfl, htl, hzs, hT⟩ hm hoC F₈ N₈ off hne
    have e0 : (0 : Int) + ((i : Nat) : Int) * 1 = ((i : Nat) : Int) := by omega
    rw [e0] at hm
    obtain ⟨tl, htl'⟩ : ∃ tl, tl = (I, oI) :: (D3, LCg.lst zs) :: (tp ++ (r, rgO 0 (vs.toArray.size : Int) 1 r1 r2 r3) :: (D, LCg.lst ys) :: (L' + 1 + 1, oS') :: news) := ⟨_, rfl⟩
    replace N₈ : News g' L' h₈ ((C, oC) :: (L' + 1, oM) :: (a, W.listOf vs.toArray no) :: tl) := PyProof.Rows.News.perm N₈ (by subst htl'; intro p hp; simp only [List.mem_cons, List.mem_append] at hp ⊢; revert hp; repeat' (first | exact (fun h => h) | refine (fun h => Or.elim h ?_ ?_) | (intro hp; repeat (first | exact hp | exact Or.inl hp | exact Or.inl (Or.inl hp) | exact Or.inl (Or.inr hp) | apply Or.inr))))
    obtain ⟨v, hv⟩ : ∃ v, vs[i]? = some v := ⟨vs[i], List.getElem?_eq_getElem hi⟩
    obtain ⟨tv, rfl⟩ := PyProof.Rows.IntsAre.int_at hI i v hv
    (repeat' (first | (k_unfold; (try dsimp only)) | (((fail_if_success (with_reducible first | show LCg.CompSrc _ _ _ _ _ _ _ _ _ _ _ _ _ _ | show wpAny _ _ (exec (Stmt.While _ _ _ _) _) _ _ _ | show wpAny _ _ (call (Value.ref _) _ _) _ _ _ | show wpAny _ _ (exec (Stmt.For _ _ _ _ _) _) _ _ _ | show wpAny _ _ (call (Value.builtin "list.append") _ _) _ _ _ | show wpAny _ _ (eval (Expr.ListComp _ _ _ _) _) _ _ _ | show wpAny _ _ (subscriptTail _ _ (Value.str _ _) _) _ _ _ | show wpAny _ _ (binaryOp Operator.Add (Value.str _ _) (Value.str _ _)) _ _ _ | show wpAny _ _ (call (Value.builtin "sorted") _ _) _ _ _ | show wpAny _ _ (exec (Stmt.Assign _ (Expr.ListComp _ _ _ _) _) _) _ _ _ | show wpAny _ _ (call (Value.type "range") [_] _) _ _ _ | show wpAny _ _ (call (Value.type "bytes") _ _) _ _ _ | show wpAny _ _ (storeName _ _ (Value.ref _)) _ _ _ | show wpAny _ _ (subscriptTail _ _ (Value.bytes _ _) _) _ _ _ | show wpAny _ _ (subscriptTail _ _ (Value.ref _) _) _ _ _ | show wpAny _ _ (binaryOp _ (Value.ref _) (Value.ref _)) _ _ _ | show wpAny _ _ (compareOp _ (Value.ref _) (Value.ref _)) _ _ _ | show wpAny _ _ (compareOp _ (Value.bytes _ _) (Value.bytes _ _)) _ _ _))); walk1; (try dsimp only))))
    refine item_list (i := i) (N₈.isList (.tail _ (.tail _ (.head _)))) rfl hv (by omega) ?_
    (repeat' (first | (k_unfold; (try dsimp only)) | (((fail_if_success (with_reducible first | show LCg.CompSrc _ _ _ _ _ _ _ _ _ _ _ _ _ _ | show wpAny _ _ (exec (Stmt.While _ _ _ _) _) _ _ _ | show wpAny _ _ (call (Value.ref _) _ _) _ _ _ | show wpAny _ _ (exec (Stmt.For _ _ _ _ _) _) _ _ _ | show wpAny _ _ (call (Value.builtin "list.append") _ _) _ _ _ | show wpAny _ _ (eval (Expr.ListComp _ _ _ _) _) _ _ _ | show wpAny _ _ (subscriptTail _ _ (Value.str _ _) _) _ _ _ | show wpAny _ _ (binaryOp Operator.Add (Value.str _ _) (Value.str _ _)) _ _ _ | show wpAny _ _ (call (Value.builtin "sorted") _ _) _ _ _ | show wpAny _ _ (exec (Stmt.Assign _ (Expr.ListComp _ _ _ _) _) _) _ _ _ | show wpAny _ _ (call (Value.type "range") [_] _) _ _ _ | show wpAny _ _ (call (Value.type "bytes") _ _) _ _ _ | show wpAny _ _ (storeName _ _ (Value.ref _)) _ _ _ | show wpAny _ _ (subscriptTail _ _ (Value.bytes _ _) _) _ _ _ | show wpAny _ _ (subscriptTail _ _ (Value.ref _) _) _ _ _ | show wpAny _ _ (binaryOp _ (Value.ref _) (Value.ref _)) _ _ _ | show wpAny _ _ (compareOp _ (Value.ref _) (Value.ref _)) _ _ _ | show wpAny _ _ (compareOp _ (Value.bytes _ _) (Value.bytes _ _)) _ _ _))); walk1; (try dsimp only))))
    refine item_list (i := i) (N₈.isList (.tail _ (.tail _ (.head _)))) rfl hv (by omega) ?_
    (repeat' (first | (k_unfold; (try dsimp only)) | (((fail_if_success (with_reducible first | show LCg.CompSrc _ _ _ _ _ _ _ _ _ _ _ _ _ _ | show wpAny _ _ (exec (Stmt.While _ _ _ _) _) _ _ _ | show wpAny _ _ (call (Value.ref _) _ _) _ _ _ | show wpAny _ _ (exec (Stmt.For _ _ _ _ _) _) _ _ _ | show wpAny _ _ (call (Value.builtin "list.append") _ _) _ _ _ | show wpAny _ _ (eval (Expr.ListComp _ _ _ _) _) _ _ _ | show wpAny _ _ (subscriptTail _ _ (Value.str _ _) _) _ _ _ | show wpAny _ _ (binaryOp Operator.Add (Value.str _ _) (Value.str _ _)) _ _ _ | show wpAny _ _ (call (Value.builtin "sorted") _ _) _ _ _ | show wpAny _ _ (exec (Stmt.Assign _ (Expr.ListComp _ _ _ _) _) _) _ _ _ | show wpAny _ _ (call (Value.type "range") [_] _) _ _ _ | show wpAny _ _ (call (Value.type "bytes") _ _) _ _ _ | show wpAny _ _ (storeName _ _ (Value.ref _)) _ _ _ | show wpAny _ _ (subscriptTail _ _ (Value.bytes _ _) _) _ _ _ | show wpAny _ _ (subscriptTail _ _ (Value.ref _) _) _ _ _ | show wpAny _ _ (binaryOp _ (Value.ref _) (Value.ref _)) _ _ _ | show wpAny _ _ (compareOp _ (Value.ref _) (Value.ref _)) _ _ _ | show wpAny _ _ (compareOp _ (Value.bytes _ _) (Value.bytes _ _)) _ _ _))); walk1; (try dsimp only))))
    rename Fr g' L' _ _ => F₉
    rename News g' L' _ _ => N₉
    rename_i T₉ hh₉ l₉
    have hD := allLt_mem l₉.2.2.2
    subst htl
    obtain ⟨o₉, hT₉, N₉⟩ : ∃ o₉, T3 mds (tp ++ [(T₉, o₉)]) ∧ News g' L' hh₉ ((T₉, o₉) :: (C, oC) :: (L' + 1, oM) :: (a, W.listOf vs.toArray no) :: tl) := ⟨_, T3.snoc hT, N₉⟩
    refine ⟨_, _, (tp ++ [(T₉, o₉)]) ++ (r, rgO 0 (vs.toArray.size : Int) 1 r1 r2 r3) :: (D, LCg.lst ys) :: (L' + 1 + 1, oS') :: (L' + 1, oM) :: (a, W.listOf vs.toArray no) :: news, rfl, F₉, PyProof.Rows.News.perm N₉ ?_, PyProof.Rows.LCg.Off3.of ?_, trivial, tp ++ [(T₉, o₉)], rfl, by simp, by simp [hzs], hT₉⟩
    · intro p hp
      subst htl'
      simp only [List.mem_cons, List.mem_append, List.not_mem_nil, or_false] at hp ⊢
      revert hp; repeat' (first | exact (fun h => h) | refine (fun h => Or.elim h ?_ ?_) | (intro hp; repeat (first | exact hp | exact Or.inl hp | exact Or.inl (Or.inl hp) | exact Or.inl (Or.inr hp) | apply Or.inr)))
    · have om := off.mem
      intro p hp
      rcases List.mem_append.mp hp with hp | hp
      · rcases List.mem_append.mp hp with hp | hp
        · exact om p (List.mem_append_left _ hp)
        · rw [List.mem_singleton.mp hp]
          exact ⟨Nat.ne_of_gt (hD (I, oI) (by subst htl'; simp)), Nat.ne_of_gt l₉.1, Nat.ne_of_gt (hD (D3, LCg.lst zs) (by subst htl'; simp))⟩
      · exact om p (List.mem_append_right _ hp)
  rintro zs news' ⟨tp, rfl, htl, rfl, hT⟩ D3 h₈ tk₈ F₈ N₈ off3
  obtain ⟨bs, hbs⟩ : ∃ bs, bs = tp ++ (r, rgO 0 (vs.toArray.size : Int) 1 r1 r2 r3) :: (D, LCg.lst ys) :: (L' + 1 + 1, oS') :: (L' + 1, oM) :: (a, W.listOf vs.toArray no) :: news := ⟨_, rfl⟩
  rw [← hbs] at N₈ off3
  (repeat' (first | (k_unfold; (try dsimp only)) | (((fail_if_success (with_reducible first | show LCg.CompSrc _ _ _ _ _ _ _ _ _ _ _ _ _ _ | show wpAny _ _ (exec (Stmt.While _ _ _ _) _) _ _ _ | show wpAny _ _ (call (Value.ref _) _ _) _ _ _ | show wpAny _ _ (exec (Stmt.For _ _ _ _ _) _) _ _ _ | show wpAny _ _ (call (Value.builtin "list.append") _ _) _ _ _ | show wpAny _ _ (eval (Expr.ListComp _ _ _ _) _) _ _ _ | show wpAny _ _ (subscriptTail _ _ (Value.str _ _) _) _ _ _ | show wpAny _ _ (binaryOp Operator.Add (Value.str _ _) (Value.str _ _)) _ _ _ | show wpAny _ _ (call (Value.builtin "sorted") _ _) _ _ _ | show wpAny _ _ (exec (Stmt.Assign _ (Expr.ListComp _ _ _ _) _) _) _ _ _ | show wpAny _ _ (call (Value.type "range") [_] _) _ _ _ | show wpAny _ _ (call (Value.type "bytes") _ _) _ _ _ | show wpAny _ _ (storeName _ _ (Value.ref _)) _ _ _ | show wpAny _ _ (subscriptTail _ _ (Value.bytes _ _) _) _ _ _ | show wpAny _ _ (subscriptTail _ _ (Value.ref _) _) _ _ _ | show wpAny _ _ (binaryOp _ (Value.ref _) (Value.ref _)) _ _ _ | show wpAny _ _ (compareOp _ (Value.ref _) (Value.ref _)) _ _ _ | show wpAny _ _ (compareOp _ (Value.bytes _ _) (Value.bytes _ _)) _ _ _))); walk1; (try dsimp only))))
  refine sorted_tups (tp := tp) (fs := tp.map fun p => firstO p.2) (T := .type "int") (lt := lt1 mds) F₈ N₈ (N₈.isList (.head _)) (by omega) (by omega) (fun p hp => .tail _ (by subst hbs; exact List.mem_append_left _ hp)) (by rw [htl]; exact O1) (by simp) ?_ ?_ (by decide) (by decide) ?_ ?_
  · intro i p f h1 h2
    rw [List.getElem?_map, h1] at h2
    simp only [Option.map_some, Option.some.injEq] at h2
    obtain ⟨t1, t2, t3, k, e⟩ := hT i p h1
    exact ⟨_, k, by rw [← h2, e]; rfl⟩
  · intro v hv
    obtain ⟨p, hp, rfl⟩ := List.mem_map.mp hv
    obtain ⟨i, hi, e⟩ := List.getElem_of_mem hp
    obtain ⟨t1, t2, t3, k, e'⟩ := hT i p (by rw [← e]; exact List.getElem?_eq_getElem hi)
    rw [e']; rfl
  · intro A' i j p q s' Q' E' hp hq hgp hgq hq'
    obtain ⟨t1, t2, t3, k, e1⟩ := hT i p hp
    obtain ⟨u1, u2, u3, k', e2⟩ := hT j q hq
    rw [e1] at hgp; rw [e2] at hgq
    exact keylt3 hgp hgq hq'
  intro D4 h₉ p1 c P Asc' F₉ N₉ hD4
  rw [htl] at P Asc'
  clear N₈ F₈ N₇ F₇
  refine ⟨D4, (p1.toList.map fun i => (tp.map fun p => Value.ref p.1).getD i Value.none).toArray, _, rfl, by exact hh, F₉, N₉, ?_, (· = _), _, ?_, rfl, fun I => go_tup3 (Z := fun i z => ∃ t : Tok, z = Value.int ((p1.getD i 0 : Nat) : Int) t) (by exact hh) rfl rfl rfl rfl ?_, fun i zs nw => nw = _ ∧ zs.length = i ∧ PlAre zs p1, ⟨rfl, rfl, fun j v h => nomatch h⟩, ?_, ?_⟩
  · rw [List.size_toArray, List.length_map, Array.length_toList, P.size, sizeLine_eq]; omega
  · rintro nw rfl
    exact .inr ⟨_, .head _, rfl, c, rfl⟩
  · rintro nw i v rfl hi hv
    obtain ⟨q, hq, rfl⟩ := pick_item P htl hv
    obtain ⟨t1, t2, t3, k, e⟩ := hT _ q hq
    exact ⟨q.1, q.2, _, _, _, k, rfl, .tail _ (.tail _ (by subst hbs; exact List.mem_append_left _ (List.mem_of_getElem? hq))), by rw [e], by rw [e], t3, rfl⟩
  · rintro i v zs nw I oI C oC D5 m₂ g₁ h₁ tk₁ E' hv ⟨rfl, hzl, hP⟩ _ ⟨z, ⟨tz, rfl⟩, hmz⟩ hoC F₁ N₁ off₁ hne₁
    (repeat' (first | (k_unfold; (try dsimp only)) | (((fail_if_success (with_reducible first | show LCg.CompSrc _ _ _ _ _ _ _ _ _ _ _ _ _ _ | show wpAny _ _ (exec (Stmt.While _ _ _ _) _) _ _ _ | show wpAny _ _ (call (Value.ref _) _ _) _ _ _ | show wpAny _ _ (exec (Stmt.For _ _ _ _ _) _) _ _ _ | show wpAny _ _ (call (Value.builtin "list.append") _ _) _ _ _ | show wpAny _ _ (eval (Expr.ListComp _ _ _ _) _) _ _ _ | show wpAny _ _ (subscriptTail _ _ (Value.str _ _) _) _ _ _ | show wpAny _ _ (binaryOp Operator.Add (Value.str _ _) (Value.str _ _)) _ _ _ | show wpAny _ _ (call (Value.builtin "sorted") _ _) _ _ _ | show wpAny _ _ (exec (Stmt.Assign _ (Expr.ListComp _ _ _ _) _) _) _ _ _ | show wpAny _ _ (call (Value.type "range") [_] _) _ _ _ | show wpAny _ _ (call (Value.type "bytes") _ _) _ _ _ | show wpAny _ _ (storeName _ _ (Value.ref _)) _ _ _ | show wpAny _ _ (subscriptTail _ _ (Value.bytes _ _) _) _ _ _ | show wpAny _ _ (subscriptTail _ _ (Value.ref _) _) _ _ _ | show wpAny _ _ (binaryOp _ (Value.ref _) (Value.ref _)) _ _ _ | show wpAny _ _ (compareOp _ (Value.ref _) (Value.ref _)) _ _ _ | show wpAny _ _ (compareOp _ (Value.bytes _ _) (Value.bytes _ _)) _ _ _))); walk1; (try dsimp only))))
    subst hzl
    exact ⟨_, _, _, rfl, F₁, N₁, off₁, rfl, rfl, by simp, hP.snoc⟩
  rintro y1 nw ⟨rfl, hzl, hP⟩ A1 h₁ tk₁ F₇ N₇ offA
  have hip1 : IntsAre y1 ((Array.toList p1).map fun (j : Nat) => (j : Int)) := hP.ints (by rw [hzl, List.size_toArray, List.length_map, Array.length_toList])
  have hpp1 := P
  have hsp1 := Asc'
  replace N₇ : News g' L' h₁ ((A1, LCg.lst y1) :: (r, rgO 0 (vs.toArray.size : Int) 1 r1 r2 r3) :: (D, LCg.lst ys) :: (L' + 1 + 1, oS') :: (L' + 1, oM) :: (a, W.listOf vs.toArray no) :: news) := PyProof.Rows.News.perm N₇ (by subst hbs; intro p hp; simp only [List.mem_cons, List.mem_append] at hp ⊢; revert hp; repeat' (first | exact (fun h => h) | refine (fun h => Or.elim h ?_ ?_) | (intro hp; repeat (first | exact hp | exact Or.inl hp | exact Or.inl (Or.inl hp) | exact Or.inl (Or.inr hp) | apply Or.inr))))
  clear hP hzl offA N₉ F₉ hD4 P Asc' hbs off3 hT
  dsimp only at F₇ N₇ ⊢
  (repeat' (first | (k_unfold; (try dsimp only)) | (((fail_if_success (with_reducible first | show LCg.CompSrc _ _ _ _ _ _ _ _ _ _ _ _ _ _ | show wpAny _ _ (exec (Stmt.While _ _ _ _) _) _ _ _ | show wpAny _ _ (call (Value.ref _) _ _) _ _ _ | show wpAny _ _ (exec (Stmt.For _ _ _ _ _) _) _ _ _ | show wpAny _ _ (call (Value.builtin "list.append") _ _) _ _ _ | show wpAny _ _ (eval (Expr.ListComp _ _ _ _) _) _ _ _ | show wpAny _ _ (subscriptTail _ _ (Value.str _ _) _) _ _ _ | show wpAny _ _ (binaryOp Operator.Add (Value.str _ _) (Value.str _ _)) _ _ _ | show wpAny _ _ (call (Value.builtin "sorted") _ _) _ _ _ | show wpAny _ _ (exec (Stmt.Assign _ (Expr.ListComp _ _ _ _) _) _) _ _ _ | show wpAny _ _ (call (Value.type "range") [_] _) _ _ _ | show wpAny _ _ (call (Value.type "bytes") _ _) _ _ _ | show wpAny _ _ (storeName _ _ (Value.ref _)) _ _ _ | show wpAny _ _ (subscriptTail _ _ (Value.bytes _ _) _) _ _ _ | show wpAny _ _ (subscriptTail _ _ (Value.ref _) _) _ _ _ | show wpAny _ _ (binaryOp _ (Value.ref _) (Value.ref _)) _ _ _ | show wpAny _ _ (compareOp _ (Value.ref _) (Value.ref _)) _ _ _ | show wpAny _ _ (compareOp _ (Value.bytes _ _) (Value.bytes _ _)) _ _ _))); walk1; (try dsimp only))))
  refine comp_listA F₇ rfl (by rfl) (by with_unfolding_all rfl) (by decide) (by rfl) (by decide) (by rfl) (by rfl) ?_
  (repeat' (first | (k_unfold; (try dsimp only)) | (((fail_if_success (with_reducible first | show LCg.CompSrc _ _ _ _ _ _ _ _ _ _ _ _ _ _ | show wpAny _ _ (exec (Stmt.While _ _ _ _) _) _ _ _ | show wpAny _ _ (call (Value.ref _) _ _) _ _ _ | show wpAny _ _ (exec (Stmt.For _ _ _ _ _) _) _ _ _ | show wpAny _ _ (call (Value.builtin "list.append") _ _) _ _ _ | show wpAny _ _ (eval (Expr.ListComp _ _ _ _) _) _ _ _ | show wpAny _ _ (subscriptTail _ _ (Value.str _ _) _) _ _ _ | show wpAny _ _ (binaryOp Operator.Add (Value.str _ _) (Value.str _ _)) _ _ _ | show wpAny _ _ (call (Value.builtin "sorted") _ _) _ _ _ | show wpAny _ _ (exec (Stmt.Assign _ (Expr.ListComp _ _ _ _) _) _) _ _ _ | show wpAny _ _ (call (Value.type "range") [_] _) _ _ _ | show wpAny _ _ (call (Value.type "bytes") _ _) _ _ _ | show wpAny _ _ (storeName _ _ (Value.ref _)) _ _ _ | show wpAny _ _ (subscriptTail _ _ (Value.bytes _ _) _) _ _ _ | show wpAny _ _ (subscriptTail _ _ (Value.ref _) _) _ _ _ | show wpAny _ _ (binaryOp _ (Value.ref _) (Value.ref _)) _ _ _ | show wpAny _ _ (compareOp _ (Value.ref _) (Value.ref _)) _ _ _ | show wpAny _ _ (compareOp _ (Value.bytes _ _) (Value.bytes _ _)) _ _ _))); walk1; (try dsimp only))))
  refine comp_range F₇ (by with_unfolding_all rfl) (by decide) (by rfl) (by decide) (by rfl) ?_
  (repeat' (first | (k_unfold; (try dsimp only)) | (((fail_if_success (with_reducible first | show LCg.CompSrc _ _ _ _ _ _ _ _ _ _ _ _ _ _ | show wpAny _ _ (exec (Stmt.While _ _ _ _) _) _ _ _ | show wpAny _ _ (call (Value.ref _) _ _) _ _ _ | show wpAny _ _ (exec (Stmt.For _ _ _ _ _) _) _ _ _ | show wpAny _ _ (call (Value.builtin "list.append") _ _) _ _ _ | show wpAny _ _ (eval (Expr.ListComp _ _ _ _) _) _ _ _ | show wpAny _ _ (subscriptTail _ _ (Value.str _ _) _) _ _ _ | show wpAny _ _ (binaryOp Operator.Add (Value.str _ _) (Value.str _ _)) _ _ _ | show wpAny _ _ (call (Value.builtin "sorted") _ _) _ _ _ | show wpAny _ _ (exec (Stmt.Assign _ (Expr.ListComp _ _ _ _) _) _) _ _ _ | show wpAny _ _ (call (Value.type "range") [_] _) _ _ _ | show wpAny _ _ (call (Value.type "bytes") _ _) _ _ _ | show wpAny _ _ (storeName _ _ (Value.ref _)) _ _ _ | show wpAny _ _ (subscriptTail _ _ (Value.bytes _ _) _) _ _ _ | show wpAny _ _ (subscriptTail _ _ (Value.ref _) _) _ _ _ | show wpAny _ _ (binaryOp _ (Value.ref _) (Value.ref _)) _ _ _ | show wpAny _ _ (compareOp _ (Value.ref _) (Value.ref _)) _ _ _ | show wpAny _ _ (compareOp _ (Value.bytes _ _) (Value.bytes _ _)) _ _ _))); walk1; (try dsimp only))))
  refine ⟨_, _, _, _, _, _, _, vs.length, _, rfl, by exact hh, F₇, N₇, (N₇ _ (.tail _ (.head _))).1, ?_, ?_, by rw [sizeLine_eq]; omega,
    fun i zs news' => ∃ tp, news' = tp ++ (A1, LCg.lst y1) :: (r, rgO 0 (vs.toArray.size : Int) 1 r1 r2 r3) :: (D, LCg.lst ys) :: (L' + 1 + 1, oS') :: (L' + 1, oM) :: (a, W.listOf vs.toArray no) :: news ∧ tp.length = i ∧ zs = tp.map (fun p => Value.ref p.1) ∧ T2 (fun j f => ∃ t : Tok, f = Value.int (mds.getD j 0) t) tp, ⟨[], rfl, rfl, rfl, fun j p h => nomatch h⟩, ?_, ?_⟩
  · rw [hvl]; exact small_one (by decide) (by decide) (by omega) (by omega)
  · rw [hvl]; exact rangeSize_nat _ _
  · rintro i ti zs news' I oI C oC D3 m₂ g₈ h₈ tk₈ E' hi ⟨tp, rfl, htl, hzs, hT⟩ hm hoC F₈ N₈ off hne
    have e0 : (0 : Int) + ((i : Nat) : Int) * 1 = ((i : Nat) : Int) := by omega
    rw [e0] at hm
    obtain ⟨tl, htl'⟩ : ∃ tl, tl = (I, oI) :: (D3, LCg.lst zs) :: (tp ++ (A1, LCg.lst y1) :: (r, rgO 0 (vs.toArray.size : Int) 1 r1 r2 r3) :: (D, LCg.lst ys) :: (L' + 1 + 1, oS') :: news) := ⟨_, rfl⟩
    replace N₈ : News g' L' h₈ ((C, oC) :: (L' + 1, oM) :: (a, W.listOf vs.toArray no) :: tl) := PyProof.Rows.News.perm N₈ (by subst htl'; intro p hp; simp only [List.mem_cons, List.mem_append] at hp ⊢; revert hp; repeat' (first | exact (fun h => h) | refine (fun h => Or.elim h ?_ ?_) | (intro hp; repeat (first | exact hp | exact Or.inl hp | exact Or.inl (Or.inl hp) | exact Or.inl (Or.inr hp) | apply Or.inr))))
    obtain ⟨v, hv⟩ : ∃ v, vs[i]? = some v := ⟨vs[i], List.getElem?_eq_getElem hi⟩
    obtain ⟨tv, rfl⟩ := PyProof.Rows.IntsAre.int_at hI i v hv
    (repeat' (first | (k_unfold; (try dsimp only)) | (((fail_if_success (with_reducible first | show LCg.CompSrc _ _ _ _ _ _ _ _ _ _ _ _ _ _ | show wpAny _ _ (exec (Stmt.While _ _ _ _) _) _ _ _ | show wpAny _ _ (call (Value.ref _) _ _) _ _ _ | show wpAny _ _ (exec (Stmt.For _ _ _ _ _) _) _ _ _ | show wpAny _ _ (call (Value.builtin "list.append") _ _) _ _ _ | show wpAny _ _ (eval (Expr.ListComp _ _ _ _) _) _ _ _ | show wpAny _ _ (subscriptTail _ _ (Value.str _ _) _) _ _ _ | show wpAny _ _ (binaryOp Operator.Add (Value.str _ _) (Value.str _ _)) _ _ _ | show wpAny _ _ (call (Value.builtin "sorted") _ _) _ _ _ | show wpAny _ _ (exec (Stmt.Assign _ (Expr.ListComp _ _ _ _) _) _) _ _ _ | show wpAny _ _ (call (Value.type "range") [_] _) _ _ _ | show wpAny _ _ (call (Value.type "bytes") _ _) _ _ _ | show wpAny _ _ (storeName _ _ (Value.ref _)) _ _ _ | show wpAny _ _ (subscriptTail _ _ (Value.bytes _ _) _) _ _ _ | show wpAny _ _ (subscriptTail _ _ (Value.ref _) _) _ _ _ | show wpAny _ _ (binaryOp _ (Value.ref _) (Value.ref _)) _ _ _ | show wpAny _ _ (compareOp _ (Value.ref _) (Value.ref _)) _ _ _ | show wpAny _ _ (compareOp _ (Value.bytes _ _) (Value.bytes _ _)) _ _ _))); walk1; (try dsimp only))))
    refine item_list (i := i) (N₈.isList (.tail _ (.tail _ (.head _)))) rfl hv (by omega) ?_
    (repeat' (first | (k_unfold; (try dsimp only)) | (((fail_if_success (with_reducible first | show LCg.CompSrc _ _ _ _ _ _ _ _ _ _ _ _ _ _ | show wpAny _ _ (exec (Stmt.While _ _ _ _) _) _ _ _ | show wpAny _ _ (call (Value.ref _) _ _) _ _ _ | show wpAny _ _ (exec (Stmt.For _ _ _ _ _) _) _ _ _ | show wpAny _ _ (call (Value.builtin "list.append") _ _) _ _ _ | show wpAny _ _ (eval (Expr.ListComp _ _ _ _) _) _ _ _ | show wpAny _ _ (subscriptTail _ _ (Value.str _ _) _) _ _ _ | show wpAny _ _ (binaryOp Operator.Add (Value.str _ _) (Value.str _ _)) _ _ _ | show wpAny _ _ (call (Value.builtin "sorted") _ _) _ _ _ | show wpAny _ _ (exec (Stmt.Assign _ (Expr.ListComp _ _ _ _) _) _) _ _ _ | show wpAny _ _ (call (Value.type "range") [_] _) _ _ _ | show wpAny _ _ (call (Value.type "bytes") _ _) _ _ _ | show wpAny _ _ (storeName _ _ (Value.ref _)) _ _ _ | show wpAny _ _ (subscriptTail _ _ (Value.bytes _ _) _) _ _ _ | show wpAny _ _ (subscriptTail _ _ (Value.ref _) _) _ _ _ | show wpAny _ _ (binaryOp _ (Value.ref _) (Value.ref _)) _ _ _ | show wpAny _ _ (compareOp _ (Value.ref _) (Value.ref _)) _ _ _ | show wpAny _ _ (compareOp _ (Value.bytes _ _) (Value.bytes _ _)) _ _ _))); walk1; (try dsimp only))))
    rename Fr g' L' _ _ => F₉
    rename News g' L' _ _ => N₉
    rename_i T₉ hh₉ l₉
    have hD := allLt_mem l₉.2.2.2
    subst htl
    obtain ⟨o₉, hT₉, N₉⟩ : ∃ o₉, T2 (fun j f => ∃ t : Tok, f = Value.int (mds.getD j 0) t) (tp ++ [(T₉, o₉)]) ∧ News g' L' hh₉ ((T₉, o₉) :: (C, oC) :: (L' + 1, oM) :: (a, W.listOf vs.toArray no) :: tl) := ⟨_, T2.snoc hT ⟨_, rfl⟩, N₉⟩
    refine ⟨_, _, (tp ++ [(T₉, o₉)]) ++ (A1, LCg.lst y1) :: (r, rgO 0 (vs.toArray.size : Int) 1 r1 r2 r3) :: (D, LCg.lst ys) :: (L' + 1 + 1, oS') :: (L' + 1, oM) :: (a, W.listOf vs.toArray no) :: news, rfl, F₉, PyProof.Rows.News.perm N₉ ?_, PyProof.Rows.LCg.Off3.of ?_, trivial, tp ++ [(T₉, o₉)], rfl, by simp, by simp [hzs], hT₉⟩
    · intro p hp
      subst htl'
      simp only [List.mem_cons, List.mem_append, List.not_mem_nil, or_false] at hp ⊢
      revert hp; repeat' (first | exact (fun h => h) | refine (fun h => Or.elim h ?_ ?_) | (intro hp; repeat (first | exact hp | exact Or.inl hp | exact Or.inl (Or.inl hp) | exact Or.inl (Or.inr hp) | apply Or.inr)))
    · have om := off.mem
      intro p hp
      rcases List.mem_append.mp hp with hp | hp
      · rcases List.mem_append.mp hp with hp | hp
        · exact om p (List.mem_append_left _ hp)
        · rw [List.mem_singleton.mp hp]
          exact ⟨Nat.ne_of_gt (hD (I, oI) (by subst htl'; simp)), Nat.ne_of_gt l₉.1, Nat.ne_of_gt (hD (D3, LCg.lst zs) (by subst htl'; simp))⟩
      · exact om p (List.mem_append_right _ hp)
  rintro zs news' ⟨tp, rfl, htl, rfl, hT⟩ D3 h₈ tk₈ F₈ N₈ off3
  obtain ⟨bs, hbs⟩ : ∃ bs, bs = tp ++ (A1, LCg.lst y1) :: (r, rgO 0 (vs.toArray.size : Int) 1 r1 r2 r3) :: (D, LCg.lst ys) :: (L' + 1 + 1, oS') :: (L' + 1, oM) :: (a, W.listOf vs.toArray no) :: news := ⟨_, rfl⟩
  rw [← hbs] at N₈ off3
  (repeat' (first | (k_unfold; (try dsimp only)) | (((fail_if_success (with_reducible first | show LCg.CompSrc _ _ _ _ _ _ _ _ _ _ _ _ _ _ | show wpAny _ _ (exec (Stmt.While _ _ _ _) _) _ _ _ | show wpAny _ _ (call (Value.ref _) _ _) _ _ _ | show wpAny _ _ (exec (Stmt.For _ _ _ _ _) _) _ _ _ | show wpAny _ _ (call (Value.builtin "list.append") _ _) _ _ _ | show wpAny _ _ (eval (Expr.ListComp _ _ _ _) _) _ _ _ | show wpAny _ _ (subscriptTail _ _ (Value.str _ _) _) _ _ _ | show wpAny _ _ (binaryOp Operator.Add (Value.str _ _) (Value.str _ _)) _ _ _ | show wpAny _ _ (call (Value.builtin "sorted") _ _) _ _ _ | show wpAny _ _ (exec (Stmt.Assign _ (Expr.ListComp _ _ _ _) _) _) _ _ _ | show wpAny _ _ (call (Value.type "range") [_] _) _ _ _ | show wpAny _ _ (call (Value.type "bytes") _ _) _ _ _ | show wpAny _ _ (storeName _ _ (Value.ref _)) _ _ _ | show wpAny _ _ (subscriptTail _ _ (Value.bytes _ _) _) _ _ _ | show wpAny _ _ (subscriptTail _ _ (Value.ref _) _) _ _ _ | show wpAny _ _ (binaryOp _ (Value.ref _) (Value.ref _)) _ _ _ | show wpAny _ _ (compareOp _ (Value.ref _) (Value.ref _)) _ _ _ | show wpAny _ _ (compareOp _ (Value.bytes _ _) (Value.bytes _ _)) _ _ _))); walk1; (try dsimp only))))
  refine sorted_tups (tp := tp) (fs := tp.map fun p => firstO p.2) (T := .type "int") (lt := lt2 mds) F₈ N₈ (N₈.isList (.head _)) (by omega) (by omega) (fun p hp => .tail _ (by subst hbs; exact List.mem_append_left _ hp)) (by rw [htl]; exact O2) (by simp) ?_ ?_ (by decide) (by decide) ?_ ?_
  · intro i p f h1 h2
    rw [List.getElem?_map, h1] at h2
    simp only [Option.map_some, Option.some.injEq] at h2
    obtain ⟨f', t3, k, ⟨t1, rfl⟩, e⟩ := hT i p h1
    exact ⟨_, k, by rw [← h2, e]; rfl⟩
  · intro v hv
    obtain ⟨p, hp, rfl⟩ := List.mem_map.mp hv
    obtain ⟨i, hi, e⟩ := List.getElem_of_mem hp
    obtain ⟨f', t3, k, ⟨t1, rfl⟩, e'⟩ := hT i p (by rw [← e]; exact List.getElem?_eq_getElem hi)
    rw [e']; rfl
  · intro A' i j p q s' Q' E' hp hq hgp hgq hq'
    obtain ⟨f1, t3, k, ⟨t1, rfl⟩, e1⟩ := hT i p hp
    obtain ⟨f2, u3, k', ⟨u1, rfl⟩, e2⟩ := hT j q hq
    rw [e1] at hgp; rw [e2] at hgq
    exact keylt2 hgp hgq (fun Q E h => wpAny_eqBool_int h) (fun Q E h => oneLt_int h) hq'
  intro D4 h₉ p2 c P Asc' F₉ N₉ hD4
  rw [htl] at P Asc'
  clear N₈ F₈ N₇ F₇
  refine ⟨D4, (p2.toList.map fun i => (tp.map fun p => Value.ref p.1).getD i Value.none).toArray, _, rfl, by exact hh, F₉, N₉, ?_, (· = _), _, ?_, rfl, fun I => go_tup2 (Z := fun i z => ∃ t : Tok, z = Value.int ((p2.getD i 0 : Nat) : Int) t) (by exact hh) rfl rfl rfl ?_, fun i zs nw => nw = _ ∧ zs.length = i ∧ PlAre zs p2, ⟨rfl, rfl, fun j v h => nomatch h⟩, ?_, ?_⟩
  · rw [List.size_toArray, List.length_map, Array.length_toList, P.size, sizeLine_eq]; omega
  · rintro nw rfl
    exact .inr ⟨_, .head _, rfl, c, rfl⟩
  · rintro nw i v rfl hi hv
    obtain ⟨q, hq, rfl⟩ := pick_item P htl hv
    obtain ⟨f', t3, k, hf', e⟩ := hT _ q hq
    exact ⟨q.1, q.2, _, _, k, rfl, .tail _ (.tail _ (by subst hbs; exact List.mem_append_left _ (List.mem_of_getElem? hq))), by rw [e], by rw [e], t3, rfl⟩
  · rintro i v zs nw I oI C oC D5 m₂ g₁ h₁ tk₁ E' hv ⟨rfl, hzl, hP⟩ _ ⟨z, ⟨tz, rfl⟩, hmz⟩ hoC F₁ N₁ off₁ hne₁
    (repeat' (first | (k_unfold; (try dsimp only)) | (((fail_if_success (with_reducible first | show LCg.CompSrc _ _ _ _ _ _ _ _ _ _ _ _ _ _ | show wpAny _ _ (exec (Stmt.While _ _ _ _) _) _ _ _ | show wpAny _ _ (call (Value.ref _) _ _) _ _ _ | show wpAny _ _ (exec (Stmt.For _ _ _ _ _) _) _ _ _ | show wpAny _ _ (call (Value.builtin "list.append") _ _) _ _ _ | show wpAny _ _ (eval (Expr.ListComp _ _ _ _) _) _ _ _ | show wpAny _ _ (subscriptTail _ _ (Value.str _ _) _) _ _ _ | show wpAny _ _ (binaryOp Operator.Add (Value.str _ _) (Value.str _ _)) _ _ _ | show wpAny _ _ (call (Value.builtin "sorted") _ _) _ _ _ | show wpAny _ _ (exec (Stmt.Assign _ (Expr.ListComp _ _ _ _) _) _) _ _ _ | show wpAny _ _ (call (Value.type "range") [_] _) _ _ _ | show wpAny _ _ (call (Value.type "bytes") _ _) _ _ _ | show wpAny _ _ (storeName _ _ (Value.ref _)) _ _ _ | show wpAny _ _ (subscriptTail _ _ (Value.bytes _ _) _) _ _ _ | show wpAny _ _ (subscriptTail _ _ (Value.ref _) _) _ _ _ | show wpAny _ _ (binaryOp _ (Value.ref _) (Value.ref _)) _ _ _ | show wpAny _ _ (compareOp _ (Value.ref _) (Value.ref _)) _ _ _ | show wpAny _ _ (compareOp _ (Value.bytes _ _) (Value.bytes _ _)) _ _ _))); walk1; (try dsimp only))))
    subst hzl
    exact ⟨_, _, _, rfl, F₁, N₁, off₁, rfl, rfl, by simp, hP.snoc⟩
  rintro y2 nw ⟨rfl, hzl, hP⟩ A2 h₁ tk₁ F₇ N₇ offA
  have hip2 : IntsAre y2 ((Array.toList p2).map fun (j : Nat) => (j : Int)) := hP.ints (by rw [hzl, List.size_toArray, List.length_map, Array.length_toList])
  have hpp2 := P
  have hsp2 := Asc'
  replace N₇ : News g' L' h₁ ((A2, LCg.lst y2) :: (A1, LCg.lst y1) :: (r, rgO 0 (vs.toArray.size : Int) 1 r1 r2 r3) :: (D, LCg.lst ys) :: (L' + 1 + 1, oS') :: (L' + 1, oM) :: (a, W.listOf vs.toArray no) :: news) := PyProof.Rows.News.perm N₇ (by subst hbs; intro p hp; simp only [List.mem_cons, List.mem_append] at hp ⊢; revert hp; repeat' (first | exact (fun h => h) | refine (fun h => Or.elim h ?_ ?_) | (intro hp; repeat (first | exact hp | exact Or.inl hp | exact Or.inl (Or.inl hp) | exact Or.inl (Or.inr hp) | apply Or.inr))))
  clear hP hzl offA N₉ F₉ hD4 P Asc' hbs off3 hT
  dsimp only at F₇ N₇ ⊢
  (repeat' (first | (k_unfold; (try dsimp only)) | (((fail_if_success (with_reducible first | show LCg.CompSrc _ _ _ _ _ _ _ _ _ _ _ _ _ _ | show wpAny _ _ (exec (Stmt.While _ _ _ _) _) _ _ _ | show wpAny _ _ (call (Value.ref _) _ _) _ _ _ | show wpAny _ _ (exec (Stmt.For _ _ _ _ _) _) _ _ _ | show wpAny _ _ (call (Value.builtin "list.append") _ _) _ _ _ | show wpAny _ _ (eval (Expr.ListComp _ _ _ _) _) _ _ _ | show wpAny _ _ (subscriptTail _ _ (Value.str _ _) _) _ _ _ | show wpAny _ _ (binaryOp Operator.Add (Value.str _ _) (Value.str _ _)) _ _ _ | show wpAny _ _ (call (Value.builtin "sorted") _ _) _ _ _ | show wpAny _ _ (exec (Stmt.Assign _ (Expr.ListComp _ _ _ _) _) _) _ _ _ | show wpAny _ _ (call (Value.type "range") [_] _) _ _ _ | show wpAny _ _ (call (Value.type "bytes") _ _) _ _ _ | show wpAny _ _ (storeName _ _ (Value.ref _)) _ _ _ | show wpAny _ _ (subscriptTail _ _ (Value.bytes _ _) _) _ _ _ | show wpAny _ _ (subscriptTail _ _ (Value.ref _) _) _ _ _ | show wpAny _ _ (binaryOp _ (Value.ref _) (Value.ref _)) _ _ _ | show wpAny _ _ (compareOp _ (Value.ref _) (Value.ref _)) _ _ _ | show wpAny _ _ (compareOp _ (Value.bytes _ _) (Value.bytes _ _)) _ _ _))); walk1; (try dsimp only))))
  refine comp_list F₇ (by with_unfolding_all rfl) (by decide) (by rfl) (by decide) ?_
  (repeat' (first | (k_unfold; (try dsimp only)) | (((fail_if_success (with_reducible first | show LCg.CompSrc _ _ _ _ _ _ _ _ _ _ _ _ _ _ | show wpAny _ _ (exec (Stmt.While _ _ _ _) _) _ _ _ | show wpAny _ _ (call (Value.ref _) _ _) _ _ _ | show wpAny _ _ (exec (Stmt.For _ _ _ _ _) _) _ _ _ | show wpAny _ _ (call (Value.builtin "list.append") _ _) _ _ _ | show wpAny _ _ (eval (Expr.ListComp _ _ _ _) _) _ _ _ | show wpAny _ _ (subscriptTail _ _ (Value.str _ _) _) _ _ _ | show wpAny _ _ (binaryOp Operator.Add (Value.str _ _) (Value.str _ _)) _ _ _ | show wpAny _ _ (call (Value.builtin "sorted") _ _) _ _ _ | show wpAny _ _ (exec (Stmt.Assign _ (Expr.ListComp _ _ _ _) _) _) _ _ _ | show wpAny _ _ (call (Value.type "range") [_] _) _ _ _ | show wpAny _ _ (call (Value.type "bytes") _ _) _ _ _ | show wpAny _ _ (storeName _ _ (Value.ref _)) _ _ _ | show wpAny _ _ (subscriptTail _ _ (Value.bytes _ _) _) _ _ _ | show wpAny _ _ (subscriptTail _ _ (Value.ref _) _) _ _ _ | show wpAny _ _ (binaryOp _ (Value.ref _) (Value.ref _)) _ _ _ | show wpAny _ _ (compareOp _ (Value.ref _) (Value.ref _)) _ _ _ | show wpAny _ _ (compareOp _ (Value.bytes _ _) (Value.bytes _ _)) _ _ _))); walk1; (try dsimp only))))
  refine comp_range F₇ (by with_unfolding_all rfl) (by decide) (by rfl) (by decide) (by rfl) ?_
  (repeat' (first | (k_unfold; (try dsimp only)) | (((fail_if_success (with_reducible first | show LCg.CompSrc _ _ _ _ _ _ _ _ _ _ _ _ _ _ | show wpAny _ _ (exec (Stmt.While _ _ _ _) _) _ _ _ | show wpAny _ _ (call (Value.ref _) _ _) _ _ _ | show wpAny _ _ (exec (Stmt.For _ _ _ _ _) _) _ _ _ | show wpAny _ _ (call (Value.builtin "list.append") _ _) _ _ _ | show wpAny _ _ (eval (Expr.ListComp _ _ _ _) _) _ _ _ | show wpAny _ _ (subscriptTail _ _ (Value.str _ _) _) _ _ _ | show wpAny _ _ (binaryOp Operator.Add (Value.str _ _) (Value.str _ _)) _ _ _ | show wpAny _ _ (call (Value.builtin "sorted") _ _) _ _ _ | show wpAny _ _ (exec (Stmt.Assign _ (Expr.ListComp _ _ _ _) _) _) _ _ _ | show wpAny _ _ (call (Value.type "range") [_] _) _ _ _ | show wpAny _ _ (call (Value.type "bytes") _ _) _ _ _ | show wpAny _ _ (storeName _ _ (Value.ref _)) _ _ _ | show wpAny _ _ (subscriptTail _ _ (Value.bytes _ _) _) _ _ _ | show wpAny _ _ (subscriptTail _ _ (Value.ref _) _) _ _ _ | show wpAny _ _ (binaryOp _ (Value.ref _) (Value.ref _)) _ _ _ | show wpAny _ _ (compareOp _ (Value.ref _) (Value.ref _)) _ _ _ | show wpAny _ _ (compareOp _ (Value.bytes _ _) (Value.bytes _ _)) _ _ _))); walk1; (try dsimp only))))
  refine ⟨_, _, _, _, _, _, _, vs.length, _, rfl, by exact hh, F₇, N₇, (N₇ _ (.tail _ (.tail _ (.head _)))).1, ?_, ?_, by rw [sizeLine_eq]; omega,
    fun i zs news' => ∃ tp, news' = tp ++ (A2, LCg.lst y2) :: (A1, LCg.lst y1) :: (r, rgO 0 (vs.toArray.size : Int) 1 r1 r2 r3) :: (D, LCg.lst ys) :: (L' + 1 + 1, oS') :: (L' + 1, oM) :: (a, W.listOf vs.toArray no) :: news ∧ tp.length = i ∧ zs = tp.map (fun p => Value.ref p.1) ∧ T2 (fun j f => ∃ t : Tok, f = Value.str (lsg3 (mds.getD j 0)) t) tp, ⟨[], rfl, rfl, rfl, fun j p h => nomatch h⟩, ?_, ?_⟩
  · rw [hvl]; exact small_one (by decide) (by decide) (by omega) (by omega)
  · rw [hvl]; exact rangeSize_nat _ _
  · rintro i ti zs news' I oI C oC D3 m₂ g₈ h₈ tk₈ E' hi ⟨tp, rfl, htl, hzs, hT⟩ hm hoC F₈ N₈ off hne
    have e0 : (0 : Int) + ((i : Nat) : Int) * 1 = ((i : Nat) : Int) := by omega
    rw [e0] at hm
    obtain ⟨tl, htl'⟩ : ∃ tl, tl = (I, oI) :: (D3, LCg.lst zs) :: (tp ++ (A2, LCg.lst y2) :: (A1, LCg.lst y1) :: (r, rgO 0 (vs.toArray.size : Int) 1 r1 r2 r3) :: (L' + 1, oM) :: (a, W.listOf vs.toArray no) :: news) := ⟨_, rfl⟩
    replace N₈ : News g' L' h₈ ((C, oC) :: (L' + 1 + 1, oS') :: (D, LCg.lst ys) :: tl) := PyProof.Rows.News.perm N₈ (by subst htl'; intro p hp; simp only [List.mem_cons, List.mem_append] at hp ⊢; revert hp; repeat' (first | exact (fun h => h) | refine (fun h => Or.elim h ?_ ?_) | (intro hp; repeat (first | exact hp | exact Or.inl hp | exact Or.inl (Or.inl hp) | exact Or.inl (Or.inr hp) | apply Or.inr))))
    obtain ⟨v, hv⟩ : ∃ v, ys[i]? = some v := ⟨ys[i], List.getElem?_eq_getElem (by omega)⟩
    obtain ⟨tv, rfl⟩ := hS i v hv
    (repeat' (first | (k_unfold; (try dsimp only)) | (((fail_if_success (with_reducible first | show LCg.CompSrc _ _ _ _ _ _ _ _ _ _ _ _ _ _ | show wpAny _ _ (exec (Stmt.While _ _ _ _) _) _ _ _ | show wpAny _ _ (call (Value.ref _) _ _) _ _ _ | show wpAny _ _ (exec (Stmt.For _ _ _ _ _) _) _ _ _ | show wpAny _ _ (call (Value.builtin "list.append") _ _) _ _ _ | show wpAny _ _ (eval (Expr.ListComp _ _ _ _) _) _ _ _ | show wpAny _ _ (subscriptTail _ _ (Value.str _ _) _) _ _ _ | show wpAny _ _ (binaryOp Operator.Add (Value.str _ _) (Value.str _ _)) _ _ _ | show wpAny _ _ (call (Value.builtin "sorted") _ _) _ _ _ | show wpAny _ _ (exec (Stmt.Assign _ (Expr.ListComp _ _ _ _) _) _) _ _ _ | show wpAny _ _ (call (Value.type "range") [_] _) _ _ _ | show wpAny _ _ (call (Value.type "bytes") _ _) _ _ _ | show wpAny _ _ (storeName _ _ (Value.ref _)) _ _ _ | show wpAny _ _ (subscriptTail _ _ (Value.bytes _ _) _) _ _ _ | show wpAny _ _ (subscriptTail _ _ (Value.ref _) _) _ _ _ | show wpAny _ _ (binaryOp _ (Value.ref _) (Value.ref _)) _ _ _ | show wpAny _ _ (compareOp _ (Value.ref _) (Value.ref _)) _ _ _ | show wpAny _ _ (compareOp _ (Value.bytes _ _) (Value.bytes _ _)) _ _ _))); walk1; (try dsimp only))))
    refine item_list (i := i) (N₈.isList (.tail _ (.tail _ (.head _)))) rfl hv (by omega) ?_
    (repeat' (first | (k_unfold; (try dsimp only)) | (((fail_if_success (with_reducible first | show LCg.CompSrc _ _ _ _ _ _ _ _ _ _ _ _ _ _ | show wpAny _ _ (exec (Stmt.While _ _ _ _) _) _ _ _ | show wpAny _ _ (call (Value.ref _) _ _) _ _ _ | show wpAny _ _ (exec (Stmt.For _ _ _ _ _) _) _ _ _ | show wpAny _ _ (call (Value.builtin "list.append") _ _) _ _ _ | show wpAny _ _ (eval (Expr.ListComp _ _ _ _) _) _ _ _ | show wpAny _ _ (subscriptTail _ _ (Value.str _ _) _) _ _ _ | show wpAny _ _ (binaryOp Operator.Add (Value.str _ _) (Value.str _ _)) _ _ _ | show wpAny _ _ (call (Value.builtin "sorted") _ _) _ _ _ | show wpAny _ _ (exec (Stmt.Assign _ (Expr.ListComp _ _ _ _) _) _) _ _ _ | show wpAny _ _ (call (Value.type "range") [_] _) _ _ _ | show wpAny _ _ (call (Value.type "bytes") _ _) _ _ _ | show wpAny _ _ (storeName _ _ (Value.ref _)) _ _ _ | show wpAny _ _ (subscriptTail _ _ (Value.bytes _ _) _) _ _ _ | show wpAny _ _ (subscriptTail _ _ (Value.ref _) _) _ _ _ | show wpAny _ _ (binaryOp _ (Value.ref _) (Value.ref _)) _ _ _ | show wpAny _ _ (compareOp _ (Value.ref _) (Value.ref _)) _ _ _ | show wpAny _ _ (compareOp _ (Value.bytes _ _) (Value.bytes _ _)) _ _ _))); walk1; (try dsimp only))))
    rename Fr g' L' _ _ => F₉
    rename News g' L' _ _ => N₉
    rename_i T₉ hh₉ l₉
    have hD := allLt_mem l₉.2.2.2
    subst htl
    obtain ⟨o₉, hT₉, N₉⟩ : ∃ o₉, T2 (fun j f => ∃ t : Tok, f = Value.str (lsg3 (mds.getD j 0)) t) (tp ++ [(T₉, o₉)]) ∧ News g' L' hh₉ ((T₉, o₉) :: (C, oC) :: (L' + 1 + 1, oS') :: (D, LCg.lst ys) :: tl) := ⟨_, T2.snoc hT ⟨_, rfl⟩, N₉⟩
    refine ⟨_, _, (tp ++ [(T₉, o₉)]) ++ (A2, LCg.lst y2) :: (A1, LCg.lst y1) :: (r, rgO 0 (vs.toArray.size : Int) 1 r1 r2 r3) :: (D, LCg.lst ys) :: (L' + 1 + 1, oS') :: (L' + 1, oM) :: (a, W.listOf vs.toArray no) :: news, rfl, F₉, PyProof.Rows.News.perm N₉ ?_, PyProof.Rows.LCg.Off3.of ?_, trivial, tp ++ [(T₉, o₉)], rfl, by simp, by simp [hzs], hT₉⟩
    · intro p hp
      subst htl'
      simp only [List.mem_cons, List.mem_append, List.not_mem_nil, or_false] at hp ⊢
      revert hp; repeat' (first | exact (fun h => h) | refine (fun h => Or.elim h ?_ ?_) | (intro hp; repeat (first | exact hp | exact Or.inl hp | exact Or.inl (Or.inl hp) | exact Or.inl (Or.inr hp) | apply Or.inr)))
    · have om := off.mem
      intro p hp
      rcases List.mem_append.mp hp with hp | hp
      · rcases List.mem_append.mp hp with hp | hp
        · exact om p (List.mem_append_left _ hp)
        · rw [List.mem_singleton.mp hp]
          exact ⟨Nat.ne_of_gt (hD (I, oI) (by subst htl'; simp)), Nat.ne_of_gt l₉.1, Nat.ne_of_gt (hD (D3, LCg.lst zs) (by subst htl'; simp))⟩
      · exact om p (List.mem_append_right _ hp)
  rintro zs news' ⟨tp, rfl, htl, rfl, hT⟩ D3 h₈ tk₈ F₈ N₈ off3
  obtain ⟨bs, hbs⟩ : ∃ bs, bs = tp ++ (A2, LCg.lst y2) :: (A1, LCg.lst y1) :: (r, rgO 0 (vs.toArray.size : Int) 1 r1 r2 r3) :: (D, LCg.lst ys) :: (L' + 1 + 1, oS') :: (L' + 1, oM) :: (a, W.listOf vs.toArray no) :: news := ⟨_, rfl⟩
  rw [← hbs] at N₈ off3
  (repeat' (first | (k_unfold; (try dsimp only)) | (((fail_if_success (with_reducible first | show LCg.CompSrc _ _ _ _ _ _ _ _ _ _ _ _ _ _ | show wpAny _ _ (exec (Stmt.While _ _ _ _) _) _ _ _ | show wpAny _ _ (call (Value.ref _) _ _) _ _ _ | show wpAny _ _ (exec (Stmt.For _ _ _ _ _) _) _ _ _ | show wpAny _ _ (call (Value.builtin "list.append") _ _) _ _ _ | show wpAny _ _ (eval (Expr.ListComp _ _ _ _) _) _ _ _ | show wpAny _ _ (subscriptTail _ _ (Value.str _ _) _) _ _ _ | show wpAny _ _ (binaryOp Operator.Add (Value.str _ _) (Value.str _ _)) _ _ _ | show wpAny _ _ (call (Value.builtin "sorted") _ _) _ _ _ | show wpAny _ _ (exec (Stmt.Assign _ (Expr.ListComp _ _ _ _) _) _) _ _ _ | show wpAny _ _ (call (Value.type "range") [_] _) _ _ _ | show wpAny _ _ (call (Value.type "bytes") _ _) _ _ _ | show wpAny _ _ (storeName _ _ (Value.ref _)) _ _ _ | show wpAny _ _ (subscriptTail _ _ (Value.bytes _ _) _) _ _ _ | show wpAny _ _ (subscriptTail _ _ (Value.ref _) _) _ _ _ | show wpAny _ _ (binaryOp _ (Value.ref _) (Value.ref _)) _ _ _ | show wpAny _ _ (compareOp _ (Value.ref _) (Value.ref _)) _ _ _ | show wpAny _ _ (compareOp _ (Value.bytes _ _) (Value.bytes _ _)) _ _ _))); walk1; (try dsimp only))))
  refine sorted_tups (tp := tp) (fs := tp.map fun p => firstO p.2) (T := .type "str") (lt := lt3 mds) F₈ N₈ (N₈.isList (.head _)) (by omega) (by omega) (fun p hp => .tail _ (by subst hbs; exact List.mem_append_left _ hp)) (by rw [htl]; exact O3) (by simp) ?_ ?_ (by decide) (by decide) ?_ ?_
  · intro i p f h1 h2
    rw [List.getElem?_map, h1] at h2
    simp only [Option.map_some, Option.some.injEq] at h2
    obtain ⟨f', t3, k, ⟨t1, rfl⟩, e⟩ := hT i p h1
    exact ⟨_, k, by rw [← h2, e]; rfl⟩
  · intro v hv
    obtain ⟨p, hp, rfl⟩ := List.mem_map.mp hv
    obtain ⟨i, hi, e⟩ := List.getElem_of_mem hp
    obtain ⟨f', t3, k, ⟨t1, rfl⟩, e'⟩ := hT i p (by rw [← e]; exact List.getElem?_eq_getElem hi)
    rw [e']; rfl
  · intro A' i j p q s' Q' E' hp hq hgp hgq hq'
    obtain ⟨f1, t3, k, ⟨t1, rfl⟩, e1⟩ := hT i p hp
    obtain ⟨f2, u3, k', ⟨u1, rfl⟩, e2⟩ := hT j q hq
    rw [e1] at hgp; rw [e2] at hgq
    exact keylt2 hgp hgq (fun Q E h => wpAny_eqBool_str h) (fun Q E h => oneLt_str h) hq'
  intro D4 h₉ p3 c P Asc' F₉ N₉ hD4
  rw [htl] at P Asc'
  clear N₈ F₈ N₇ F₇
  refine ⟨D4, (p3.toList.map fun i => (tp.map fun p => Value.ref p.1).getD i Value.none).toArray, _, rfl, by exact hh, F₉, N₉, ?_, (· = _), _, ?_, rfl, fun I => go_tup2 (Z := fun i z => ∃ t : Tok, z = Value.int ((p3.getD i 0 : Nat) : Int) t) (by exact hh) rfl rfl rfl ?_, fun i zs nw => nw = _ ∧ zs.length = i ∧ PlAre zs p3, ⟨rfl, rfl, fun j v h => nomatch h⟩, ?_, ?_⟩
  · rw [List.size_toArray, List.length_map, Array.length_toList, P.size, sizeLine_eq]; omega
  · rintro nw rfl
    exact .inr ⟨_, .head _, rfl, c, rfl⟩
  · rintro nw i v rfl hi hv
    obtain ⟨q, hq, rfl⟩ := pick_item P htl hv
    obtain ⟨f', t3, k, hf', e⟩ := hT _ q hq
    exact ⟨q.1, q.2, _, _, k, rfl, .tail _ (.tail _ (by subst hbs; exact List.mem_append_left _ (List.mem_of_getElem? hq))), by rw [e], by rw [e], t3, rfl⟩
  · rintro i v zs nw I oI C oC D5 m₂ g₁ h₁ tk₁ E' hv ⟨rfl, hzl, hP⟩ _ ⟨z, ⟨tz, rfl⟩, hmz⟩ hoC F₁ N₁ off₁ hne₁
    (repeat' (first | (k_unfold; (try dsimp only)) | (((fail_if_success (with_reducible first | show LCg.CompSrc _ _ _ _ _ _ _ _ _ _ _ _ _ _ | show wpAny _ _ (exec (Stmt.While _ _ _ _) _) _ _ _ | show wpAny _ _ (call (Value.ref _) _ _) _ _ _ | show wpAny _ _ (exec (Stmt.For _ _ _ _ _) _) _ _ _ | show wpAny _ _ (call (Value.builtin "list.append") _ _) _ _ _ | show wpAny _ _ (eval (Expr.ListComp _ _ _ _) _) _ _ _ | show wpAny _ _ (subscriptTail _ _ (Value.str _ _) _) _ _ _ | show wpAny _ _ (binaryOp Operator.Add (Value.str _ _) (Value.str _ _)) _ _ _ | show wpAny _ _ (call (Value.builtin "sorted") _ _) _ _ _ | show wpAny _ _ (exec (Stmt.Assign _ (Expr.ListComp _ _ _ _) _) _) _ _ _ | show wpAny _ _ (call (Value.type "range") [_] _) _ _ _ | show wpAny _ _ (call (Value.type "bytes") _ _) _ _ _ | show wpAny _ _ (storeName _ _ (Value.ref _)) _ _ _ | show wpAny _ _ (subscriptTail _ _ (Value.bytes _ _) _) _ _ _ | show wpAny _ _ (subscriptTail _ _ (Value.ref _) _) _ _ _ | show wpAny _ _ (binaryOp _ (Value.ref _) (Value.ref _)) _ _ _ | show wpAny _ _ (compareOp _ (Value.ref _) (Value.ref _)) _ _ _ | show wpAny _ _ (compareOp _ (Value.bytes _ _) (Value.bytes _ _)) _ _ _))); walk1; (try dsimp only))))
    subst hzl
    exact ⟨_, _, _, rfl, F₁, N₁, off₁, rfl, rfl, by simp, hP.snoc⟩
  rintro y3 nw ⟨rfl, hzl, hP⟩ A3 h₁ tk₁ F₇ N₇ offA
  have hip3 : IntsAre y3 ((Array.toList p3).map fun (j : Nat) => (j : Int)) := hP.ints (by rw [hzl, List.size_toArray, List.length_map, Array.length_toList])
  have hpp3 := P
  have hsp3 := Asc'
  replace N₇ : News g' L' h₁ ((A3, LCg.lst y3) :: (A2, LCg.lst y2) :: (A1, LCg.lst y1) :: (r, rgO 0 (vs.toArray.size : Int) 1 r1 r2 r3) :: (D, LCg.lst ys) :: (L' + 1 + 1, oS') :: (L' + 1, oM) :: (a, W.listOf vs.toArray no) :: news) := PyProof.Rows.News.perm N₇ (by subst hbs; intro p hp; simp only [List.mem_cons, List.mem_append] at hp ⊢; revert hp; repeat' (first | exact (fun h => h) | refine (fun h => Or.elim h ?_ ?_) | (intro hp; repeat (first | exact hp | exact Or.inl hp | exact Or.inl (Or.inl hp) | exact Or.inl (Or.inr hp) | apply Or.inr))))
  clear hP hzl offA N₉ F₉ hD4 P Asc' hbs off3 hT
  dsimp only at F₇ N₇ ⊢
  (repeat' (first | (k_unfold; (try dsimp only)) | (((fail_if_success (with_reducible first | show LCg.CompSrc _ _ _ _ _ _ _ _ _ _ _ _ _ _ | show wpAny _ _ (exec (Stmt.While _ _ _ _) _) _ _ _ | show wpAny _ _ (call (Value.ref _) _ _) _ _ _ | show wpAny _ _ (exec (Stmt.For _ _ _ _ _) _) _ _ _ | show wpAny _ _ (call (Value.builtin "list.append") _ _) _ _ _ | show wpAny _ _ (eval (Expr.ListComp _ _ _ _) _) _ _ _ | show wpAny _ _ (subscriptTail _ _ (Value.str _ _) _) _ _ _ | show wpAny _ _ (binaryOp Operator.Add (Value.str _ _) (Value.str _ _)) _ _ _ | show wpAny _ _ (call (Value.builtin "sorted") _ _) _ _ _ | show wpAny _ _ (exec (Stmt.Assign _ (Expr.ListComp _ _ _ _) _) _) _ _ _ | show wpAny _ _ (call (Value.type "range") [_] _) _ _ _ | show wpAny _ _ (call (Value.type "bytes") _ _) _ _ _ | show wpAny _ _ (storeName _ _ (Value.ref _)) _ _ _ | show wpAny _ _ (subscriptTail _ _ (Value.bytes _ _) _) _ _ _ | show wpAny _ _ (subscriptTail _ _ (Value.ref _) _) _ _ _ | show wpAny _ _ (binaryOp _ (Value.ref _) (Value.ref _)) _ _ _ | show wpAny _ _ (compareOp _ (Value.ref _) (Value.ref _)) _ _ _ | show wpAny _ _ (compareOp _ (Value.bytes _ _) (Value.bytes _ _)) _ _ _))); walk1; (try dsimp only))))
  rename Fr h₀ L _ _ => kF
  rename News h₀ L _ _ => kN
  refine hR _ _ _ (W.listOf [Value.ref A1, Value.ref A2, Value.ref A3].toArray 0) A1 A2 A3 (LCg.lst y1) (LCg.lst y2) (LCg.lst y3) y1 y2 y3 p1 p2 p3 ⟨_, rfl⟩ ⟨_, rfl⟩ ⟨_, rfl⟩ ⟨_, rfl⟩ hip1 hip2 hip3 hpp1 hpp2 hpp3 hsp1 hsp2 hsp3 kF (PyProof.Rows.News.perm kN ?_)
  intro p hp
  simp only [List.mem_cons] at hp ⊢
  revert hp; repeat' (first | exact (fun h => h) | refine (fun h => Or.elim h ?_ ?_) | (intro hp; repeat (first | exact hp | exact Or.inl hp | exact Or.inl (Or.inl hp) | exact Or.inl (Or.inr hp) | apply Or.inr)))

end

section
/-! part B5 -/
open PySem.Calls Builtin
set_option maxRecDepth 100000
theorem by_slot_lt : Slot "bytes" "__lt__" "bytes.__lt__" :=
  .of (owner := "bytes") (n := "__lt__") (by rw [typeLookup_type, builtinLookup_eq_fast]; kernel_rfl) (by decide +kernel) (by decide +kernel) (by decide +kernel)
    (by first | exact .inl (by decide +kernel) | exact .inr (by decide +kernel)) (by rw [isSubtype_type]; kernel_rfl)
theorem by_entry_lt : entryFor table "bytes.__lt__" = some Builtin.«bytes.__lt__» := by first | exact entryFor_of_fast (by kernel_rfl) | exact entryFor_of_tree (by kernel_rfl)
theorem by_args_lt (a b : Value) : argsOk "bytes.__lt__" ⟨[a, b], []⟩ := by unfold argsOk; kernel_rfl
theorem gives_bytes_lt (b c : Array UInt8) (t u : Tok) : Gives («bytes.__lt__» ⟨[.bytes b t, .bytes c u], []⟩) (.val (.bool (Bytes.order b.toList c.toList == .lt))) := by
  refine .of_wp fun M A E s Q hq => ?_
  show wpAny M A (isInstance (.bytes c u) (.type "bytes") >>= fun r => _) _ E s
  refine wpAny_bind (wpAny_isInstance (typeIs_bytes s c u) F.sub_bytes_bytes ?_)
  exact wpAny_pure ⟨_, rfl, hq⟩
section
variable {prog : Program} {w : World} {A : Around} {E : Value → Shared → Prop} {s : Shared} {b c : Array UInt8} {t u : Tok}
theorem lt_bytes {Q : Value → Shared → Prop} (h : Q (.bool (Bytes.order b.toList c.toList == .lt)) s) : wpAny (model prog w) A (compareOp .Lt (.bytes b t) (.bytes c u)) Q E s :=
  compareOp_gives (op := .Lt) (typeIs_bytes s b t) (typeIs_bytes s c u) by_slot_lt by_entry_lt (by_args_lt _ _) (gives_bytes_lt b c t u) (fun e => nomatch e) h
end
theorem sliced_rev (b : Array UInt8) : Bytes.sliced b ((b.size : Int) - 1) (-1) (-1) = b.toList.reverse.toArray := by
  unfold Bytes.sliced
  rw [krv_sliceRange, krv_range, List.filterMap_reverse, krv_all]
theorem meets_rev (b : Array UInt8) (t : Tok) (a : Addr) (tk : Tok) :
    Meets («bytes.__getitem__» ⟨[.bytes b t, .ref a], []⟩) (fun _ R s => s.heap.IsSliceOf a .none .none (.int (-1) tk) ∧ b.size ≤ sizeLine ∧ ∀ t' k, R (.ok (.ret (.bytes b.toList.reverse.toArray t'))) { s with toks := k }) := by
  refine .of_wp fun prog w A R s hS => ?_
  obtain ⟨⟨o, ho, hc, hd⟩, hsz, h⟩ := hS
  have hT : s.TypeIs (.ref a) "slice" := ⟨o, ho, hc⟩
  show wpAny _ _ (Bytes.payload (.bytes b t) >>= fun r => _) _ _ s
  refine wpAny_bind (wpAny_of_eq (a := b) rfl ?_)
  show wpAny _ _ (Bytes.subscript? (.ref a) >>= fun r => _) _ _ s
  refine wpAny_bind ?_
  unfold Bytes.subscript?
  refine wpAny_bind (wpAny_specialOf hT slice_no_index (wpAny_pure ?_))
  refine wpAny_bind (wpAny_typeOf hT ?_)
  show wpAny _ _ (Bytes.sliceParts (.ref a) >>= fun r => _) _ _ s
  refine wpAny_bind ?_
  unfold Bytes.sliceParts
  refine wpAny_bind (wpAny_field (x := .int (-1) tk) ho hd rfl ?_)
  refine wpAny_bind (wpAny_ite (KBy.ite_no (show ¬ ((Value.int (-1) tk == Value.none) = true) from Bool.false_ne_true) ?_))
  refine wpAny_bind (wpAny_specialOf (T := "int") (typeIs_int _ _ _) F.slot_int_index.lookup ?_)
  refine wpAny_ite (KBy.ite_no (show ¬ (Option.isNone (some _) = true) from Bool.false_ne_true) ?_)
  refine wpAny_bind (wpAny_of_eq rfl (wpAny_pure ?_))
  refine wpAny_ite (KBy.ite_no (show ¬ ((rawInt (-1) == rawInt 0) = true) by decide) ?_)
  refine wpAny_bind (wpAny_field (x := .none) ho hd rfl ?_)
  refine wpAny_bind (wpAny_of_eq (a := Value.none) rfl ?_)
  refine wpAny_bind (wpAny_field (x := .none) ho hd rfl ?_)
  refine wpAny_bind (wpAny_of_eq (a := Value.none) rfl ?_)
  refine wpAny_pure ?_
  have go : wpAny (model prog w) A.in1 (sliceIndices (rawPart none) (rawPart none) (rawPart (some (-1))) b.size) (fun r s' => r = sliceBounds none none (some (-1)) b.size ∧ s' = s) (fun _ _ => False) s :=
    wpAny_of_eq (sliceIndices_raw none none (some (-1)) b.size (by simp)) ⟨rfl, rfl⟩
  refine wpAny_bind (wpAny_mono go (fun r s' hr => ?_) fun _ _ e => e.elim)
  obtain ⟨hr1, hr2⟩ := hr
  subst hr1 hr2
  rw [krv_bounds]
  refine wpAny_ite (KBy.ite_no ?_ ?_)
  · intro h
    simp only [Bool.and_eq_true, beq_iff_eq] at h
    exact absurd h.1.1.2 (by decide)
  · (try dsimp only)
    rw [sliced_rev]
    exact wpAny_bind (wpAny_mkBytes (wpAny_pure ⟨_, rfl, h _ _⟩) (by simpa using hsz))
section
variable {prog : Program} {w : World} {A : Around} {E : Value → Shared → Prop} {s : Shared} {value slice : PySem.Expr} {b : Array UInt8} {t tk : Tok} {h₀ : Heap} {L : Addr} {m : PySem.Str → Option Value} {news : List (Addr × Obj)} {Q : Value → Shared → Prop}
theorem rev_K (hF : Fr h₀ L s.heap m) (hN : News h₀ L s.heap news) (hz : b.size ≤ 16777216)
    (h : ∀ h' t' k, Fr h₀ L h' m → News h₀ L h' news → Q (.bytes b.toList.reverse.toArray t') { s with heap := h', toks := k })
    (hs : subscripted slice false (.bytes b t) (.ref s.heap.objs.size) = operate [.ref s.heap.objs.size, .bytes b t] (getItem (.bytes b t) (.ref s.heap.objs.size)) := by with_unfolding_all rfl)
    (ht : ∀ r, letTemporaryGo value (.bytes b t) r = pure () := by intro _; with_unfolding_all rfl) :
    wpAny (model prog w) A (subscriptTail value slice (.bytes b t) (.ref s.heap.objs.size)) Q E { s with heap := s.heap.push { cls := .type "slice", data := .fields #[.none, .none, .int (-1) tk] } } :=
  tail_of_ItemOn ⟨"bytes", _, FB.slot_bytes_getitem.lookup, typeIs_bytes _ _ _, getItem_meets (typeIs_bytes _ _ _) (by decide) FB.slot_bytes_getitem FB.entry_bytes_getitem (FB.args_bytes_getitem_2 _ _) (meets_rev b t _ tk)
    ⟨Heap.IsSliceOf.new _ _ _ _, by rw [sizeLine_eq]; omega, fun t' k => h _ _ _ (hF.push _) (News.pushKeep hN _)⟩⟩ hs ht
end

end

section
/-! part L0 -/
open PySem.Spec PySem.Calls
section
variable {prog : Program} {w : World} {A : Around} {E : Value → Shared → Prop} {s : Shared} {R : Result → Shared → Prop} {env : Env}
theorem call_fullC {name : Str} {params : Arguments} {body : List Stmt} {scope : Scope} {dV kV pm cd doc : Value} {a : Addr} {o : Obj} {args : Args} {binds : List (Str × Value)}
    (hroom : A.depth < recursionLimit) (ho : s.heap.get? a = some o) (hdata : o.data = .func { docDef name params body scope pm cd doc with defaults := dV, kwdefaults := kV }) (hlim : s.heap.NoLimit) (hcd : s.heap.CodeRec cd name)
    (hbind : BindsTo s { docDef name params body scope pm cd doc with defaults := dV, kwdefaults := kV } args binds)
    (hloc : ∀ x ∈ binds, scope.names.lookup x.1 = some .local)
    (h : ∀ h₁, Fr s.heap s.heap.objs.size h₁ (fun x => binds.reverse.lookup x) →
      wpC (model prog w) (A.deeper (envOf name scope s.heap.objs.size a cd)) (execs body (envOf name scope s.heap.objs.size a cd))
        (fun f s' => R (.ok (.ret (match f with | .ret v => v | _ => .none))) s') (fun _ _ => False) { s with heap := h₁, toks := s.toks + binds.length })
    (hco : scope.isCoroutine = false := by rfl) (hgen : scope.isGenerator = false := by rfl) (hk : scope.kind = .function := by rfl) (hcell : ∀ x ∈ scope.names, x.2 ≠ .cell := by decide) :
    codeC (model prog w) A (.call (.ref a) args) R s :=
  codeC_call_def hroom ho hdata hlim hcd rfl hbind hcell hloc (fun h₀ hn hk' => h h₀ ⟨hn, hk', Nat.le_refl _⟩) hco hgen hk
theorem enter_callC {f : Value} {pos : List Value} {kw : List (Str × Value)} {c : ClaimW} {cl : Str → Option Addr} {mean : ExcName → Option Value} {args : List WData} {s₁ : Shared} {M : Model}
    (h : codeC M A (.call f ⟨pos, kw⟩) (GoodWG c cl mean args s₁) s) : wpC M A (PySem.call f pos kw) (fun v s' => GoodWG c cl mean args s₁ (.ok (.ret v)) s') (fun e s' => GoodWG c cl mean args s₁ (.error e) s') s :=
  wpC_call (codeC_mono h fun res s' g => by rcases g.1 with ⟨v, _, _, rfl, _⟩ | ⟨e, _, _, rfl, _⟩ <;> exact g)
/-- one statement first, whatever way it takes -/
theorem cutC {M : Model} {st : Stmt} {rest : List Stmt} (Q₁ : Shared → Prop) {Q : Flow → Shared → Prop} (h : wpAny M A (exec st env) (fun f s' => f = .next ∧ Q₁ s') E s) (h2 : ∀ s, Q₁ s → wpC M A (execs rest env) Q E s) : wpC M A (execs (st :: rest) env) Q E s :=
  wpC_execs_cons (wpC_any (wpAny_mono h (fun f s x => by obtain ⟨rfl, x⟩ := x; exact h2 s x) fun _ _ x => x))
/-- the same, on a clean stack -/
theorem cutCC {M : Model} {st : Stmt} {rest : List Stmt} (Q₁ : Shared → Prop) {Q : Flow → Shared → Prop} (h : wpC M A (exec st env) (fun f s' => f = .next ∧ Q₁ s') E s) (h2 : ∀ s, Q₁ s → wpC M A (execs rest env) Q E s) : wpC M A (execs (st :: rest) env) Q E s :=
  wpC_execs_cons (wpC_mono h (fun f s x => by obtain ⟨rfl, x⟩ := x; exact h2 s x) fun _ _ x => x)
end

end

section
/-! part L1 -/
open PySem.Calls
set_option maxRecDepth 100000
section
variable {prog : Program} {w : World} {A : Around} {E : Value → Shared → Prop} {s : Shared} {a b : Addr} {xs ys : List Value} {Q : Value → Shared → Prop}
theorem all_true (n : Nat) : ((List.range n).all fun _ => true) = true := by simp
theorem ne_same (ha : s.heap.IsList a xs.toArray) (hb : s.heap.IsList b ys.toArray) (hl : xs.length = ys.length) (hu : A.units < cLine)
    (he : ∀ (A : Around) (j : Nat) (x y : Value), xs[j]? = some x → ys[j]? = some y → SeqAt.EqAt A s x y true) (h : Q (.bool false) s) : wpAny (model prog w) A (compareOp .NotEq (.ref a) (.ref b)) Q E s := by
  obtain ⟨⟨cls, dd, data, sl⟩, ho, hc, n, hd⟩ := id ha
  obtain ⟨⟨cls2, dd2, data2, sl2⟩, ho2, hc2, n2, hd2⟩ := id hb
  simp only at hc hd hc2 hd2
  subst hc hd hc2 hd2
  have hq : Q (.bool (!(List.range xs.toArray.size).all fun _ => true)) s := by rw [all_true]; exact h
  exact richCompare_meets_room (op := .NotEq) ⟨_, ho, rfl⟩ ⟨_, ho2, rfl⟩ F.slot_list_ne F.entry_list_ne (F.args_list_ne_2 _ _) (SeqAt.list_neAt a b xs.toArray ys.toArray n n2 dd dd2 sl sl2 (by simpa using hl) fun _ => true)
    ⟨ho, ho2, (fun j h1 h2 => he _ j _ _ (by simp at h1 ⊢) (by simp at h2 ⊢)), (show Value.bool (!(List.range xs.toArray.size).all fun _ => true) ≠ Value.notImplemented ∧ Q (.bool (!(List.range xs.toArray.size).all fun _ => true)) s from ⟨(fun x => nomatch x), hq⟩)⟩ hu
theorem rc_same (ha : s.heap.IsList a xs.toArray) (hb : s.heap.IsList b ys.toArray) (hl : xs.length = ys.length) (hu : A.units < cLine)
    (he : ∀ (A : Around) (j : Nat) (x y : Value), xs[j]? = some x → ys[j]? = some y → SeqAt.EqAt A s x y true) : SeqAt.RcAt A s (.ref a) (.ref b) true := by
  have := SeqAt.RcAt.lists (e := fun _ => true) ha hb (by simpa using hl) hu (fun j h1 h2 => he _ j _ _ (by simp at h1 ⊢) (by simp at h2 ⊢))
  rw [all_true] at this
  exact this
theorem eq_same (ha : s.heap.IsList a xs.toArray) (hb : s.heap.IsList b ys.toArray) (hl : xs.length = ys.length) (hu : A.units < cLine)
    (he : ∀ (A : Around) (j : Nat) (x y : Value), xs[j]? = some x → ys[j]? = some y → SeqAt.EqAt A s x y true) (h : Q (.bool true) s) : wpAny (model prog w) A (compareOp .Eq (.ref a) (.ref b)) Q E s :=
  rc_same ha hb hl hu he prog w E Q h
theorem eq_sameI (ha : s.heap.IsList a xs.toArray) (hb : s.heap.IsList b ys.toArray) (hl : xs.length = ys.length) (hu : A.units < cLine)
    (he : ∀ (j : Nat) (x y : Value), xs[j]? = some x → ys[j]? = some y → SeqAt.EqAt A.in1 s x y true) (h : Q (.bool true) s) : wpAny (model prog w) A (compareOp .Eq (.ref a) (.ref b)) Q E s := by
  have := SeqAt.RcAt.lists (e := fun _ => true) ha hb (by simpa using hl) hu (fun j h1 h2 => he j _ _ (by simp at h1 ⊢) (by simp at h2 ⊢))
  rw [all_true] at this
  exact this prog w E Q h
theorem eqAt_bytes {x : Array UInt8} {t u : Tok} : SeqAt.EqAt A s (.bytes x t) (.bytes x u) true := fun prog w E Q h => eqBool_bytes (by simpa using h)
theorem eqAt_str {x : Str} {t u : Tok} : SeqAt.EqAt A s (.str x t) (.str x u) true := fun prog w E Q h => wpAny_eqBool_str (by simpa using h)
theorem eqAt_int {x : Int} {t u : Tok} : SeqAt.EqAt A s (.int x t) (.int x u) true := fun prog w E Q h => wpAny_eqBool_int (by simpa using h)
theorem eqAt_lists {ns : List Int} (ha : s.heap.IsList a xs.toArray) (hb : s.heap.IsList b ys.toArray) (hi : IntsAre xs ns) (hj : IntsAre ys ns) (hu : A.units < cLine) : SeqAt.EqAt A s (.ref a) (.ref b) true := by
  by_cases e : a = b
  · subst e
    intro prog w E Q hq
    unfold eqBool
    refine wpAny_holding ?_
    refine wpAny_ite_split (fun _ => ?_) (fun hn => absurd (by simp) hn)
    exact wpAny_bind (wpAny_rule (wpAny_pure hq))
  · refine SeqAt.EqAt.of_refs e (rc_same ha hb (by rw [hi.length, hj.length]) hu fun A j x y hx hy => ?_)
    have g : ∀ {vs : List Value} {ns : List Int}, IntsAre vs ns → ∀ (i : Nat) (v : Value), vs[i]? = some v → ∃ t : Tok, v = Value.int (ns.getD i 0) t := by
      intro vs ns h
      induction h with
      | nil => intro i v hv; cases hv
      | cons n t _ ih =>
        intro i v hv
        cases i with
        | zero => simp at hv; exact ⟨t, hv.symm⟩
        | succ i => simpa using ih i v (by simpa using hv)
    obtain ⟨t, rfl⟩ := g hi j x hx
    obtain ⟨u, rfl⟩ := g hj j y hy
    exact eqAt_int
end

end

section
/-! part L2 -/
open PySem.Spec PySem.Calls
section
variable {M : Model} {A : Around} {E : Value → Shared → Prop} {s : Shared} {env : Env}
theorem wpC_isTrue_or {c1 c2 : PySem.Expr} {pos : Pos} {whole : Sem Value} {Q : Bool → Shared → Prop}
    (h : wpC M A (isTrue c1 env (eval c1 env)) (fun b s' => if b = true then Q true s' else wpAny M A (isTrue c2 env (eval c2 env)) Q E s') E s) : wpC M A (isTrue (.BoolOp .Or [c1, c2] pos) env whole) Q E s := by
  rw [arm_isTrue_BoolOp]
  unfold allTrue
  refine wpC_bind (wpC_mono h (fun b s' hb => ?_) fun _ _ x => x)
  cases b with
  | true => exact wpC_pure hb
  | false =>
    simp only [Bool.false_eq_true, if_false] at hb
    first
      | (unfold allTrue; exact wpC_any hb)
      | (show wpC M A (allTrue .Or [c2] env) Q E s'; unfold allTrue; exact wpC_any (wpAny_bind (wpAny_mono hb (fun b s'' hb' => by cases b <;> exact wpAny_pure hb') fun _ _ x => x)))
end

end

section
/-! part P3 -/
/-- the modes -/
noncomputable def mdsOf (ns : List Int) : List Int := [33188, 33261, 35300, 16877, 35236] ++ (ns.take 4).map fun x => x.fmod 65536
theorem fm_in (x : Int) : 0 ≤ x.fmod 65536 ∧ x.fmod 65536 < 65536 := by rw [Int.fmod_eq_emod_of_nonneg _ (by decide)]; omega
theorem mds_in (ns : List Int) (i : Nat) : 0 ≤ (mdsOf ns).getD i 0 ∧ (mdsOf ns).getD i 0 < 65536 := by
  have h : ∀ x ∈ mdsOf ns, 0 ≤ x ∧ x < 65536 := by
    intro x hx
    unfold mdsOf at hx
    rcases List.mem_append.mp hx with h | h
    · simp only [List.mem_cons, List.not_mem_nil, or_false] at h
      omega
    · obtain ⟨y, _, rfl⟩ := List.mem_map.mp h
      exact fm_in y
  rw [List.getD_eq_getElem?_getD]
  cases e : (mdsOf ns)[i]? with
  | none => exact ⟨Int.le_refl _, by decide⟩
  | some x => exact h x (List.mem_of_getElem? e)
/-- the octets, the lowest first -/
noncomputable def oct (mds : List Int) (q : Nat) : Int := ((mds.getD (q / 2) 0).fdiv (256 ^ (q % 2))).fmod 256
noncomputable def octL (mds : List Int) : List Int := (List.range (2 * mds.length)).map (oct mds)
noncomputable def rowL (mds : List Int) : List UInt8 := (octL mds).map fun n => n.toNat.toUInt8
theorem oct_in (mds : List Int) (q : Nat) : 0 ≤ oct mds q ∧ oct mds q < 256 := by
  unfold oct
  rw [Int.fmod_eq_emod_of_nonneg _ (by decide)]; omega
theorem oct0 (mds : List Int) (i : Nat) : oct mds (2 * i + 0) = ((mds.getD i 0).fdiv (256 ^ Int.toNat 0)).fmod 256 := by
  unfold oct
  rw [show (2 * i + 0) / 2 = i by omega, show (2 * i + 0) % 2 = 0 by omega]; rfl
theorem oct1 (mds : List Int) (i : Nat) : oct mds (2 * i + 1) = ((mds.getD i 0).fdiv (256 ^ Int.toNat 1)).fmod 256 := by
  unfold oct
  rw [show (2 * i + 1) / 2 = i by omega, show (2 * i + 1) % 2 = 1 by omega]; rfl
theorem oct_lo (mds : List Int) (i : Nat) : oct mds (2 * i) = (mds.getD i 0).fmod 256 := by
  rw [show 2 * i = 2 * i + 0 by omega, oct0]
  show ((mds.getD i 0).fdiv 1).fmod 256 = _
  rw [Int.fdiv_eq_ediv_of_nonneg _ (by decide), Int.ediv_one]
theorem oct_hi (mds : List Int) (i : Nat) (h : 0 ≤ mds.getD i 0 ∧ mds.getD i 0 < 65536) : oct mds (2 * i + 1) = (mds.getD i 0).fdiv 256 := by
  rw [oct1]
  show ((mds.getD i 0).fdiv 256).fmod 256 = _
  rw [Int.fdiv_eq_ediv_of_nonneg _ (by decide), Int.fmod_eq_emod_of_nonneg _ (by decide)]
  omega
noncomputable def OcAre (mds : List Int) (q : Nat) (ys : List Value) : Prop := ys.length = q ∧ ∀ (j : Nat) (v : Value), ys[j]? = some v → ∃ t : Tok, v = Value.int (oct mds j) t
theorem OcAre.snoc {mds : List Int} {q : Nat} {ys : List Value} {t : Tok} {n : Int} (h : OcAre mds q ys) (e : n = oct mds q) : OcAre mds (q + 1) (ys ++ [.int n t]) := by
  refine ⟨by rw [List.length_append, h.1]; rfl, fun j v hv => ?_⟩
  rcases get_snoc hv with h1 | ⟨rfl, rfl⟩
  · exact h.2 j v h1
  · exact ⟨t, by rw [e, h.1]⟩
theorem OcAre.ints {mds : List Int} {ys : List Value} (h : OcAre mds (2 * mds.length) ys) : IntsAre ys (octL mds) := by
  refine ints_of (by rw [h.1]; simp [octL]) fun j v hv => ?_
  obtain ⟨t, e⟩ := h.2 j v hv
  have hj : j < 2 * mds.length := by rw [← h.1]; exact (List.getElem?_eq_some_iff.mp hv).1
  refine ⟨t, ?_⟩
  rw [e, List.getD_eq_getElem?_getD]
  simp [octL, hj]
theorem row_len (mds : List Int) : (rowL mds).length = 2 * mds.length := by simp [rowL, octL]
theorem row_getD (mds : List Int) (q : Nat) (h : q < 2 * mds.length) : (rowL mds).getD q 0 = (oct mds q).toNat.toUInt8 := by
  rw [List.getD_eq_getElem?_getD]
  simp [rowL, octL, h]
/-- the other place of a sample -/
noncomputable def mate (q : Nat) : Nat := if q % 2 = 0 then q + 1 else q - 1
theorem mate0 (k : Nat) : mate (2 * k) = 2 * k + 1 := by unfold mate; rw [if_pos (by omega)]
theorem mate1 (k : Nat) : mate (2 * k + 1) = 2 * k := by unfold mate; rw [if_neg (by omega)]; rfl
theorem even_odd (q : Nat) : ∃ k, q = 2 * k ∨ q = 2 * k + 1 := ⟨q / 2, by omega⟩
theorem swp_getD (d : Array UInt8) : ∀ (k : Nat), 2 * k ≤ d.size → ∀ q, q < 2 * k → (swp d k).getD q 0 = d.getD (mate q) 0
  | 0, _, q, h => by omega
  | k + 1, hk, q, h => by
    have ih := swp_getD d k (by omega) q
    have hz := swp_size d k
    rw [swp, Array.getD_eq_getD_getElem?, Array.getElem?_setIfInBounds, Array.getElem?_setIfInBounds]
    by_cases e1 : 2 * k = q
    · rw [if_pos e1, if_pos (by simp; omega)]
      subst e1
      rw [mate0]
      rfl
    · rw [if_neg e1]
      by_cases e2 : 2 * k + 1 = q
      · rw [if_pos e2, if_pos (by omega)]
        subst e2
        rw [mate1]
        rfl
      · rw [if_neg e2, ← Array.getD_eq_getD_getElem?]
        exact ih (by omega)
theorem swl_len (x : List UInt8) : (swl x).length = x.length := by simp [swl, swp_size]
theorem swl_getD (x : List UInt8) (q : Nat) (h : q < 2 * (x.length / 2)) : (swl x).getD q 0 = x.getD (mate q) 0 := by
  have := swp_getD x.toArray (x.length / 2) (by rw [List.size_toArray]; omega) q h
  unfold swl
  rw [Array.getD_eq_getD_getElem?, ← Array.getElem?_toList, ← List.getD_eq_getElem?_getD] at this
  rw [this]
  simp [Array.getD_eq_getD_getElem?, List.getD_eq_getElem?_getD]
theorem smp_swl (x : List UInt8) (i : Nat) (h : 2 * i + 1 < 2 * (x.length / 2)) : smp (swl x) i = (smp x i).toList.reverse.toArray := by
  unfold smp
  rw [swl_getD x _ (by omega), swl_getD x _ h, mate0, mate1]
  rfl
theorem swl_swl (x : List UInt8) (h : x.length % 2 = 0) : swl (swl x) = x := by
  apply List.ext_getElem (by rw [swl_len, swl_len])
  intro q h1 h2
  have hm : mate (mate q) = q ∧ mate q < 2 * (x.length / 2) := by
    obtain ⟨k, rfl | rfl⟩ := even_odd q
    · rw [mate0, mate1]; exact ⟨rfl, by omega⟩
    · rw [mate1, mate0]; exact ⟨rfl, by omega⟩
  have g : ∀ (l : List UInt8) (h : q < l.length), l[q] = l.getD q 0 := fun l h => by rw [List.getD_eq_getElem?_getD, List.getElem?_eq_getElem h]; rfl
  rw [g _ h1, g _ h2, swl_getD _ _ (by rw [swl_len]; omega), swl_getD _ _ hm.2, hm.1]
/-- two octets -/
noncomputable def B8 (n : Int) : UInt8 := n.toNat.toUInt8
theorem B8_nat {n : Int} (h : 0 ≤ n ∧ n < 256) : (B8 n).toNat = n.toNat := by
  unfold B8
  simp only [Nat.toUInt8, UInt8.toNat_ofNat']
  omega
theorem B8_lt {a b : Int} (ha : 0 ≤ a ∧ a < 256) (hb : 0 ≤ b ∧ b < 256) : B8 a < B8 b ↔ a < b := by
  rw [UInt8.lt_iff_toNat_lt, B8_nat ha, B8_nat hb]; omega
theorem B8_eq {a b : Int} (ha : 0 ≤ a ∧ a < 256) (hb : 0 ≤ b ∧ b < 256) : B8 a = B8 b ↔ a = b := by
  constructor
  · intro h
    have := congrArg UInt8.toNat h
    rw [B8_nat ha, B8_nat hb] at this; omega
  · intro h; rw [h]
theorem order2 {a b c d : Int} (ha : 0 ≤ a ∧ a < 256) (hb : 0 ≤ b ∧ b < 256) (hc : 0 ≤ c ∧ c < 256) (hd : 0 ≤ d ∧ d < 256) :
    (Builtin.Bytes.order [B8 a, B8 b] [B8 c, B8 d] == .lt) = if a = c then decide (b < d) else decide (a < c) := by
  simp only [Builtin.Bytes.order, GT.gt, B8_lt ha hc, B8_lt hc ha, B8_lt hb hd, B8_lt hd hb]
  by_cases h1 : a < c
  · rw [if_pos h1, if_neg (by omega), decide_eq_true h1]; rfl
  · rw [if_neg h1]
    by_cases h2 : c < a
    · rw [if_pos h2, if_neg (by omega), decide_eq_false h1]; rfl
    · rw [if_neg h2, show (if a = c then decide (b < d) else decide (a < c)) = decide (b < d) from if_pos (by omega)]
      by_cases h3 : b < d
      · rw [if_pos h3, decide_eq_true h3]; rfl
      · rw [if_neg h3, decide_eq_false h3]
        split <;> rfl
theorem eq2 {a b c d : Int} (ha : 0 ≤ a ∧ a < 256) (hb : 0 ≤ b ∧ b < 256) (hc : 0 ≤ c ∧ c < 256) (hd : 0 ≤ d ∧ d < 256) :
    decide ([B8 a, B8 b] = [B8 c, B8 d]) = decide (a = c ∧ b = d) := by
  rw [decide_eq_decide]
  simp only [List.cons.injEq, and_true, B8_eq ha hc, B8_eq hb hd]
noncomputable def keqB (u v : Nat → Int) (i j : Nat) : Bool := decide (u i = u j ∧ v i = v j)
noncomputable def kltB (u v : Nat → Int) (i j : Nat) : Bool := if u i = u j then decide (v i < v j) else decide (u i < u j)
theorem keyOK_B {w : World} {ks : List Value} {u v : Nat → Int} {f : Nat → Array UInt8} (hk : BsAre ks f) (hf : ∀ i, i < ks.length → f i = #[B8 (u i), B8 (v i)]) (hu : ∀ i, 0 ≤ u i ∧ u i < 256) (hv : ∀ i, 0 ≤ v i ∧ v i < 256) : KeyOK PR w ks (keqB u v) (kltB u v) where
  eq := fun A i j x y s Q E hx hy h => by
    have hi := (List.getElem?_eq_some_iff.mp hx).1
    have hj := (List.getElem?_eq_some_iff.mp hy).1
    obtain ⟨t, rfl⟩ := hk i x hx
    obtain ⟨t', rfl⟩ := hk j y hy
    refine eqBool_bytes ?_
    rw [hf i hi, hf j hj]
    show Q (decide ([B8 (u i), B8 (v i)] = [B8 (u j), B8 (v j)])) s
    rw [eq2 (hu i) (hv i) (hu j) (hv j)]
    exact h
  lt := fun A i j x y s Q E hx hy h => by
    have hi := (List.getElem?_eq_some_iff.mp hx).1
    have hj := (List.getElem?_eq_some_iff.mp hy).1
    obtain ⟨t, rfl⟩ := hk i x hx
    obtain ⟨t', rfl⟩ := hk j y hy
    refine lt_bytes ?_
    rw [hf i hi, hf j hj]
    show Q (.bool (Builtin.Bytes.order [B8 (u i), B8 (v i)] [B8 (u j), B8 (v j)] == .lt)) s
    rw [order2 (hu i) (hv i) (hu j) (hv j)]
    exact h
noncomputable def keqS (f : Nat → Str) (i j : Nat) : Bool := decide (f i = f j)
noncomputable def kltS (f : Nat → Str) (i j : Nat) : Bool := decide ((f i).cps.toList < (f j).cps.toList)
theorem keyOK_S {w : World} {ks : List Value} {f : Nat → Str} (hk : SsAre ks f) : KeyOK PR w ks (keqS f) (kltS f) where
  eq := fun A i j x y s Q E hx hy h => by
    obtain ⟨t, rfl⟩ := hk i x hx
    obtain ⟨t', rfl⟩ := hk j y hy
    exact wpAny_eqBool_str h
  lt := fun A i j x y s Q E hx hy h => by
    obtain ⟨t, rfl⟩ := hk i x hx
    obtain ⟨t', rfl⟩ := hk j y hy
    exact lt_str h
section
variable {mds : List Int}
theorem lti_1 (h : ∀ i, 0 ≤ mds.getD i 0 ∧ mds.getD i 0 < 65536) : lti (keqB (fun i => oct mds (2 * i)) (fun i => oct mds (2 * i + 1))) (kltB (fun i => oct mds (2 * i)) (fun i => oct mds (2 * i + 1))) = lt1 mds := by
  funext i j
  unfold lti keqB kltB lt1
  simp only [oct_lo, oct_hi mds _ (h _), decide_eq_true_eq, Int.ofNat_lt]
  by_cases h1 : (mds.getD i 0).fmod 256 = (mds.getD j 0).fmod 256
  · by_cases h2 : (mds.getD i 0).fdiv 256 = (mds.getD j 0).fdiv 256
    · rw [if_pos ⟨h1, h2⟩, if_pos h1, if_pos h2]
    · rw [if_neg (fun e => h2 e.2), if_pos h1, if_pos h1, if_neg h2]
  · rw [if_neg (fun e => h1 e.1), if_neg h1, if_neg h1]
theorem lti_2 (h : ∀ i, 0 ≤ mds.getD i 0 ∧ mds.getD i 0 < 65536) : lti (keqB (fun i => oct mds (2 * i + 1)) (fun i => oct mds (2 * i))) (kltB (fun i => oct mds (2 * i + 1)) (fun i => oct mds (2 * i))) = lt2 mds := by
  funext i j
  unfold lti keqB kltB lt2
  simp only [oct_lo, oct_hi mds _ (h _), decide_eq_true_eq, Int.ofNat_lt, beq_iff_eq]
  have hi := h i
  have hj := h j
  generalize mds.getD i 0 = x at *
  generalize mds.getD j 0 = y at *
  simp only [Int.fdiv_eq_ediv_of_nonneg _ (show (0 : Int) ≤ 256 by decide), Int.fmod_eq_emod_of_nonneg _ (show (0 : Int) ≤ 256 by decide)]
  by_cases h1 : x = y
  · subst h1
    rw [if_pos ⟨rfl, rfl⟩, if_pos rfl]
  · rw [if_neg (by omega), if_neg h1]
    by_cases h2 : x / 256 = y / 256
    · rw [if_pos h2, decide_eq_decide]; omega
    · rw [if_neg h2, decide_eq_decide]; omega
theorem lti_3 : lti (keqS fun i => lsg3 (mds.getD i 0)) (kltS fun i => lsg3 (mds.getD i 0)) = lt3 mds := by
  funext i j
  unfold lti keqS kltS lt3
  simp only [Int.ofNat_lt]
theorem ord_nat (n : Nat) : Ord n (fun i j => decide ((i : Int) < (j : Int))) where
  irr := fun i _ => decide_eq_false (Int.lt_irrefl _)
  tr := fun i j k _ _ _ h1 h2 => decide_eq_true (Int.lt_trans (of_decide_eq_true h1) (of_decide_eq_true h2))
  tot := fun i j _ _ hij => by
    rcases Nat.lt_or_gt_of_ne hij with h | h
    · exact .inl (decide_eq_true (Int.ofNat_lt.mpr h))
    · exact .inr (decide_eq_true (Int.ofNat_lt.mpr h))
theorem ord_lex {n : Nat} {lt' : Nat → Nat → Bool} (O : Ord n lt') (u : Nat → Int) : Ord n (fun i j => if u i = u j then lt' i j else decide (u i < u j)) where
  irr := fun i hi => by rw [if_pos rfl]; exact O.irr i hi
  tr := fun i j k hi hj hk h1 h2 => by
    by_cases e1 : u i = u j
    · rw [if_pos e1] at h1
      rw [e1]
      by_cases e2 : u j = u k
      · rw [if_pos e2] at h2 ⊢; exact O.tr i j k hi hj hk h1 h2
      · rw [if_neg e2] at h2 ⊢; exact h2
    · rw [if_neg e1] at h1
      by_cases e2 : u j = u k
      · rw [← e2, if_neg e1]; exact h1
      · rw [if_neg e2] at h2
        have h3 := Int.lt_trans (of_decide_eq_true h1) (of_decide_eq_true h2)
        rw [if_neg (Int.ne_of_lt h3)]
        exact decide_eq_true h3
  tot := fun i j hi hj hij => by
    by_cases e1 : u i = u j
    · rw [if_pos e1, if_pos e1.symm]; exact O.tot i j hi hj hij
    · rw [if_neg e1, if_neg (fun e => e1 e.symm)]
      rcases Int.lt_or_gt_of_ne e1 with h | h
      · exact .inl (decide_eq_true h)
      · exact .inr (decide_eq_true h)
theorem ord1 (n : Nat) : Ord n (lt1 mds) := ord_lex (ord_lex (ord_nat n) fun i => (mds.getD i 0).fdiv 256) fun i => (mds.getD i 0).fmod 256
theorem ord2 (n : Nat) : Ord n (lt2 mds) := by
  have h := ord_lex (ord_nat n) fun i => mds.getD i 0
  have e : (fun i j => if mds.getD i 0 = mds.getD j 0 then decide ((i : Int) < (j : Int)) else decide (mds.getD i 0 < mds.getD j 0)) = lt2 mds := by
    funext i j
    unfold lt2
    simp only [beq_iff_eq]
  rw [← e]; exact h
theorem ord3 (n : Nat) : Ord n (lt3 mds) where
  irr := fun i _ => by unfold lt3; rw [if_pos (by simp), decide_eq_false (by omega)]
  tr := fun i j k _ _ _ => by
    unfold lt3
    generalize lsg3 (mds.getD i 0) = x
    generalize lsg3 (mds.getD j 0) = y
    generalize lsg3 (mds.getD k 0) = z
    intro h1 h2
    by_cases e1 : x = y
    · subst e1
      rw [if_pos (by simp)] at h1
      by_cases e2 : x = z
      · subst e2
        rw [if_pos (by simp)] at h2 ⊢
        simp only [decide_eq_true_eq] at *; omega
      · rw [if_neg (by simpa using e2)] at h2 ⊢
        exact h2
    · rw [if_neg (by simpa using e1)] at h1
      by_cases e2 : y = z
      · subst e2
        rw [if_neg (by simpa using e1)]
        exact h1
      · rw [if_neg (by simpa using e2)] at h2
        simp only [decide_eq_true_eq] at h1 h2
        have h3 := List.lt_trans h1 h2
        have e3 : x ≠ z := fun e => by subst e; exact List.lt_irrefl _ h3
        rw [if_neg (by simpa using e3)]
        simpa using h3
  tot := fun i j _ _ hij => by
    unfold lt3
    generalize lsg3 (mds.getD i 0) = x
    generalize lsg3 (mds.getD j 0) = y
    by_cases e1 : x = y
    · subst e1
      rw [if_pos (by simp), if_pos (by simp)]
      simp only [decide_eq_true_eq]; omega
    · rw [if_neg (by simpa using e1), if_neg (by simpa using (fun e => e1 e.symm))]
      simp only [decide_eq_true_eq]
      by_cases h : x.cps.toList < y.cps.toList
      · exact .inl h
      · by_cases h' : y.cps.toList < x.cps.toList
        · exact .inr h'
        · exact absurd (PyProof.Rows.str_of_list (List.le_antisymm (List.not_lt.mp h') (List.not_lt.mp h))) e1
end

end

section
/-! part P4 -/
set_option maxRecDepth 100000
theorem and_bit (n k : Nat) : n &&& 2 ^ k = n / 2 ^ k % 2 * 2 ^ k := by
  have ht : n.testBit k = decide (n / 2 ^ k % 2 = 1) := Nat.testBit_eq_decide_div_mod_eq
  rcases Nat.mod_two_eq_zero_or_one (n / 2 ^ k) with h | h
  · rw [h, Nat.zero_mul]
    apply Nat.eq_of_testBit_eq
    intro i
    rw [Nat.testBit_and, Nat.testBit_two_pow, Nat.zero_testBit]
    by_cases hi : k = i
    · subst hi; rw [ht, h]; simp
    · rw [decide_eq_false hi, Bool.and_false]
  · rw [h, Nat.one_mul]
    apply Nat.eq_of_testBit_eq
    intro i
    rw [Nat.testBit_and, Nat.testBit_two_pow]
    by_cases hi : k = i
    · subst hi; rw [ht, h]; simp
    · rw [decide_eq_false hi, Bool.and_false]
theorem and_one {md : Int} (h0 : 0 ≤ md) (k : Nat) (b : Int) (hb : b = ((2 ^ k : Nat) : Int)) : (Builtin.bitAnd md b == b) = decide (md.toNat / 2 ^ k % 2 = 1) := by
  subst hb
  have hp : 0 < 2 ^ k := Nat.two_pow_pos k
  rw [bitAnd_pp h0 (Int.natCast_nonneg _), Int.toNat_natCast, and_bit]
  rcases Nat.mod_two_eq_zero_or_one (md.toNat / 2 ^ k) with h | h
  · rw [h]
    have : ¬ ((0 * 2 ^ k : Nat) : Int) = ((2 ^ k : Nat) : Int) := by omega
    simp only [decide_false, Nat.zero_ne_one]
    simpa using this
  · rw [h]; simp
theorem and_two {md : Int} (h0 : 0 ≤ md) (j k : Nat) (b : Int) (hb : b = ((2 ^ j ||| 2 ^ k : Nat) : Int)) (hjk : ∀ x y : Nat, x < 2 → y < 2 → ((x * 2 ^ j ||| y * 2 ^ k) = (2 ^ j ||| 2 ^ k) ↔ x = 1 ∧ y = 1)) :
    (Builtin.bitAnd md b == b) = decide (md.toNat / 2 ^ j % 2 = 1 ∧ md.toNat / 2 ^ k % 2 = 1) := by
  subst hb
  rw [bitAnd_pp h0 (Int.natCast_nonneg _), Int.toNat_natCast, Nat.and_or_distrib_left, and_bit, and_bit]
  have h := hjk (md.toNat / 2 ^ j % 2) (md.toNat / 2 ^ k % 2) (Nat.mod_lt _ (by decide)) (Nat.mod_lt _ (by decide))
  rw [Bool.eq_iff_iff, beq_iff_eq, decide_eq_true_eq, ← h]
  exact Int.ofNat_inj
theorem two_of {j k : Nat} (h : ∀ x : Fin 2, ∀ y : Fin 2, (x.1 * 2 ^ j ||| y.1 * 2 ^ k) = (2 ^ j ||| 2 ^ k) ↔ x.1 = 1 ∧ y.1 = 1) : ∀ x y : Nat, x < 2 → y < 2 → ((x * 2 ^ j ||| y * 2 ^ k) = (2 ^ j ||| 2 ^ k) ↔ x = 1 ∧ y = 1) :=
  fun x y hx hy => h ⟨x, hx⟩ ⟨y, hy⟩
/-- the kind, as a place of four bits -/
theorem and_kind {md : Int} (h0 : 0 ≤ md) (h1 : md < 65536) : Builtin.bitAnd md 61440 = ((md.toNat / 4096 * 4096 : Nat) : Int) := by
  rw [bitAnd_pp h0 (by decide)]
  have e : Int.toNat 61440 = 2 ^ 12 ||| 2 ^ 13 ||| 2 ^ 14 ||| 2 ^ 15 := by decide
  rw [e, Nat.and_or_distrib_left, Nat.and_or_distrib_left, Nat.and_or_distrib_left, and_bit, and_bit, and_bit, and_bit]
  have hq : md.toNat / 4096 < 16 := by omega
  have b0 : md.toNat / 2 ^ 12 % 2 = md.toNat / 4096 % 2 := rfl
  have b1 : md.toNat / 2 ^ 13 % 2 = md.toNat / 4096 / 2 % 2 := congrArg (· % 2) (Nat.div_div_eq_div_mul md.toNat 4096 2).symm
  have b2 : md.toNat / 2 ^ 14 % 2 = md.toNat / 4096 / 4 % 2 := congrArg (· % 2) (Nat.div_div_eq_div_mul md.toNat 4096 4).symm
  have b3 : md.toNat / 2 ^ 15 % 2 = md.toNat / 4096 / 8 % 2 := congrArg (· % 2) (Nat.div_div_eq_div_mul md.toNat 4096 8).symm
  rw [b0, b1, b2, b3]
  have all : ∀ q : Fin 16, (q.1 % 2 * 2 ^ 12 ||| q.1 / 2 % 2 * 2 ^ 13 ||| q.1 / 4 % 2 * 2 ^ 14 ||| q.1 / 8 % 2 * 2 ^ 15) = q.1 * 4096 := by decide +kernel
  exact congrArg _ (all ⟨_, hq⟩)
theorem s_kind {md : Int} (h0 : 0 ≤ md) (h1 : md < 65536) : sign md 0 [(40960, Str.ofString "l"), (49152, Str.ofString "s"), (32768, Str.ofString "-"), (24576, Str.ofString "b"), (16384, Str.ofString "d"), (8192, Str.ofString "c"), (4096, Str.ofString "p")] = kindL md := by
  unfold sign
  rw [if_pos rfl, and_kind h0 h1]
  have hf : md.fdiv 4096 = ((md.toNat / 4096 : Nat) : Int) := by
    rw [Int.fdiv_eq_ediv_of_nonneg _ (by decide)]; omega
  unfold kindL
  rw [hf]
  have hq : md.toNat / 4096 < 16 := by omega
  generalize md.toNat / 4096 = q at hq
  have all : ∀ q : Fin 16, pick (Str.ofString "?") (fun b => ((q.1 * 4096 : Nat) : Int) == b) [(40960, Str.ofString "l"), (49152, Str.ofString "s"), (32768, Str.ofString "-"), (24576, Str.ofString "b"), (16384, Str.ofString "d"), (8192, Str.ofString "c"), (4096, Str.ofString "p")]
      = if (q.1 : Int) = 8 then Str.ofString "-" else if (q.1 : Int) = 6 then Str.ofString "b" else if (q.1 : Int) = 2 then Str.ofString "c" else if (q.1 : Int) = 4 then Str.ofString "d" else
        if (q.1 : Int) = 10 then Str.ofString "l" else if (q.1 : Int) = 1 then Str.ofString "p" else if (q.1 : Int) = 12 then Str.ofString "s" else Str.ofString "?" := by decide +kernel
  exact all ⟨q, hq⟩
theorem s_one {md : Int} (h0 : 0 ≤ md) (i k : Nat) (b : Int) (c : Str) (hb : b = ((2 ^ k : Nat) : Int)) : sign md (i + 1) [(b, c)] = if md.toNat / 2 ^ k % 2 = 1 then c else Str.ofString "-" := by
  unfold sign
  rw [if_neg (by omega)]
  simp only [pick, and_one h0 k b hb, decide_eq_true_eq]
theorem s_three {md : Int} (h0 : 0 ≤ md) (i j k : Nat) (b1 b2 b3 : Int) (c1 c2 c3 : Str) (hb1 : b1 = ((2 ^ j ||| 2 ^ k : Nat) : Int)) (hb2 : b2 = ((2 ^ k : Nat) : Int)) (hb3 : b3 = ((2 ^ j : Nat) : Int))
    (hjk : ∀ x : Fin 2, ∀ y : Fin 2, (x.1 * 2 ^ j ||| y.1 * 2 ^ k) = (2 ^ j ||| 2 ^ k) ↔ x.1 = 1 ∧ y.1 = 1) :
    sign md (i + 1) [(b1, c1), (b2, c2), (b3, c3)] = if md.toNat / 2 ^ j % 2 = 1 ∧ md.toNat / 2 ^ k % 2 = 1 then c1 else if md.toNat / 2 ^ k % 2 = 1 then c2 else if md.toNat / 2 ^ j % 2 = 1 then c3 else Str.ofString "-" := by
  unfold sign
  rw [if_neg (by omega)]
  simp only [pick, and_one h0 k b2 hb2, and_one h0 j b3 hb3, and_two h0 j k b1 hb1 (two_of hjk), decide_eq_true_eq]
theorem it_r {md : Int} (h0 : 0 ≤ md) (p : Nat) (e : (8 : Int) ^ (p : Int).toNat = ((2 ^ (3 * p) : Nat) : Int)) (x : Nat) (hx : x = md.toNat / 2 ^ (3 * p) / 4 % 2) :
    Txt.item (Str.ofString "-r") (((md.fdiv (8 ^ (p : Int).toNat)).fmod 8).fdiv 4) = if x = 1 then Str.ofString "r" else Str.ofString "-" := by
  have hm : md.fdiv (8 ^ (p : Int).toNat) = ((md.toNat / 2 ^ (3 * p) : Nat) : Int) := by
    rw [e, Int.fdiv_eq_ediv_of_nonneg _ (Int.natCast_nonneg _), Int.natCast_ediv, Int.toNat_of_nonneg h0]
  have hv : ((md.fdiv (8 ^ (p : Int).toNat)).fmod 8).fdiv 4 = ((x : Nat) : Int) := by
    rw [hm, Int.fmod_eq_emod_of_nonneg _ (by decide), Int.fdiv_eq_ediv_of_nonneg _ (by decide)]
    generalize md.toNat / 2 ^ (3 * p) = q at hx ⊢
    omega
  rw [hv]
  have all : ∀ q : Fin 2, Txt.item (Str.ofString "-r") ((q.1 : Nat) : Int) = if q.1 = 1 then Str.ofString "r" else Str.ofString "-" := by decide +kernel
  exact all ⟨x, by omega⟩
theorem it_w {md : Int} (h0 : 0 ≤ md) (p : Nat) (e : (8 : Int) ^ (p : Int).toNat = ((2 ^ (3 * p) : Nat) : Int)) (x : Nat) (hx : x = md.toNat / 2 ^ (3 * p) / 2 % 2) :
    Txt.item (Str.ofString "-w") ((((md.fdiv (8 ^ (p : Int).toNat)).fmod 8).fdiv 2).fmod 2) = if x = 1 then Str.ofString "w" else Str.ofString "-" := by
  have hm : md.fdiv (8 ^ (p : Int).toNat) = ((md.toNat / 2 ^ (3 * p) : Nat) : Int) := by
    rw [e, Int.fdiv_eq_ediv_of_nonneg _ (Int.natCast_nonneg _), Int.natCast_ediv, Int.toNat_of_nonneg h0]
  have hv : (((md.fdiv (8 ^ (p : Int).toNat)).fmod 8).fdiv 2).fmod 2 = ((x : Nat) : Int) := by
    rw [hm, Int.fmod_eq_emod_of_nonneg _ (by decide), Int.fdiv_eq_ediv_of_nonneg _ (by decide), Int.fmod_eq_emod_of_nonneg _ (by decide)]
    generalize md.toNat / 2 ^ (3 * p) = q at hx ⊢
    omega
  rw [hv]
  have all : ∀ q : Fin 2, Txt.item (Str.ofString "-w") ((q.1 : Nat) : Int) = if q.1 = 1 then Str.ofString "w" else Str.ofString "-" := by decide +kernel
  exact all ⟨x, by omega⟩
theorem it_x {md : Int} (h0 : 0 ≤ md) (p : Nat) (mk c1 c2 : Str) (e : (8 : Int) ^ (p : Int).toNat = ((2 ^ (3 * p) : Nat) : Int)) (e' : (512 : Int) * 2 ^ (p : Int).toNat = ((2 ^ (9 + p) : Nat) : Int)) (x y : Nat) (hx : x = md.toNat / 2 ^ (3 * p) % 2) (hy : y = md.toNat / 2 ^ (9 + p) % 2)
    (all : ∀ x y : Fin 2, Txt.item mk (((y.1 : Nat) : Int) * 2 + ((x.1 : Nat) : Int)) = if x.1 = 1 ∧ y.1 = 1 then c1 else if y.1 = 1 then c2 else if x.1 = 1 then Str.ofString "x" else Str.ofString "-") :
    Txt.item mk ((md.fdiv (512 * 2 ^ (p : Int).toNat)).fmod 2 * 2 + ((md.fdiv (8 ^ (p : Int).toNat)).fmod 8).fmod 2) = if x = 1 ∧ y = 1 then c1 else if y = 1 then c2 else if x = 1 then Str.ofString "x" else Str.ofString "-" := by
  have hm : md.fdiv (8 ^ (p : Int).toNat) = ((md.toNat / 2 ^ (3 * p) : Nat) : Int) := by
    rw [e, Int.fdiv_eq_ediv_of_nonneg _ (Int.natCast_nonneg _), Int.natCast_ediv, Int.toNat_of_nonneg h0]
  have hm' : md.fdiv (512 * 2 ^ (p : Int).toNat) = ((md.toNat / 2 ^ (9 + p) : Nat) : Int) := by
    rw [e', Int.fdiv_eq_ediv_of_nonneg _ (Int.natCast_nonneg _), Int.natCast_ediv, Int.toNat_of_nonneg h0]
  have hv1 : ((md.fdiv (8 ^ (p : Int).toNat)).fmod 8).fmod 2 = ((x : Nat) : Int) := by
    rw [hm, Int.fmod_eq_emod_of_nonneg _ (by decide), Int.fmod_eq_emod_of_nonneg _ (by decide)]
    generalize md.toNat / 2 ^ (3 * p) = q at hx ⊢
    omega
  have hv2 : (md.fdiv (512 * 2 ^ (p : Int).toNat)).fmod 2 = ((y : Nat) : Int) := by
    rw [hm', Int.fmod_eq_emod_of_nonneg _ (by decide)]
    generalize md.toNat / 2 ^ (9 + p) = q at hy ⊢
    omega
  rw [hv1, hv2]
  exact all ⟨x, by omega⟩ ⟨y, by omega⟩
theorem join_nil_cons (a b : Str) (r : List Str) : Str.join (Str.ofString "") (a :: b :: r) = a ++ Str.join (Str.ofString "") (b :: r) := by
  apply PyProof.Rows.str_of_list
  have e : (Str.ofString "").cps = #[] := by decide
  show (((a ++ Str.ofString "") ++ Str.join (Str.ofString "") (b :: r)).cps).toList = _
  show ((a.cps ++ (Str.ofString "").cps) ++ (Str.join (Str.ofString "") (b :: r)).cps).toList = (a.cps ++ (Str.join (Str.ofString "") (b :: r)).cps).toList
  rw [e]; simp
theorem app_assoc (a b c : Str) : a ++ (b ++ c) = (a ++ b) ++ c := by
  apply PyProof.Rows.str_of_list
  show (a.cps ++ (b.cps ++ c.cps)).toList = ((a.cps ++ b.cps) ++ c.cps).toList
  rw [Array.append_assoc]
theorem join10 (a b c d e f g h i j : Str) : Txt.join (Str.ofString "") [a, b, c, d, e, f, g, h, i, j] = a ++ b ++ c ++ d ++ e ++ f ++ g ++ h ++ i ++ j := by
  show Builtin.Str.glued (Str.ofString "") [a, b, c, d, e, f, g, h, i, j] = _
  rw [StrLaws.glued_eq_join]
  simp only [join_nil_cons]
  show a ++ (b ++ (c ++ (d ++ (e ++ (f ++ (g ++ (h ++ (i ++ j)))))))) = _
  simp only [app_assoc]
theorem fm_eq (md : Int) (h0 : 0 ≤ md) (h1 : md < 65536) : Txt.join (Str.ofString "") (signsOf md) = lsg3 md := by
  have e : signsOf md = [sign md 0 [(40960, Str.ofString "l"), (49152, Str.ofString "s"), (32768, Str.ofString "-"), (24576, Str.ofString "b"), (16384, Str.ofString "d"), (8192, Str.ofString "c"), (4096, Str.ofString "p")],
      sign md (0 + 1) [(256, Str.ofString "r")], sign md (1 + 1) [(128, Str.ofString "w")], sign md (2 + 1) [(2112, Str.ofString "s"), (2048, Str.ofString "S"), (64, Str.ofString "x")],
      sign md (3 + 1) [(32, Str.ofString "r")], sign md (4 + 1) [(16, Str.ofString "w")], sign md (5 + 1) [(1032, Str.ofString "s"), (1024, Str.ofString "S"), (8, Str.ofString "x")],
      sign md (6 + 1) [(4, Str.ofString "r")], sign md (7 + 1) [(2, Str.ofString "w")], sign md (8 + 1) [(513, Str.ofString "t"), (512, Str.ofString "T"), (1, Str.ofString "x")]] := rfl
  rw [e, join10, s_kind h0 h1]
  rw [s_one h0 0 8 256 _ (by decide), s_one h0 1 7 128 _ (by decide), s_three h0 2 6 11 2112 2048 64 _ _ _ (by decide) (by decide) (by decide) (by decide +kernel)]
  rw [s_one h0 3 5 32 _ (by decide), s_one h0 4 4 16 _ (by decide), s_three h0 5 3 10 1032 1024 8 _ _ _ (by decide) (by decide) (by decide) (by decide +kernel)]
  rw [s_one h0 6 2 4 _ (by decide), s_one h0 7 1 2 _ (by decide), s_three h0 8 0 9 513 512 1 _ _ _ (by decide) (by decide) (by decide) (by decide +kernel)]
  unfold lsg3 lsg2 lsg1 addT
  have r2 := it_r h0 2 (by decide) (md.toNat / 2 ^ 8 % 2) (congrArg (· % 2) (Nat.div_div_eq_div_mul md.toNat (2 ^ (3 * 2)) 4).symm)
  have r1 := it_r h0 1 (by decide) (md.toNat / 2 ^ 5 % 2) (congrArg (· % 2) (Nat.div_div_eq_div_mul md.toNat (2 ^ (3 * 1)) 4).symm)
  have r0 := it_r h0 0 (by decide) (md.toNat / 2 ^ 2 % 2) (congrArg (· % 2) (Nat.div_div_eq_div_mul md.toNat (2 ^ (3 * 0)) 4).symm)
  have w2 := it_w h0 2 (by decide) (md.toNat / 2 ^ 7 % 2) (congrArg (· % 2) (Nat.div_div_eq_div_mul md.toNat (2 ^ (3 * 2)) 2).symm)
  have w1 := it_w h0 1 (by decide) (md.toNat / 2 ^ 4 % 2) (congrArg (· % 2) (Nat.div_div_eq_div_mul md.toNat (2 ^ (3 * 1)) 2).symm)
  have w0 := it_w h0 0 (by decide) (md.toNat / 2 ^ 1 % 2) (congrArg (· % 2) (Nat.div_div_eq_div_mul md.toNat (2 ^ (3 * 0)) 2).symm)
  have x2 := it_x h0 2 (Str.ofString "-xSs") (Str.ofString "s") (Str.ofString "S") (by decide) (by decide) (md.toNat / 2 ^ 6 % 2) (md.toNat / 2 ^ 11 % 2) rfl rfl (by decide +kernel)
  have x1 := it_x h0 1 (Str.ofString "-xSs") (Str.ofString "s") (Str.ofString "S") (by decide) (by decide) (md.toNat / 2 ^ 3 % 2) (md.toNat / 2 ^ 10 % 2) rfl rfl (by decide +kernel)
  have x0 := it_x h0 0 (Str.ofString "-xTt") (Str.ofString "t") (Str.ofString "T") (by decide) (by decide) (md.toNat / 2 ^ 0 % 2) (md.toNat / 2 ^ 9 % 2) rfl rfl (by decide +kernel)
  rw [← r2, ← r1, ← r0, ← w2, ← w1, ← w0, ← x2, ← x1, ← x0]
  rfl

end

section
/-! part M11 -/
theorem fillx11 : PySem.Challenge.rw_ny0133_01 = PySem.Challenge.rw_ny0133_01 ∧ hd.heap_39 = hd.heap_39 := by k_fill; w_top off; exact ⟨rfl, rfl⟩
set_option maxRecDepth 100000 in
set_option maxHeartbeats 8000000 in
theorem main : PySem.Challenge.rw_ny0133_01.Holds := hd (by
  k_fill
  intro w s₀ s₁ mg mb G Y fa o pm cd doc dV kV ho hd' hcd hD hmg hg args vals as hpre hlay hrd hwl hlo
  have KX := kIn_of Y
  have X := (Ground.X G).1
  have V := (Ground.X G).2
  refine Ground.open G ?_
  intro T B D TE TW
  try (refine guard_noD D (by decide +kernel) ?_; clear D)
  wrow_args hpre hlay hrd hwl hlo
  rename_i ns hs hlay0 hL1 hr1 hl2 as4 as3 l svs as0 hL ra w1 r0 hI hr hc1 hc2
  have K0 : Below callerA s₁.heap [] s₁.heap := below_caller _
  refine enter_callC ?_
  refine codeC_mono (R := fun r s' => r = .ok (.ret (.bool true)) ∧ ∃ h' tk, s' = { s₁ with heap := h', toks := tk } ∧ ∀ b o, s₁.heap.get? b = some o → h'.get? b = some o) ?ka ?kb
  case kb =>
    rintro r s' ⟨rfl, h', tk, rfl, k⟩
    refine GoodW.toG ⟨.inl ⟨_, _, _, rfl, raisesW_false (by wrow_none_raised), (by w_reads), postW_of (by wrow_shape) (by wtm_val) (by str_meet; first | done | w_fin), ?_⟩, k, rfl, hg⟩
    first | exact unshared_nil | exact fun h => absurd h (by decide)
  have he := Dflts.none hD rfl; subst he
  refine call_fullC (by decide) ho hd' (Top.nolimit T) hcd (BindsTo.of_eq rfl) (locs rfl) fun h₁ F => ?_
  w_binds F
  have N0 := (News.nil : News _ _ _ []).at F
  dsimp only
  generalize s₁.heap.objs.size = L at F N0 ⊢
  clear hD hd' ho hcd hmg TE TW B V X Y G hr w1 r0 ra
  obtain ⟨Q₁, hQ₁⟩ : ∃ Q₁ : Shared → Prop, Q₁ = fun s' => ∃ h tk mm a us, s' = { s₁ with heap := h, toks := tk } ∧ Fr s₁.heap L h mm ∧ News s₁.heap L h [(a, W.listOf (List.toArray us) 0)] ∧ IntsAre us (mdsOf ns) ∧ mm (Str.ofString "modes") = some (.ref a) := ⟨_, rfl⟩
  refine cutC Q₁ ?_ ?_
  · (repeat' (first | (k_unfold; (try dsimp only)) | (((fail_if_success (with_reducible first | show LCg.CompSrc _ _ _ _ _ _ _ _ _ _ _ _ _ _ | show wpAny _ _ (exec (Stmt.While _ _ _ _) _) _ _ _ | show wpAny _ _ (call (Value.ref _) _ _) _ _ _ | show wpAny _ _ (exec (Stmt.For _ _ _ _ _) _) _ _ _ | show wpAny _ _ (call (Value.builtin "list.append") _ _) _ _ _ | show wpAny _ _ (eval (Expr.ListComp _ _ _ _) _) _ _ _ | show wpAny _ _ (subscriptTail _ _ (Value.str _ _) _) _ _ _ | show wpAny _ _ (binaryOp Operator.Add (Value.str _ _) (Value.str _ _)) _ _ _ | show wpAny _ _ (call (Value.builtin "sorted") _ _) _ _ _ | show wpAny _ _ (exec (Stmt.Assign _ (Expr.ListComp _ _ _ _) _) _) _ _ _ | show wpAny _ _ (call (Value.type "range") [_] _) _ _ _ | show wpAny _ _ (call (Value.type "bytes") _ _) _ _ _ | show wpAny _ _ (storeName _ _ (Value.ref _)) _ _ _ | show wpAny _ _ (subscriptTail _ _ (Value.bytes _ _) _) _ _ _ | show wpAny _ _ (subscriptTail _ _ (Value.ref _) _) _ _ _ | show wpAny _ _ (binaryOp _ (Value.ref _) (Value.ref _)) _ _ _ | show wpAny _ _ (compareOp _ (Value.ref _) (Value.ref _)) _ _ _ | show wpAny _ _ (compareOp _ (Value.bytes _ _) (Value.bytes _ _)) _ _ _))); walk1; (try dsimp only))))
    rename Fr s₁.heap L _ _ => F₂
    rename News s₁.heap L _ _ => N₂
    refine LCg.ListComp_U (F₀ := F₂) (by with_unfolding_all rfl) (by decide) (by rfl) (by decide) (by rfl) ?_
    (repeat' (first | (k_unfold; (try dsimp only)) | (((fail_if_success (with_reducible first | show LCg.CompSrc _ _ _ _ _ _ _ _ _ _ _ _ _ _ | show wpAny _ _ (exec (Stmt.While _ _ _ _) _) _ _ _ | show wpAny _ _ (call (Value.ref _) _ _) _ _ _ | show wpAny _ _ (exec (Stmt.For _ _ _ _ _) _) _ _ _ | show wpAny _ _ (call (Value.builtin "list.append") _ _) _ _ _ | show wpAny _ _ (eval (Expr.ListComp _ _ _ _) _) _ _ _ | show wpAny _ _ (subscriptTail _ _ (Value.str _ _) _) _ _ _ | show wpAny _ _ (binaryOp Operator.Add (Value.str _ _) (Value.str _ _)) _ _ _ | show wpAny _ _ (call (Value.builtin "sorted") _ _) _ _ _ | show wpAny _ _ (exec (Stmt.Assign _ (Expr.ListComp _ _ _ _) _) _) _ _ _ | show wpAny _ _ (call (Value.type "range") [_] _) _ _ _ | show wpAny _ _ (call (Value.type "bytes") _ _) _ _ _ | show wpAny _ _ (storeName _ _ (Value.ref _)) _ _ _ | show wpAny _ _ (subscriptTail _ _ (Value.bytes _ _) _) _ _ _ | show wpAny _ _ (subscriptTail _ _ (Value.ref _) _) _ _ _ | show wpAny _ _ (binaryOp _ (Value.ref _) (Value.ref _)) _ _ _ | show wpAny _ _ (compareOp _ (Value.ref _) (Value.ref _)) _ _ _ | show wpAny _ _ (compareOp _ (Value.bytes _ _) (Value.bytes _ _)) _ _ _))); walk1; (try dsimp only))))
    have hl64 : svs.length ≤ 63 := by rw [hI.length]; omega
    refine kmk_slice_ints (s := ⟨_, _, _, _, _⟩) (ms := ns.take 4) (c := (ns.take 4).length) F₂ N₂ (Heap.IsList.at hL fun o e => F₂.keep _ o e) .none (.int _ _) hI (slice_ints_uptoW hI (by decide)) rfl ?_ (by with_unfolding_all rfl) (by intro _; with_unfolding_all rfl) (by rw [List.size_toArray, sizeLine_eq]; omega)
    intro Ds ws h₃ F₃ N₃ lDs hW _ _
    refine LCg.CompSrc.ledger (k := 0) (its := ws.toArray) rfl F₃ N₃ (.head _) (by rw [List.size_toArray, sizeLine_eq, hW.length]; have := List.length_take_le 4 ns; omega) fun g => ?_
    refine comp_ind (fun i ys news' => news' = _ ∧ ys.length = i ∧ (∀ (j : Nat) (v : Value), ys[j]? = some v → ∃ t : Tok, v = Value.int (((ns.take 4).getD j 0).fmod 65536) t)) ⟨rfl, rfl, fun j v h => nomatch h⟩ ?_ ?_
    · rintro i ys news' hi ⟨rfl, hyl, hS⟩ v I oI C oC D m₂ h₄ tk₄ E' hP hoC hm F₄ N₄ off hne
      obtain ⟨t, rfl⟩ := PyProof.Rows.IntsAre.int_at hW i v (by simpa using hP)
      (repeat' (first | (k_unfold; (try dsimp only)) | (((fail_if_success (with_reducible first | show LCg.CompSrc _ _ _ _ _ _ _ _ _ _ _ _ _ _ | show wpAny _ _ (exec (Stmt.While _ _ _ _) _) _ _ _ | show wpAny _ _ (call (Value.ref _) _ _) _ _ _ | show wpAny _ _ (exec (Stmt.For _ _ _ _ _) _) _ _ _ | show wpAny _ _ (call (Value.builtin "list.append") _ _) _ _ _ | show wpAny _ _ (eval (Expr.ListComp _ _ _ _) _) _ _ _ | show wpAny _ _ (subscriptTail _ _ (Value.str _ _) _) _ _ _ | show wpAny _ _ (binaryOp Operator.Add (Value.str _ _) (Value.str _ _)) _ _ _ | show wpAny _ _ (call (Value.builtin "sorted") _ _) _ _ _ | show wpAny _ _ (exec (Stmt.Assign _ (Expr.ListComp _ _ _ _) _) _) _ _ _ | show wpAny _ _ (call (Value.type "range") [_] _) _ _ _ | show wpAny _ _ (call (Value.type "bytes") _ _) _ _ _ | show wpAny _ _ (storeName _ _ (Value.ref _)) _ _ _ | show wpAny _ _ (subscriptTail _ _ (Value.bytes _ _) _) _ _ _ | show wpAny _ _ (subscriptTail _ _ (Value.ref _) _) _ _ _ | show wpAny _ _ (binaryOp _ (Value.ref _) (Value.ref _)) _ _ _ | show wpAny _ _ (compareOp _ (Value.ref _) (Value.ref _)) _ _ _ | show wpAny _ _ (compareOp _ (Value.bytes _ _) (Value.bytes _ _)) _ _ _))); walk1; (try dsimp only))))
      subst hyl
      refine ⟨h₄, _, _, rfl, F₄, N₄, off, .inr ⟨_, .head _, rfl, 0, rfl⟩, rfl, by simp, fun j v hv => ?_⟩
      rcases get_snoc hv with h1 | ⟨rfl, rfl⟩
      · exact hS j v h1
      · exact ⟨_, rfl⟩
    rintro ys news' ⟨rfl, hyl, hS⟩ D h₄ tk₄ F₄ N₄ off
    (repeat' (first | (k_unfold; (try dsimp only)) | (((fail_if_success (with_reducible first | show LCg.CompSrc _ _ _ _ _ _ _ _ _ _ _ _ _ _ | show wpAny _ _ (exec (Stmt.While _ _ _ _) _) _ _ _ | show wpAny _ _ (call (Value.ref _) _ _) _ _ _ | show wpAny _ _ (exec (Stmt.For _ _ _ _ _) _) _ _ _ | show wpAny _ _ (call (Value.builtin "list.append") _ _) _ _ _ | show wpAny _ _ (eval (Expr.ListComp _ _ _ _) _) _ _ _ | show wpAny _ _ (subscriptTail _ _ (Value.str _ _) _) _ _ _ | show wpAny _ _ (binaryOp Operator.Add (Value.str _ _) (Value.str _ _)) _ _ _ | show wpAny _ _ (call (Value.builtin "sorted") _ _) _ _ _ | show wpAny _ _ (exec (Stmt.Assign _ (Expr.ListComp _ _ _ _) _) _) _ _ _ | show wpAny _ _ (call (Value.type "range") [_] _) _ _ _ | show wpAny _ _ (call (Value.type "bytes") _ _) _ _ _ | show wpAny _ _ (storeName _ _ (Value.ref _)) _ _ _ | show wpAny _ _ (subscriptTail _ _ (Value.bytes _ _) _) _ _ _ | show wpAny _ _ (subscriptTail _ _ (Value.ref _) _) _ _ _ | show wpAny _ _ (binaryOp _ (Value.ref _) (Value.ref _)) _ _ _ | show wpAny _ _ (compareOp _ (Value.ref _) (Value.ref _)) _ _ _ | show wpAny _ _ (compareOp _ (Value.bytes _ _) (Value.bytes _ _)) _ _ _))); walk1; (try dsimp only))))
    have hys : IntsAre ys ((ns.take 4).map fun x => x.fmod 65536) := by
      refine ints_of (by rw [hyl, List.size_toArray, hW.length, List.length_map]) fun j v hv => ?_
      obtain ⟨t, e⟩ := hS j v hv
      have hj : j < (ns.take 4).length := by
        have := (List.getElem?_eq_some_iff.mp hv).1
        rw [hyl, List.size_toArray, hW.length] at this
        exact this
      refine ⟨t, ?_⟩
      rw [e, List.getD_eq_getElem?_getD, List.getD_eq_getElem?_getD, List.getElem?_map, List.getElem?_eq_getElem hj]
      rfl
    refine kmk_add_ints (ns := [33188, 33261, 35300, 16877, 35236]) F₄ N₄ (N₄.isList (.tail _ (.tail _ (.head _)))) (N₄.isList (.head _)) (.cons _ _ (.cons _ _ (.cons _ _ (.cons _ _ (.cons _ _ .nil))))) hys ?_ (by rw [sizeLine_eq, List.length_map]; have := List.length_take_le 4 ns; simp; omega)
    intro Da us h₅ F₅ N₅ lDa hU
    dsimp only
    walk1
    dsimp only
    rename Fr s₁.heap L _ _ => F₆
    rename News s₁.heap L _ _ => N₆
    refine ⟨by first | rfl | trivial, ?_⟩
    rw [hQ₁]
    exact ⟨_, _, _, Da, us, rfl, F₆, PyProof.Rows.News.perm N₆ (fun p hp => by rw [List.mem_singleton.mp hp]; exact .head _), hU, rfl⟩
  intro s' hs'
  rw [hQ₁] at hs'
  obtain ⟨h₂, tk₂, mm, a, us, rfl, F₂, N₂, hU, hmm⟩ := hs'
  rw [map1 hmm] at F₂
  have hul : us.length = (mdsOf ns).length := hU.length
  have hml : 5 ≤ (mdsOf ns).length ∧ (mdsOf ns).length ≤ 9 := by
    have := List.length_take_le 4 ns
    unfold mdsOf
    simp only [List.length_append, List.length_map, List.length_cons, List.length_nil]
    omega
  clear hQ₁ Q₁ N0 F hmm hI hL hs hlay0 hL1 hr1 hl2 as4 as3 as0
  obtain ⟨Q₂, hQ₂⟩ : ∃ Q₂ : Shared → Prop, Q₂ = fun s' => ∃ h tk mm t, s' = { s₁ with heap := h, toks := tk } ∧ Fr s₁.heap L h mm ∧ News s₁.heap L h [(a, W.listOf (List.toArray us) 0)] ∧ mm (Str.ofString "modes") = some (.ref a) ∧ mm (Str.ofString "row") = some (.bytes (rowL (mdsOf ns)).toArray t) := ⟨_, rfl⟩
  refine cutC Q₂ ?_ ?_
  · (repeat' (first | (k_unfold; (try dsimp only)) | (((fail_if_success (with_reducible first | show LCg.CompSrc _ _ _ _ _ _ _ _ _ _ _ _ _ _ | show wpAny _ _ (exec (Stmt.While _ _ _ _) _) _ _ _ | show wpAny _ _ (call (Value.ref _) _ _) _ _ _ | show wpAny _ _ (exec (Stmt.For _ _ _ _ _) _) _ _ _ | show wpAny _ _ (call (Value.builtin "list.append") _ _) _ _ _ | show wpAny _ _ (eval (Expr.ListComp _ _ _ _) _) _ _ _ | show wpAny _ _ (subscriptTail _ _ (Value.str _ _) _) _ _ _ | show wpAny _ _ (binaryOp Operator.Add (Value.str _ _) (Value.str _ _)) _ _ _ | show wpAny _ _ (call (Value.builtin "sorted") _ _) _ _ _ | show wpAny _ _ (exec (Stmt.Assign _ (Expr.ListComp _ _ _ _) _) _) _ _ _ | show wpAny _ _ (call (Value.type "range") [_] _) _ _ _ | show wpAny _ _ (call (Value.type "bytes") _ _) _ _ _ | show wpAny _ _ (storeName _ _ (Value.ref _)) _ _ _ | show wpAny _ _ (subscriptTail _ _ (Value.bytes _ _) _) _ _ _ | show wpAny _ _ (subscriptTail _ _ (Value.ref _) _) _ _ _ | show wpAny _ _ (binaryOp _ (Value.ref _) (Value.ref _)) _ _ _ | show wpAny _ _ (compareOp _ (Value.ref _) (Value.ref _)) _ _ _ | show wpAny _ _ (compareOp _ (Value.bytes _ _) (Value.bytes _ _)) _ _ _))); walk1; (try dsimp only))))
    refine comp_nest F₂ (by with_unfolding_all rfl) (by decide) (by rfl) (by decide) (by rfl) (by rfl) (by decide) ?_
    (repeat' (first | (k_unfold; (try dsimp only)) | (((fail_if_success (with_reducible first | show LCg.CompSrc _ _ _ _ _ _ _ _ _ _ _ _ _ _ | show wpAny _ _ (exec (Stmt.While _ _ _ _) _) _ _ _ | show wpAny _ _ (call (Value.ref _) _ _) _ _ _ | show wpAny _ _ (exec (Stmt.For _ _ _ _ _) _) _ _ _ | show wpAny _ _ (call (Value.builtin "list.append") _ _) _ _ _ | show wpAny _ _ (eval (Expr.ListComp _ _ _ _) _) _ _ _ | show wpAny _ _ (subscriptTail _ _ (Value.str _ _) _) _ _ _ | show wpAny _ _ (binaryOp Operator.Add (Value.str _ _) (Value.str _ _)) _ _ _ | show wpAny _ _ (call (Value.builtin "sorted") _ _) _ _ _ | show wpAny _ _ (exec (Stmt.Assign _ (Expr.ListComp _ _ _ _) _) _) _ _ _ | show wpAny _ _ (call (Value.type "range") [_] _) _ _ _ | show wpAny _ _ (call (Value.type "bytes") _ _) _ _ _ | show wpAny _ _ (storeName _ _ (Value.ref _)) _ _ _ | show wpAny _ _ (subscriptTail _ _ (Value.bytes _ _) _) _ _ _ | show wpAny _ _ (subscriptTail _ _ (Value.ref _) _) _ _ _ | show wpAny _ _ (binaryOp _ (Value.ref _) (Value.ref _)) _ _ _ | show wpAny _ _ (compareOp _ (Value.ref _) (Value.ref _)) _ _ _ | show wpAny _ _ (compareOp _ (Value.bytes _ _) (Value.bytes _ _)) _ _ _))); walk1; (try dsimp only))))
    refine ⟨a, us.toArray, _, rfl, rfl, F₂, N₂, by rw [List.size_toArray, sizeLine_eq]; omega, .inr ⟨_, .head _, rfl, 0, rfl⟩, OcAre (mdsOf ns), ⟨rfl, fun j v h => nomatch h⟩, ?_, ?_, ?_⟩
    · rintro i v ys I oI C oC D m₂ h₃ tk₃ E' hv hm hoC F₃ N₃ off hne
      (repeat' (first | (k_unfold; (try dsimp only)) | (((fail_if_success (with_reducible first | show LCg.CompSrc _ _ _ _ _ _ _ _ _ _ _ _ _ _ | show wpAny _ _ (exec (Stmt.While _ _ _ _) _) _ _ _ | show wpAny _ _ (call (Value.ref _) _ _) _ _ _ | show wpAny _ _ (exec (Stmt.For _ _ _ _ _) _) _ _ _ | show wpAny _ _ (call (Value.builtin "list.append") _ _) _ _ _ | show wpAny _ _ (eval (Expr.ListComp _ _ _ _) _) _ _ _ | show wpAny _ _ (subscriptTail _ _ (Value.str _ _) _) _ _ _ | show wpAny _ _ (binaryOp Operator.Add (Value.str _ _) (Value.str _ _)) _ _ _ | show wpAny _ _ (call (Value.builtin "sorted") _ _) _ _ _ | show wpAny _ _ (exec (Stmt.Assign _ (Expr.ListComp _ _ _ _) _) _) _ _ _ | show wpAny _ _ (call (Value.type "range") [_] _) _ _ _ | show wpAny _ _ (call (Value.type "bytes") _ _) _ _ _ | show wpAny _ _ (storeName _ _ (Value.ref _)) _ _ _ | show wpAny _ _ (subscriptTail _ _ (Value.bytes _ _) _) _ _ _ | show wpAny _ _ (subscriptTail _ _ (Value.ref _) _) _ _ _ | show wpAny _ _ (binaryOp _ (Value.ref _) (Value.ref _)) _ _ _ | show wpAny _ _ (compareOp _ (Value.ref _) (Value.ref _)) _ _ _ | show wpAny _ _ (compareOp _ (Value.bytes _ _) (Value.bytes _ _)) _ _ _))); walk1; (try dsimp only))))
      refine range1_rows F₃ N₃ ?_
      intro h₄ tk₄ t4 u4 v4 hr4 F₄ N₄ _
      exact ⟨_, _, _, _, _, _, rfl, rfl, F₄, N₄, hr4⟩
    · rintro i j v t ys I oI C oC D m₂ h₃ tk₃ E' hv hj hOc hm hmk hoC F₃ N₃ off hne
      obtain ⟨tv, rfl⟩ := PyProof.Rows.IntsAre.int_at hU i v (by simpa using hv)
      obtain rfl | rfl : j = 0 ∨ j = 1 := by omega
      · replace hmk : m₂ (Str.ofString "k") = some (.int 0 t) := hmk
        (repeat' (first | (k_unfold; (try dsimp only)) | (((fail_if_success (with_reducible first | show LCg.CompSrc _ _ _ _ _ _ _ _ _ _ _ _ _ _ | show wpAny _ _ (exec (Stmt.While _ _ _ _) _) _ _ _ | show wpAny _ _ (call (Value.ref _) _ _) _ _ _ | show wpAny _ _ (exec (Stmt.For _ _ _ _ _) _) _ _ _ | show wpAny _ _ (call (Value.builtin "list.append") _ _) _ _ _ | show wpAny _ _ (eval (Expr.ListComp _ _ _ _) _) _ _ _ | show wpAny _ _ (subscriptTail _ _ (Value.str _ _) _) _ _ _ | show wpAny _ _ (binaryOp Operator.Add (Value.str _ _) (Value.str _ _)) _ _ _ | show wpAny _ _ (call (Value.builtin "sorted") _ _) _ _ _ | show wpAny _ _ (exec (Stmt.Assign _ (Expr.ListComp _ _ _ _) _) _) _ _ _ | show wpAny _ _ (call (Value.type "range") [_] _) _ _ _ | show wpAny _ _ (call (Value.type "bytes") _ _) _ _ _ | show wpAny _ _ (storeName _ _ (Value.ref _)) _ _ _ | show wpAny _ _ (subscriptTail _ _ (Value.bytes _ _) _) _ _ _ | show wpAny _ _ (subscriptTail _ _ (Value.ref _) _) _ _ _ | show wpAny _ _ (binaryOp _ (Value.ref _) (Value.ref _)) _ _ _ | show wpAny _ _ (compareOp _ (Value.ref _) (Value.ref _)) _ _ _ | show wpAny _ _ (compareOp _ (Value.bytes _ _) (Value.bytes _ _)) _ _ _))); walk1; (try dsimp only))))
        all_goals first | rfl | exact hOc.snoc (oct0 _ i).symm
      · replace hmk : m₂ (Str.ofString "k") = some (.int 1 t) := hmk
        (repeat' (first | (k_unfold; (try dsimp only)) | (((fail_if_success (with_reducible first | show LCg.CompSrc _ _ _ _ _ _ _ _ _ _ _ _ _ _ | show wpAny _ _ (exec (Stmt.While _ _ _ _) _) _ _ _ | show wpAny _ _ (call (Value.ref _) _ _) _ _ _ | show wpAny _ _ (exec (Stmt.For _ _ _ _ _) _) _ _ _ | show wpAny _ _ (call (Value.builtin "list.append") _ _) _ _ _ | show wpAny _ _ (eval (Expr.ListComp _ _ _ _) _) _ _ _ | show wpAny _ _ (subscriptTail _ _ (Value.str _ _) _) _ _ _ | show wpAny _ _ (binaryOp Operator.Add (Value.str _ _) (Value.str _ _)) _ _ _ | show wpAny _ _ (call (Value.builtin "sorted") _ _) _ _ _ | show wpAny _ _ (exec (Stmt.Assign _ (Expr.ListComp _ _ _ _) _) _) _ _ _ | show wpAny _ _ (call (Value.type "range") [_] _) _ _ _ | show wpAny _ _ (call (Value.type "bytes") _ _) _ _ _ | show wpAny _ _ (storeName _ _ (Value.ref _)) _ _ _ | show wpAny _ _ (subscriptTail _ _ (Value.bytes _ _) _) _ _ _ | show wpAny _ _ (subscriptTail _ _ (Value.ref _) _) _ _ _ | show wpAny _ _ (binaryOp _ (Value.ref _) (Value.ref _)) _ _ _ | show wpAny _ _ (compareOp _ (Value.ref _) (Value.ref _)) _ _ _ | show wpAny _ _ (compareOp _ (Value.bytes _ _) (Value.bytes _ _)) _ _ _))); walk1; (try dsimp only))))
        all_goals first | rfl | exact hOc.snoc (oct1 _ i).symm
    · rintro ys hOc D h₃ tk₃ F₃ N₃ off
      rw [List.size_toArray, hul] at hOc
      (repeat' (first | (k_unfold; (try dsimp only)) | (((fail_if_success (with_reducible first | show LCg.CompSrc _ _ _ _ _ _ _ _ _ _ _ _ _ _ | show wpAny _ _ (exec (Stmt.While _ _ _ _) _) _ _ _ | show wpAny _ _ (call (Value.ref _) _ _) _ _ _ | show wpAny _ _ (exec (Stmt.For _ _ _ _ _) _) _ _ _ | show wpAny _ _ (call (Value.builtin "list.append") _ _) _ _ _ | show wpAny _ _ (eval (Expr.ListComp _ _ _ _) _) _ _ _ | show wpAny _ _ (subscriptTail _ _ (Value.str _ _) _) _ _ _ | show wpAny _ _ (binaryOp Operator.Add (Value.str _ _) (Value.str _ _)) _ _ _ | show wpAny _ _ (call (Value.builtin "sorted") _ _) _ _ _ | show wpAny _ _ (exec (Stmt.Assign _ (Expr.ListComp _ _ _ _) _) _) _ _ _ | show wpAny _ _ (call (Value.type "range") [_] _) _ _ _ | show wpAny _ _ (call (Value.type "bytes") _ _) _ _ _ | show wpAny _ _ (storeName _ _ (Value.ref _)) _ _ _ | show wpAny _ _ (subscriptTail _ _ (Value.bytes _ _) _) _ _ _ | show wpAny _ _ (subscriptTail _ _ (Value.ref _) _) _ _ _ | show wpAny _ _ (binaryOp _ (Value.ref _) (Value.ref _)) _ _ _ | show wpAny _ _ (compareOp _ (Value.ref _) (Value.ref _)) _ _ _ | show wpAny _ _ (compareOp _ (Value.bytes _ _) (Value.bytes _ _)) _ _ _))); walk1; (try dsimp only))))
      refine call_bytes_ints (N₃.isList (.head _)) hOc.ints (fun n hn => ?_) (by rw [hOc.1, sizeLine_eq]; omega) rfl ?_
      · obtain ⟨q, _, rfl⟩ := List.mem_map.mp hn
        exact oct_in _ q
      intro h₄ t4 k4 keep
      have F₄ := F₃.keeps keep
      have N₄ := N₃.grown keep
      dsimp only
      (repeat' (first | (k_unfold; (try dsimp only)) | (((fail_if_success (with_reducible first | show LCg.CompSrc _ _ _ _ _ _ _ _ _ _ _ _ _ _ | show wpAny _ _ (exec (Stmt.While _ _ _ _) _) _ _ _ | show wpAny _ _ (call (Value.ref _) _ _) _ _ _ | show wpAny _ _ (exec (Stmt.For _ _ _ _ _) _) _ _ _ | show wpAny _ _ (call (Value.builtin "list.append") _ _) _ _ _ | show wpAny _ _ (eval (Expr.ListComp _ _ _ _) _) _ _ _ | show wpAny _ _ (subscriptTail _ _ (Value.str _ _) _) _ _ _ | show wpAny _ _ (binaryOp Operator.Add (Value.str _ _) (Value.str _ _)) _ _ _ | show wpAny _ _ (call (Value.builtin "sorted") _ _) _ _ _ | show wpAny _ _ (exec (Stmt.Assign _ (Expr.ListComp _ _ _ _) _) _) _ _ _ | show wpAny _ _ (call (Value.type "range") [_] _) _ _ _ | show wpAny _ _ (call (Value.type "bytes") _ _) _ _ _ | show wpAny _ _ (storeName _ _ (Value.ref _)) _ _ _ | show wpAny _ _ (subscriptTail _ _ (Value.bytes _ _) _) _ _ _ | show wpAny _ _ (subscriptTail _ _ (Value.ref _) _) _ _ _ | show wpAny _ _ (binaryOp _ (Value.ref _) (Value.ref _)) _ _ _ | show wpAny _ _ (compareOp _ (Value.ref _) (Value.ref _)) _ _ _ | show wpAny _ _ (compareOp _ (Value.bytes _ _) (Value.bytes _ _)) _ _ _))); walk1; (try dsimp only))))
      rename Fr s₁.heap L _ _ => F₅
      rename News s₁.heap L _ _ => N₅
      rw [hQ₂]
      exact ⟨_, _, _, _, rfl, F₅, PyProof.Rows.News.perm N₅ (fun p hp => by rw [List.mem_singleton.mp hp]; exact .tail _ (.head _)), rfl, rfl⟩
  intro s' hs'
  rw [hQ₂] at hs'
  obtain ⟨h₃, tk₃, mm, tr, rfl, F₃, N₃, hm1, hm2⟩ := hs'
  rw [map2 hm1 hm2] at F₃
  have hrl : (rowL (mdsOf ns)).length = 2 * (mdsOf ns).length := row_len _
  have hr1 : (rowL (mdsOf ns)).length < 1000 := by omega
  have hr2 : (rowL (mdsOf ns)).length % 2 = 0 := by omega
  have hr3 : us.toArray.size ≤ sizeLine := by rw [List.size_toArray, sizeLine_eq]; omega
  clear hQ₂ Q₂ F₂ N₂ hm1 hm2
  obtain ⟨Q₃, hQ₃⟩ : ∃ Q₃ : Shared → Prop, Q₃ = fun s' => ∃ h tk mm t t', s' = { s₁ with heap := h, toks := tk } ∧ Fr s₁.heap L h mm ∧ News s₁.heap L h [(a, W.listOf (List.toArray us) 0)] ∧ mm (Str.ofString "modes") = some (.ref a) ∧ mm (Str.ofString "row") = some (.bytes (rowL (mdsOf ns)).toArray t) ∧ mm (Str.ofString "turned") = some (.bytes (swl (rowL (mdsOf ns))).toArray t') := ⟨_, rfl⟩
  refine cutCC Q₃ (wpC_Assign_Name (wpC_Call_Name ?_) rfl) ?_
  · (repeat' (first | (k_unfold; (try dsimp only)) | (((fail_if_success (with_reducible first | show LCg.CompSrc _ _ _ _ _ _ _ _ _ _ _ _ _ _ | show wpAny _ _ (exec (Stmt.While _ _ _ _) _) _ _ _ | show wpAny _ _ (call (Value.ref _) _ _) _ _ _ | show wpAny _ _ (exec (Stmt.For _ _ _ _ _) _) _ _ _ | show wpAny _ _ (call (Value.builtin "list.append") _ _) _ _ _ | show wpAny _ _ (eval (Expr.ListComp _ _ _ _) _) _ _ _ | show wpAny _ _ (subscriptTail _ _ (Value.str _ _) _) _ _ _ | show wpAny _ _ (binaryOp Operator.Add (Value.str _ _) (Value.str _ _)) _ _ _ | show wpAny _ _ (call (Value.builtin "sorted") _ _) _ _ _ | show wpAny _ _ (exec (Stmt.Assign _ (Expr.ListComp _ _ _ _) _) _) _ _ _ | show wpAny _ _ (call (Value.type "range") [_] _) _ _ _ | show wpAny _ _ (call (Value.type "bytes") _ _) _ _ _ | show wpAny _ _ (storeName _ _ (Value.ref _)) _ _ _ | show wpAny _ _ (subscriptTail _ _ (Value.bytes _ _) _) _ _ _ | show wpAny _ _ (subscriptTail _ _ (Value.ref _) _) _ _ _ | show wpAny _ _ (binaryOp _ (Value.ref _) (Value.ref _)) _ _ _ | show wpAny _ _ (compareOp _ (Value.ref _) (Value.ref _)) _ _ _ | show wpAny _ _ (compareOp _ (Value.bytes _ _) (Value.bytes _ _)) _ _ _))); walk1; (try dsimp only))))
    refine callWith_CK KX (by k_is) ?_
    (repeat' (first | (k_unfold; (try dsimp only)) | (((fail_if_success (with_reducible first | show LCg.CompSrc _ _ _ _ _ _ _ _ _ _ _ _ _ _ | show wpAny _ _ (exec (Stmt.While _ _ _ _) _) _ _ _ | show wpAny _ _ (call (Value.ref _) _ _) _ _ _ | show wpAny _ _ (exec (Stmt.For _ _ _ _ _) _) _ _ _ | show wpAny _ _ (call (Value.builtin "list.append") _ _) _ _ _ | show wpAny _ _ (eval (Expr.ListComp _ _ _ _) _) _ _ _ | show wpAny _ _ (subscriptTail _ _ (Value.str _ _) _) _ _ _ | show wpAny _ _ (binaryOp Operator.Add (Value.str _ _) (Value.str _ _)) _ _ _ | show wpAny _ _ (call (Value.builtin "sorted") _ _) _ _ _ | show wpAny _ _ (exec (Stmt.Assign _ (Expr.ListComp _ _ _ _) _) _) _ _ _ | show wpAny _ _ (call (Value.type "range") [_] _) _ _ _ | show wpAny _ _ (call (Value.type "bytes") _ _) _ _ _ | show wpAny _ _ (storeName _ _ (Value.ref _)) _ _ _ | show wpAny _ _ (subscriptTail _ _ (Value.bytes _ _) _) _ _ _ | show wpAny _ _ (subscriptTail _ _ (Value.ref _) _) _ _ _ | show wpAny _ _ (binaryOp _ (Value.ref _) (Value.ref _)) _ _ _ | show wpAny _ _ (compareOp _ (Value.ref _) (Value.ref _)) _ _ _ | show wpAny _ _ (compareOp _ (Value.bytes _ _) (Value.bytes _ _)) _ _ _))); walk1; (try dsimp only))))
    refine wpC_call (byteswap K0 F₃ KX N₃ T (Around.frames_deeper K0.stack) rfl rfl (by show callerA.depth + 1 < recursionLimit; decide) rfl hr1 hr2 fun h₄ tk₄ t4 F₄ N₄ => ?_)
    dsimp only
    (repeat' (first | (k_unfold; (try dsimp only)) | (((fail_if_success (with_reducible first | show LCg.CompSrc _ _ _ _ _ _ _ _ _ _ _ _ _ _ | show wpAny _ _ (exec (Stmt.While _ _ _ _) _) _ _ _ | show wpAny _ _ (call (Value.ref _) _ _) _ _ _ | show wpAny _ _ (exec (Stmt.For _ _ _ _ _) _) _ _ _ | show wpAny _ _ (call (Value.builtin "list.append") _ _) _ _ _ | show wpAny _ _ (eval (Expr.ListComp _ _ _ _) _) _ _ _ | show wpAny _ _ (subscriptTail _ _ (Value.str _ _) _) _ _ _ | show wpAny _ _ (binaryOp Operator.Add (Value.str _ _) (Value.str _ _)) _ _ _ | show wpAny _ _ (call (Value.builtin "sorted") _ _) _ _ _ | show wpAny _ _ (exec (Stmt.Assign _ (Expr.ListComp _ _ _ _) _) _) _ _ _ | show wpAny _ _ (call (Value.type "range") [_] _) _ _ _ | show wpAny _ _ (call (Value.type "bytes") _ _) _ _ _ | show wpAny _ _ (storeName _ _ (Value.ref _)) _ _ _ | show wpAny _ _ (subscriptTail _ _ (Value.bytes _ _) _) _ _ _ | show wpAny _ _ (subscriptTail _ _ (Value.ref _) _) _ _ _ | show wpAny _ _ (binaryOp _ (Value.ref _) (Value.ref _)) _ _ _ | show wpAny _ _ (compareOp _ (Value.ref _) (Value.ref _)) _ _ _ | show wpAny _ _ (compareOp _ (Value.bytes _ _) (Value.bytes _ _)) _ _ _))); walk1; (try dsimp only))))
    rename Fr s₁.heap L _ _ => F₅
    rename News s₁.heap L _ _ => N₅
    rw [hQ₃]
    exact ⟨_, _, _, _, _, rfl, F₅, N₅, rfl, rfl, rfl⟩
  intro s' hs'
  rw [hQ₃] at hs'
  obtain ⟨h₄, tk₄, mm, tr', tt, rfl, F₄, N₄, hm1, hm2, hm3⟩ := hs'
  rw [map3 hm1 hm2 hm3] at F₄
  have hsl : (swl (rowL (mdsOf ns))).length = 2 * (mdsOf ns).length := by rw [swl_len, hrl]
  have hs1 : (swl (rowL (mdsOf ns))).length < 1000 := by rw [swl_len]; exact hr1
  have hs2 : (swl (rowL (mdsOf ns))).length % 2 = 0 := by rw [swl_len]; exact hr2
  clear hQ₃ Q₃ F₃ N₃ hm1 hm2 hm3
  obtain ⟨Q₄, hQ₄⟩ : ∃ Q₄ : Shared → Prop, Q₄ = fun s' => ∃ h tk mm t t', s' = { s₁ with heap := h, toks := tk } ∧ Fr s₁.heap L h mm ∧ News s₁.heap L h [(a, W.listOf (List.toArray us) 0)] ∧ mm (Str.ofString "modes") = some (.ref a) ∧ mm (Str.ofString "row") = some (.bytes (rowL (mdsOf ns)).toArray t) ∧ mm (Str.ofString "turned") = some (.bytes (swl (rowL (mdsOf ns))).toArray t') := ⟨_, rfl⟩
  refine cutC Q₄ ?_ ?_
  · (repeat' (first | (k_unfold; (try dsimp only)) | (((fail_if_success (with_reducible first | show LCg.CompSrc _ _ _ _ _ _ _ _ _ _ _ _ _ _ | show wpAny _ _ (exec (Stmt.While _ _ _ _) _) _ _ _ | show wpAny _ _ (call (Value.ref _) _ _) _ _ _ | show wpAny _ _ (exec (Stmt.For _ _ _ _ _) _) _ _ _ | show wpAny _ _ (call (Value.builtin "list.append") _ _) _ _ _ | show wpAny _ _ (eval (Expr.ListComp _ _ _ _) _) _ _ _ | show wpAny _ _ (subscriptTail _ _ (Value.str _ _) _) _ _ _ | show wpAny _ _ (binaryOp Operator.Add (Value.str _ _) (Value.str _ _)) _ _ _ | show wpAny _ _ (call (Value.builtin "sorted") _ _) _ _ _ | show wpAny _ _ (exec (Stmt.Assign _ (Expr.ListComp _ _ _ _) _) _) _ _ _ | show wpAny _ _ (call (Value.type "range") [_] _) _ _ _ | show wpAny _ _ (call (Value.type "bytes") _ _) _ _ _ | show wpAny _ _ (storeName _ _ (Value.ref _)) _ _ _ | show wpAny _ _ (subscriptTail _ _ (Value.bytes _ _) _) _ _ _ | show wpAny _ _ (subscriptTail _ _ (Value.ref _) _) _ _ _ | show wpAny _ _ (binaryOp _ (Value.ref _) (Value.ref _)) _ _ _ | show wpAny _ _ (compareOp _ (Value.ref _) (Value.ref _)) _ _ _ | show wpAny _ _ (compareOp _ (Value.bytes _ _) (Value.bytes _ _)) _ _ _))); walk1; (try dsimp only))))
    refine wpAny_call (samples K0 F₄ KX N₄ T (Around.frames_deeper K0.stack) rfl rfl (by show callerA.depth + 1 < recursionLimit; decide) rfl hs1 hs2 fun h₅ tk₅ D1 o1 w1 l1 e1 b1 F₅ N₅ n1 => ?_)
    obtain ⟨k1, rfl⟩ := l1
    dsimp only
    (repeat' (first | (k_unfold; (try dsimp only)) | (((fail_if_success (with_reducible first | show LCg.CompSrc _ _ _ _ _ _ _ _ _ _ _ _ _ _ | show wpAny _ _ (exec (Stmt.While _ _ _ _) _) _ _ _ | show wpAny _ _ (call (Value.ref _) _ _) _ _ _ | show wpAny _ _ (exec (Stmt.For _ _ _ _ _) _) _ _ _ | show wpAny _ _ (call (Value.builtin "list.append") _ _) _ _ _ | show wpAny _ _ (eval (Expr.ListComp _ _ _ _) _) _ _ _ | show wpAny _ _ (subscriptTail _ _ (Value.str _ _) _) _ _ _ | show wpAny _ _ (binaryOp Operator.Add (Value.str _ _) (Value.str _ _)) _ _ _ | show wpAny _ _ (call (Value.builtin "sorted") _ _) _ _ _ | show wpAny _ _ (exec (Stmt.Assign _ (Expr.ListComp _ _ _ _) _) _) _ _ _ | show wpAny _ _ (call (Value.type "range") [_] _) _ _ _ | show wpAny _ _ (call (Value.type "bytes") _ _) _ _ _ | show wpAny _ _ (storeName _ _ (Value.ref _)) _ _ _ | show wpAny _ _ (subscriptTail _ _ (Value.bytes _ _) _) _ _ _ | show wpAny _ _ (subscriptTail _ _ (Value.ref _) _) _ _ _ | show wpAny _ _ (binaryOp _ (Value.ref _) (Value.ref _)) _ _ _ | show wpAny _ _ (compareOp _ (Value.ref _) (Value.ref _)) _ _ _ | show wpAny _ _ (compareOp _ (Value.bytes _ _) (Value.bytes _ _)) _ _ _))); walk1; (try dsimp only))))
    refine LCg.ListComp_U (F₀ := F₅) (by with_unfolding_all rfl) (by decide) (by rfl) (by decide) (by rfl) ?_
    (repeat' (first | (k_unfold; (try dsimp only)) | (((fail_if_success (with_reducible first | show LCg.CompSrc _ _ _ _ _ _ _ _ _ _ _ _ _ _ | show wpAny _ _ (exec (Stmt.While _ _ _ _) _) _ _ _ | show wpAny _ _ (call (Value.ref _) _ _) _ _ _ | show wpAny _ _ (exec (Stmt.For _ _ _ _ _) _) _ _ _ | show wpAny _ _ (call (Value.builtin "list.append") _ _) _ _ _ | show wpAny _ _ (eval (Expr.ListComp _ _ _ _) _) _ _ _ | show wpAny _ _ (subscriptTail _ _ (Value.str _ _) _) _ _ _ | show wpAny _ _ (binaryOp Operator.Add (Value.str _ _) (Value.str _ _)) _ _ _ | show wpAny _ _ (call (Value.builtin "sorted") _ _) _ _ _ | show wpAny _ _ (exec (Stmt.Assign _ (Expr.ListComp _ _ _ _) _) _) _ _ _ | show wpAny _ _ (call (Value.type "range") [_] _) _ _ _ | show wpAny _ _ (call (Value.type "bytes") _ _) _ _ _ | show wpAny _ _ (storeName _ _ (Value.ref _)) _ _ _ | show wpAny _ _ (subscriptTail _ _ (Value.bytes _ _) _) _ _ _ | show wpAny _ _ (subscriptTail _ _ (Value.ref _) _) _ _ _ | show wpAny _ _ (binaryOp _ (Value.ref _) (Value.ref _)) _ _ _ | show wpAny _ _ (compareOp _ (Value.ref _) (Value.ref _)) _ _ _ | show wpAny _ _ (compareOp _ (Value.bytes _ _) (Value.bytes _ _)) _ _ _))); walk1; (try dsimp only))))
    refine wpAny_call (samples K0 F₅ KX N₅ T (Around.frames_deeper K0.stack) rfl rfl (by show callerA.depth + 1 < recursionLimit; decide) rfl hr1 hr2 fun h₆ tk₆ D2 o2 w2 l2 e2 b2 F₆ N₆ n2 => ?_)
    obtain ⟨k2, rfl⟩ := l2
    dsimp only
    (repeat' (first | (k_unfold; (try dsimp only)) | (((fail_if_success (with_reducible first | show LCg.CompSrc _ _ _ _ _ _ _ _ _ _ _ _ _ _ | show wpAny _ _ (exec (Stmt.While _ _ _ _) _) _ _ _ | show wpAny _ _ (call (Value.ref _) _ _) _ _ _ | show wpAny _ _ (exec (Stmt.For _ _ _ _ _) _) _ _ _ | show wpAny _ _ (call (Value.builtin "list.append") _ _) _ _ _ | show wpAny _ _ (eval (Expr.ListComp _ _ _ _) _) _ _ _ | show wpAny _ _ (subscriptTail _ _ (Value.str _ _) _) _ _ _ | show wpAny _ _ (binaryOp Operator.Add (Value.str _ _) (Value.str _ _)) _ _ _ | show wpAny _ _ (call (Value.builtin "sorted") _ _) _ _ _ | show wpAny _ _ (exec (Stmt.Assign _ (Expr.ListComp _ _ _ _) _) _) _ _ _ | show wpAny _ _ (call (Value.type "range") [_] _) _ _ _ | show wpAny _ _ (call (Value.type "bytes") _ _) _ _ _ | show wpAny _ _ (storeName _ _ (Value.ref _)) _ _ _ | show wpAny _ _ (subscriptTail _ _ (Value.bytes _ _) _) _ _ _ | show wpAny _ _ (subscriptTail _ _ (Value.ref _) _) _ _ _ | show wpAny _ _ (binaryOp _ (Value.ref _) (Value.ref _)) _ _ _ | show wpAny _ _ (compareOp _ (Value.ref _) (Value.ref _)) _ _ _ | show wpAny _ _ (compareOp _ (Value.bytes _ _) (Value.bytes _ _)) _ _ _))); walk1; (try dsimp only))))
    refine LCg.CompSrc.ledger (k := k2) (its := w2.toArray) rfl F₆ N₆ (.head _) (by rw [List.size_toArray, sizeLine_eq, e2]; omega) fun g => ?_
    refine comp_ind (fun i ys news' => news' = _ ∧ ys.length = i ∧ BsAre ys (fun j => (smp (rowL (mdsOf ns)) j).toList.reverse.toArray)) ⟨rfl, rfl, fun j v h => nomatch h⟩ ?_ ?_
    · rintro i ys news' hi ⟨rfl, hyl, hS⟩ v I oI C oC D m₂ h₇ tk₇ E' hP hoC hm F₇ N₇ off hne
      obtain ⟨t, rfl⟩ := b2 i v (by simpa using hP)
      (repeat' (first | (k_unfold; (try dsimp only)) | (((fail_if_success (with_reducible first | show LCg.CompSrc _ _ _ _ _ _ _ _ _ _ _ _ _ _ | show wpAny _ _ (exec (Stmt.While _ _ _ _) _) _ _ _ | show wpAny _ _ (call (Value.ref _) _ _) _ _ _ | show wpAny _ _ (exec (Stmt.For _ _ _ _ _) _) _ _ _ | show wpAny _ _ (call (Value.builtin "list.append") _ _) _ _ _ | show wpAny _ _ (eval (Expr.ListComp _ _ _ _) _) _ _ _ | show wpAny _ _ (subscriptTail _ _ (Value.str _ _) _) _ _ _ | show wpAny _ _ (binaryOp Operator.Add (Value.str _ _) (Value.str _ _)) _ _ _ | show wpAny _ _ (call (Value.builtin "sorted") _ _) _ _ _ | show wpAny _ _ (exec (Stmt.Assign _ (Expr.ListComp _ _ _ _) _) _) _ _ _ | show wpAny _ _ (call (Value.type "range") [_] _) _ _ _ | show wpAny _ _ (call (Value.type "bytes") _ _) _ _ _ | show wpAny _ _ (storeName _ _ (Value.ref _)) _ _ _ | show wpAny _ _ (subscriptTail _ _ (Value.bytes _ _) _) _ _ _ | show wpAny _ _ (subscriptTail _ _ (Value.ref _) _) _ _ _ | show wpAny _ _ (binaryOp _ (Value.ref _) (Value.ref _)) _ _ _ | show wpAny _ _ (compareOp _ (Value.ref _) (Value.ref _)) _ _ _ | show wpAny _ _ (compareOp _ (Value.bytes _ _) (Value.bytes _ _)) _ _ _))); walk1; (try dsimp only))))
      refine rev_K (s := ⟨h₇, _, _, _, _⟩) F₇ N₇ (by unfold smp; simp) ?_
      intro h₈ t₈ k₈ F₈ N₈
      subst hyl
      exact ⟨h₈, _, _, rfl, F₈, N₈, off, .inr ⟨_, .head _, rfl, k2, rfl⟩, rfl, by simp, hS.snoc⟩
    rintro ys news' ⟨rfl, hyl, hS⟩ D h₇ tk₇ F₇ N₇ off
    rw [List.size_toArray] at hyl
    (repeat' (first | (k_unfold; (try dsimp only)) | (((fail_if_success (with_reducible first | show LCg.CompSrc _ _ _ _ _ _ _ _ _ _ _ _ _ _ | show wpAny _ _ (exec (Stmt.While _ _ _ _) _) _ _ _ | show wpAny _ _ (call (Value.ref _) _ _) _ _ _ | show wpAny _ _ (exec (Stmt.For _ _ _ _ _) _) _ _ _ | show wpAny _ _ (call (Value.builtin "list.append") _ _) _ _ _ | show wpAny _ _ (eval (Expr.ListComp _ _ _ _) _) _ _ _ | show wpAny _ _ (subscriptTail _ _ (Value.str _ _) _) _ _ _ | show wpAny _ _ (binaryOp Operator.Add (Value.str _ _) (Value.str _ _)) _ _ _ | show wpAny _ _ (call (Value.builtin "sorted") _ _) _ _ _ | show wpAny _ _ (exec (Stmt.Assign _ (Expr.ListComp _ _ _ _) _) _) _ _ _ | show wpAny _ _ (call (Value.type "range") [_] _) _ _ _ | show wpAny _ _ (call (Value.type "bytes") _ _) _ _ _ | show wpAny _ _ (storeName _ _ (Value.ref _)) _ _ _ | show wpAny _ _ (subscriptTail _ _ (Value.bytes _ _) _) _ _ _ | show wpAny _ _ (subscriptTail _ _ (Value.ref _) _) _ _ _ | show wpAny _ _ (binaryOp _ (Value.ref _) (Value.ref _)) _ _ _ | show wpAny _ _ (compareOp _ (Value.ref _) (Value.ref _)) _ _ _ | show wpAny _ _ (compareOp _ (Value.bytes _ _) (Value.bytes _ _)) _ _ _))); walk1; (try dsimp only))))
    refine ne_same (N₇.isList (.tail _ (.tail _ (.head _)))) (N₇.isList (.head _)) (by rw [hyl, e1, e2, swl_len]) (by show callerA.units + 3 < cLine; decide) (fun A' j x y hx hy => ?_) ?_
    · have hj := (List.getElem?_eq_some_iff.mp hx).1
      obtain ⟨t1, rfl⟩ := b1 j x hx
      obtain ⟨t2, rfl⟩ := hS j y hy
      rw [smp_swl _ _ (by omega)]
      exact eqAt_bytes
    dsimp only
    (repeat' (first | (k_unfold; (try dsimp only)) | (((fail_if_success (with_reducible first | show LCg.CompSrc _ _ _ _ _ _ _ _ _ _ _ _ _ _ | show wpAny _ _ (exec (Stmt.While _ _ _ _) _) _ _ _ | show wpAny _ _ (call (Value.ref _) _ _) _ _ _ | show wpAny _ _ (exec (Stmt.For _ _ _ _ _) _) _ _ _ | show wpAny _ _ (call (Value.builtin "list.append") _ _) _ _ _ | show wpAny _ _ (eval (Expr.ListComp _ _ _ _) _) _ _ _ | show wpAny _ _ (subscriptTail _ _ (Value.str _ _) _) _ _ _ | show wpAny _ _ (binaryOp Operator.Add (Value.str _ _) (Value.str _ _)) _ _ _ | show wpAny _ _ (call (Value.builtin "sorted") _ _) _ _ _ | show wpAny _ _ (exec (Stmt.Assign _ (Expr.ListComp _ _ _ _) _) _) _ _ _ | show wpAny _ _ (call (Value.type "range") [_] _) _ _ _ | show wpAny _ _ (call (Value.type "bytes") _ _) _ _ _ | show wpAny _ _ (storeName _ _ (Value.ref _)) _ _ _ | show wpAny _ _ (subscriptTail _ _ (Value.bytes _ _) _) _ _ _ | show wpAny _ _ (subscriptTail _ _ (Value.ref _) _) _ _ _ | show wpAny _ _ (binaryOp _ (Value.ref _) (Value.ref _)) _ _ _ | show wpAny _ _ (compareOp _ (Value.ref _) (Value.ref _)) _ _ _ | show wpAny _ _ (compareOp _ (Value.bytes _ _) (Value.bytes _ _)) _ _ _))); walk1; (try dsimp only))))
    rw [hQ₄]
    exact ⟨_, _, _, _, _, rfl, F₇, PyProof.Rows.News.perm N₇ (fun p hp => by rw [List.mem_singleton.mp hp]; exact .tail _ (.tail _ (.tail _ (.head _)))), rfl, rfl, rfl⟩
  intro s' hs'
  rw [hQ₄] at hs'
  obtain ⟨h₅, tk₅, mm, tr2, tt2, rfl, F₅, N₅, hm1, hm2, hm3⟩ := hs'
  rw [map3 hm1 hm2 hm3] at F₅
  clear hQ₄ Q₄ F₄ N₄ hm1 hm2 hm3
  obtain ⟨Q₅, hQ₅⟩ : ∃ Q₅ : Shared → Prop, Q₅ = fun s' => ∃ h tk mm t t' sg sv, s' = { s₁ with heap := h, toks := tk } ∧ Fr s₁.heap L h mm ∧ News s₁.heap L h [(sg, LCg.lst sv), (a, W.listOf (List.toArray us) 0)] ∧ sv.length = us.length ∧ SsAre sv (fun j => lsg3 ((mdsOf ns).getD j 0)) ∧ a ≠ sg ∧
    mm (Str.ofString "modes") = some (.ref a) ∧ mm (Str.ofString "row") = some (.bytes (rowL (mdsOf ns)).toArray t) ∧ mm (Str.ofString "turned") = some (.bytes (swl (rowL (mdsOf ns))).toArray t') ∧ mm (Str.ofString "signs") = some (.ref sg) := ⟨_, rfl⟩
  refine cutC Q₅ ?_ ?_
  · refine LCg.Assign_ListComp_U F₅ rfl (by rfl) (by with_unfolding_all rfl) (by decide) (by rfl) (by decide) (by rfl) (by rfl) (by rfl) ?_
    (repeat' (first | (k_unfold; (try dsimp only)) | (((fail_if_success (with_reducible first | show LCg.CompSrc _ _ _ _ _ _ _ _ _ _ _ _ _ _ | show wpAny _ _ (exec (Stmt.While _ _ _ _) _) _ _ _ | show wpAny _ _ (call (Value.ref _) _ _) _ _ _ | show wpAny _ _ (exec (Stmt.For _ _ _ _ _) _) _ _ _ | show wpAny _ _ (call (Value.builtin "list.append") _ _) _ _ _ | show wpAny _ _ (eval (Expr.ListComp _ _ _ _) _) _ _ _ | show wpAny _ _ (subscriptTail _ _ (Value.str _ _) _) _ _ _ | show wpAny _ _ (binaryOp Operator.Add (Value.str _ _) (Value.str _ _)) _ _ _ | show wpAny _ _ (call (Value.builtin "sorted") _ _) _ _ _ | show wpAny _ _ (exec (Stmt.Assign _ (Expr.ListComp _ _ _ _) _) _) _ _ _ | show wpAny _ _ (call (Value.type "range") [_] _) _ _ _ | show wpAny _ _ (call (Value.type "bytes") _ _) _ _ _ | show wpAny _ _ (storeName _ _ (Value.ref _)) _ _ _ | show wpAny _ _ (subscriptTail _ _ (Value.bytes _ _) _) _ _ _ | show wpAny _ _ (subscriptTail _ _ (Value.ref _) _) _ _ _ | show wpAny _ _ (binaryOp _ (Value.ref _) (Value.ref _)) _ _ _ | show wpAny _ _ (compareOp _ (Value.ref _) (Value.ref _)) _ _ _ | show wpAny _ _ (compareOp _ (Value.bytes _ _) (Value.bytes _ _)) _ _ _))); walk1; (try dsimp only))))
    refine LCg.CompSrc.ledger (k := 0) (its := us.toArray) rfl F₅ N₅ (by simp [W.listOf]) hr3 fun g => ?_
    refine comp_ind (fun i ys news' => news' = _ ∧ ys.length = i ∧ SsAre ys (fun j => lsg3 ((mdsOf ns).getD j 0))) ⟨rfl, rfl, fun j v h => nomatch h⟩ ?_ ?_
    · rintro i ys news' hi ⟨rfl, hyl, hS⟩ v I oI C oC D m₂ h₇ tk₇ E' hP hoC hm F₇ N₇ off hne
      obtain ⟨t, rfl⟩ := PyProof.Rows.IntsAre.int_at hU i v (by simpa using hP)
      (repeat' (first | (k_unfold; (try dsimp only)) | (((fail_if_success (with_reducible first | show LCg.CompSrc _ _ _ _ _ _ _ _ _ _ _ _ _ _ | show wpAny _ _ (exec (Stmt.While _ _ _ _) _) _ _ _ | show wpAny _ _ (call (Value.ref _) _ _) _ _ _ | show wpAny _ _ (exec (Stmt.For _ _ _ _ _) _) _ _ _ | show wpAny _ _ (call (Value.builtin "list.append") _ _) _ _ _ | show wpAny _ _ (eval (Expr.ListComp _ _ _ _) _) _ _ _ | show wpAny _ _ (subscriptTail _ _ (Value.str _ _) _) _ _ _ | show wpAny _ _ (binaryOp Operator.Add (Value.str _ _) (Value.str _ _)) _ _ _ | show wpAny _ _ (call (Value.builtin "sorted") _ _) _ _ _ | show wpAny _ _ (exec (Stmt.Assign _ (Expr.ListComp _ _ _ _) _) _) _ _ _ | show wpAny _ _ (call (Value.type "range") [_] _) _ _ _ | show wpAny _ _ (call (Value.type "bytes") _ _) _ _ _ | show wpAny _ _ (storeName _ _ (Value.ref _)) _ _ _ | show wpAny _ _ (subscriptTail _ _ (Value.bytes _ _) _) _ _ _ | show wpAny _ _ (subscriptTail _ _ (Value.ref _) _) _ _ _ | show wpAny _ _ (binaryOp _ (Value.ref _) (Value.ref _)) _ _ _ | show wpAny _ _ (compareOp _ (Value.ref _) (Value.ref _)) _ _ _ | show wpAny _ _ (compareOp _ (Value.bytes _ _) (Value.bytes _ _)) _ _ _))); walk1; (try dsimp only))))
      refine wpAny_call (filemode K0 F₇ KX N₇ T (Around.frames_deeper K0.stack) rfl rfl (by show callerA.depth + 1 + 1 < recursionLimit; decide) (by show callerA.units + 3 + 8 < cLine; decide) rfl fun h₈ tk₈ t₈ F₈ N₈ => ?_)
      dsimp only
      rw [fm_eq _ (mds_in ns i).1 (mds_in ns i).2]
      (repeat' (first | (k_unfold; (try dsimp only)) | (((fail_if_success (with_reducible first | show LCg.CompSrc _ _ _ _ _ _ _ _ _ _ _ _ _ _ | show wpAny _ _ (exec (Stmt.While _ _ _ _) _) _ _ _ | show wpAny _ _ (call (Value.ref _) _ _) _ _ _ | show wpAny _ _ (exec (Stmt.For _ _ _ _ _) _) _ _ _ | show wpAny _ _ (call (Value.builtin "list.append") _ _) _ _ _ | show wpAny _ _ (eval (Expr.ListComp _ _ _ _) _) _ _ _ | show wpAny _ _ (subscriptTail _ _ (Value.str _ _) _) _ _ _ | show wpAny _ _ (binaryOp Operator.Add (Value.str _ _) (Value.str _ _)) _ _ _ | show wpAny _ _ (call (Value.builtin "sorted") _ _) _ _ _ | show wpAny _ _ (exec (Stmt.Assign _ (Expr.ListComp _ _ _ _) _) _) _ _ _ | show wpAny _ _ (call (Value.type "range") [_] _) _ _ _ | show wpAny _ _ (call (Value.type "bytes") _ _) _ _ _ | show wpAny _ _ (storeName _ _ (Value.ref _)) _ _ _ | show wpAny _ _ (subscriptTail _ _ (Value.bytes _ _) _) _ _ _ | show wpAny _ _ (subscriptTail _ _ (Value.ref _) _) _ _ _ | show wpAny _ _ (binaryOp _ (Value.ref _) (Value.ref _)) _ _ _ | show wpAny _ _ (compareOp _ (Value.ref _) (Value.ref _)) _ _ _ | show wpAny _ _ (compareOp _ (Value.bytes _ _) (Value.bytes _ _)) _ _ _))); walk1; (try dsimp only))))
      subst hyl
      exact ⟨h₈, _, _, rfl, F₈, N₈, off, .inr ⟨_, .head _, rfl, 0, rfl⟩, rfl, by simp, hS.snoc⟩
    rintro ys news' ⟨rfl, hyl, hS⟩ D h₇ tk₇ F₇ N₇ off
    refine ⟨rfl, ?_⟩
    rw [hQ₅]
    exact ⟨_, _, _, _, _, D, ys, rfl, F₇, N₇, by rw [hyl, List.size_toArray], hS, off.1, rfl, rfl, rfl, rfl⟩
  intro s' hs'
  rw [hQ₅] at hs'
  obtain ⟨h₆, tk₆, mm, tr3, tt3, sg, sv, rfl, F₆, N₆, hsv, hSs, hsga, hm1, hm2, hm3, hm4⟩ := hs'
  rw [map4 hm1 hm2 hm3 hm4] at F₆
  clear hQ₅ Q₅ F₅ N₅ hm1 hm2 hm3 hm4
  obtain ⟨Q₆, hQ₆⟩ : ∃ Q₆ : Shared → Prop, Q₆ = fun s' => ∃ h tk mm t t', s' = { s₁ with heap := h, toks := tk } ∧ Fr s₁.heap L h mm ∧ News s₁.heap L h [(sg, LCg.lst sv), (a, W.listOf (List.toArray us) 0)] ∧
    mm (Str.ofString "modes") = some (.ref a) ∧ mm (Str.ofString "row") = some (.bytes (rowL (mdsOf ns)).toArray t) ∧ mm (Str.ofString "turned") = some (.bytes (swl (rowL (mdsOf ns))).toArray t') ∧ mm (Str.ofString "signs") = some (.ref sg) := ⟨_, rfl⟩
  refine cutCC Q₆ (wpC_If (wpC_isTrue_or (wpC_isTrue_Compare1 (wpC_Call_Name ?_)))) ?_
  · (repeat' (first | (k_unfold; (try dsimp only)) | (((fail_if_success (with_reducible first | show LCg.CompSrc _ _ _ _ _ _ _ _ _ _ _ _ _ _ | show wpAny _ _ (exec (Stmt.While _ _ _ _) _) _ _ _ | show wpAny _ _ (call (Value.ref _) _ _) _ _ _ | show wpAny _ _ (exec (Stmt.For _ _ _ _ _) _) _ _ _ | show wpAny _ _ (call (Value.builtin "list.append") _ _) _ _ _ | show wpAny _ _ (eval (Expr.ListComp _ _ _ _) _) _ _ _ | show wpAny _ _ (subscriptTail _ _ (Value.str _ _) _) _ _ _ | show wpAny _ _ (binaryOp Operator.Add (Value.str _ _) (Value.str _ _)) _ _ _ | show wpAny _ _ (call (Value.builtin "sorted") _ _) _ _ _ | show wpAny _ _ (exec (Stmt.Assign _ (Expr.ListComp _ _ _ _) _) _) _ _ _ | show wpAny _ _ (call (Value.type "range") [_] _) _ _ _ | show wpAny _ _ (call (Value.type "bytes") _ _) _ _ _ | show wpAny _ _ (storeName _ _ (Value.ref _)) _ _ _ | show wpAny _ _ (subscriptTail _ _ (Value.bytes _ _) _) _ _ _ | show wpAny _ _ (subscriptTail _ _ (Value.ref _) _) _ _ _ | show wpAny _ _ (binaryOp _ (Value.ref _) (Value.ref _)) _ _ _ | show wpAny _ _ (compareOp _ (Value.ref _) (Value.ref _)) _ _ _ | show wpAny _ _ (compareOp _ (Value.bytes _ _) (Value.bytes _ _)) _ _ _))); walk1; (try dsimp only))))
    refine callWith_CK KX (by k_is) ?_
    (repeat' (first | (k_unfold; (try dsimp only)) | (((fail_if_success (with_reducible first | show LCg.CompSrc _ _ _ _ _ _ _ _ _ _ _ _ _ _ | show wpAny _ _ (exec (Stmt.While _ _ _ _) _) _ _ _ | show wpAny _ _ (call (Value.ref _) _ _) _ _ _ | show wpAny _ _ (exec (Stmt.For _ _ _ _ _) _) _ _ _ | show wpAny _ _ (call (Value.builtin "list.append") _ _) _ _ _ | show wpAny _ _ (eval (Expr.ListComp _ _ _ _) _) _ _ _ | show wpAny _ _ (subscriptTail _ _ (Value.str _ _) _) _ _ _ | show wpAny _ _ (binaryOp Operator.Add (Value.str _ _) (Value.str _ _)) _ _ _ | show wpAny _ _ (call (Value.builtin "sorted") _ _) _ _ _ | show wpAny _ _ (exec (Stmt.Assign _ (Expr.ListComp _ _ _ _) _) _) _ _ _ | show wpAny _ _ (call (Value.type "range") [_] _) _ _ _ | show wpAny _ _ (call (Value.type "bytes") _ _) _ _ _ | show wpAny _ _ (storeName _ _ (Value.ref _)) _ _ _ | show wpAny _ _ (subscriptTail _ _ (Value.bytes _ _) _) _ _ _ | show wpAny _ _ (subscriptTail _ _ (Value.ref _) _) _ _ _ | show wpAny _ _ (binaryOp _ (Value.ref _) (Value.ref _)) _ _ _ | show wpAny _ _ (compareOp _ (Value.ref _) (Value.ref _)) _ _ _ | show wpAny _ _ (compareOp _ (Value.bytes _ _) (Value.bytes _ _)) _ _ _))); walk1; (try dsimp only))))
    refine wpC_call (byteswap K0 F₆ KX N₆ T (Around.frames_deeper K0.stack) rfl rfl (by show callerA.depth + 1 < recursionLimit; decide) rfl hs1 hs2 fun h₇ tk₇ t7 F₇ N₇ => ?_)
    dsimp only
    rw [swl_swl _ hr2]
    (repeat' (first | (k_unfold; (try dsimp only)) | (((fail_if_success (with_reducible first | show LCg.CompSrc _ _ _ _ _ _ _ _ _ _ _ _ _ _ | show wpAny _ _ (exec (Stmt.While _ _ _ _) _) _ _ _ | show wpAny _ _ (call (Value.ref _) _ _) _ _ _ | show wpAny _ _ (exec (Stmt.For _ _ _ _ _) _) _ _ _ | show wpAny _ _ (call (Value.builtin "list.append") _ _) _ _ _ | show wpAny _ _ (eval (Expr.ListComp _ _ _ _) _) _ _ _ | show wpAny _ _ (subscriptTail _ _ (Value.str _ _) _) _ _ _ | show wpAny _ _ (binaryOp Operator.Add (Value.str _ _) (Value.str _ _)) _ _ _ | show wpAny _ _ (call (Value.builtin "sorted") _ _) _ _ _ | show wpAny _ _ (exec (Stmt.Assign _ (Expr.ListComp _ _ _ _) _) _) _ _ _ | show wpAny _ _ (call (Value.type "range") [_] _) _ _ _ | show wpAny _ _ (call (Value.type "bytes") _ _) _ _ _ | show wpAny _ _ (storeName _ _ (Value.ref _)) _ _ _ | show wpAny _ _ (subscriptTail _ _ (Value.bytes _ _) _) _ _ _ | show wpAny _ _ (subscriptTail _ _ (Value.ref _) _) _ _ _ | show wpAny _ _ (binaryOp _ (Value.ref _) (Value.ref _)) _ _ _ | show wpAny _ _ (compareOp _ (Value.ref _) (Value.ref _)) _ _ _ | show wpAny _ _ (compareOp _ (Value.bytes _ _) (Value.bytes _ _)) _ _ _))); walk1; (try dsimp only))))
    refine ne_bytes ?_
    rw [bne_self_eq_false]
    (repeat' (first | (k_unfold; (try dsimp only)) | (((fail_if_success (with_reducible first | show LCg.CompSrc _ _ _ _ _ _ _ _ _ _ _ _ _ _ | show wpAny _ _ (exec (Stmt.While _ _ _ _) _) _ _ _ | show wpAny _ _ (call (Value.ref _) _ _) _ _ _ | show wpAny _ _ (exec (Stmt.For _ _ _ _ _) _) _ _ _ | show wpAny _ _ (call (Value.builtin "list.append") _ _) _ _ _ | show wpAny _ _ (eval (Expr.ListComp _ _ _ _) _) _ _ _ | show wpAny _ _ (subscriptTail _ _ (Value.str _ _) _) _ _ _ | show wpAny _ _ (binaryOp Operator.Add (Value.str _ _) (Value.str _ _)) _ _ _ | show wpAny _ _ (call (Value.builtin "sorted") _ _) _ _ _ | show wpAny _ _ (exec (Stmt.Assign _ (Expr.ListComp _ _ _ _) _) _) _ _ _ | show wpAny _ _ (call (Value.type "range") [_] _) _ _ _ | show wpAny _ _ (call (Value.type "bytes") _ _) _ _ _ | show wpAny _ _ (storeName _ _ (Value.ref _)) _ _ _ | show wpAny _ _ (subscriptTail _ _ (Value.bytes _ _) _) _ _ _ | show wpAny _ _ (subscriptTail _ _ (Value.ref _) _) _ _ _ | show wpAny _ _ (binaryOp _ (Value.ref _) (Value.ref _)) _ _ _ | show wpAny _ _ (compareOp _ (Value.ref _) (Value.ref _)) _ _ _ | show wpAny _ _ (compareOp _ (Value.bytes _ _) (Value.bytes _ _)) _ _ _))); walk1; (try dsimp only))))
    refine LCg.ListComp_U (F₀ := F₇) (by with_unfolding_all rfl) (by decide) (by rfl) (by decide) (by rfl) ?_
    (repeat' (first | (k_unfold; (try dsimp only)) | (((fail_if_success (with_reducible first | show LCg.CompSrc _ _ _ _ _ _ _ _ _ _ _ _ _ _ | show wpAny _ _ (exec (Stmt.While _ _ _ _) _) _ _ _ | show wpAny _ _ (call (Value.ref _) _ _) _ _ _ | show wpAny _ _ (exec (Stmt.For _ _ _ _ _) _) _ _ _ | show wpAny _ _ (call (Value.builtin "list.append") _ _) _ _ _ | show wpAny _ _ (eval (Expr.ListComp _ _ _ _) _) _ _ _ | show wpAny _ _ (subscriptTail _ _ (Value.str _ _) _) _ _ _ | show wpAny _ _ (binaryOp Operator.Add (Value.str _ _) (Value.str _ _)) _ _ _ | show wpAny _ _ (call (Value.builtin "sorted") _ _) _ _ _ | show wpAny _ _ (exec (Stmt.Assign _ (Expr.ListComp _ _ _ _) _) _) _ _ _ | show wpAny _ _ (call (Value.type "range") [_] _) _ _ _ | show wpAny _ _ (call (Value.type "bytes") _ _) _ _ _ | show wpAny _ _ (storeName _ _ (Value.ref _)) _ _ _ | show wpAny _ _ (subscriptTail _ _ (Value.bytes _ _) _) _ _ _ | show wpAny _ _ (subscriptTail _ _ (Value.ref _) _) _ _ _ | show wpAny _ _ (binaryOp _ (Value.ref _) (Value.ref _)) _ _ _ | show wpAny _ _ (compareOp _ (Value.ref _) (Value.ref _)) _ _ _ | show wpAny _ _ (compareOp _ (Value.bytes _ _) (Value.bytes _ _)) _ _ _))); walk1; (try dsimp only))))
    refine LCg.CompSrc.ledger (k := 0) (its := us.toArray) rfl F₇ N₇ (by simp [W.listOf]) hr3 fun g => ?_
    refine comp_ind (fun i ys news' => news' = _ ∧ ys.length = i ∧ SsAre ys (fun j => lsg3 ((mdsOf ns).getD j 0))) ⟨rfl, rfl, fun j v h => nomatch h⟩ ?_ ?_
    · rintro i ys news' hi ⟨rfl, hyl, hS⟩ v I oI C oC D m₂ h₈ tk₈ E' hP hoC hm F₈ N₈ off hne
      obtain ⟨t, rfl⟩ := PyProof.Rows.IntsAre.int_at hU i v (by simpa using hP)
      (repeat' (first | (k_unfold; (try dsimp only)) | (((fail_if_success (with_reducible first | show LCg.CompSrc _ _ _ _ _ _ _ _ _ _ _ _ _ _ | show wpAny _ _ (exec (Stmt.While _ _ _ _) _) _ _ _ | show wpAny _ _ (call (Value.ref _) _ _) _ _ _ | show wpAny _ _ (exec (Stmt.For _ _ _ _ _) _) _ _ _ | show wpAny _ _ (call (Value.builtin "list.append") _ _) _ _ _ | show wpAny _ _ (eval (Expr.ListComp _ _ _ _) _) _ _ _ | show wpAny _ _ (subscriptTail _ _ (Value.str _ _) _) _ _ _ | show wpAny _ _ (binaryOp Operator.Add (Value.str _ _) (Value.str _ _)) _ _ _ | show wpAny _ _ (call (Value.builtin "sorted") _ _) _ _ _ | show wpAny _ _ (exec (Stmt.Assign _ (Expr.ListComp _ _ _ _) _) _) _ _ _ | show wpAny _ _ (call (Value.type "range") [_] _) _ _ _ | show wpAny _ _ (call (Value.type "bytes") _ _) _ _ _ | show wpAny _ _ (storeName _ _ (Value.ref _)) _ _ _ | show wpAny _ _ (subscriptTail _ _ (Value.bytes _ _) _) _ _ _ | show wpAny _ _ (subscriptTail _ _ (Value.ref _) _) _ _ _ | show wpAny _ _ (binaryOp _ (Value.ref _) (Value.ref _)) _ _ _ | show wpAny _ _ (compareOp _ (Value.ref _) (Value.ref _)) _ _ _ | show wpAny _ _ (compareOp _ (Value.bytes _ _) (Value.bytes _ _)) _ _ _))); walk1; (try dsimp only))))
      refine wpAny_call (lsigns K0 F₈ KX N₈ T (Around.frames_deeper K0.stack) rfl rfl (by show callerA.depth + 1 + 1 < recursionLimit; decide) (by show callerA.units + 3 + 8 < cLine; decide) rfl fun h₉ tk₉ t₉ F₉ N₉ => ?_)
      dsimp only
      (repeat' (first | (k_unfold; (try dsimp only)) | (((fail_if_success (with_reducible first | show LCg.CompSrc _ _ _ _ _ _ _ _ _ _ _ _ _ _ | show wpAny _ _ (exec (Stmt.While _ _ _ _) _) _ _ _ | show wpAny _ _ (call (Value.ref _) _ _) _ _ _ | show wpAny _ _ (exec (Stmt.For _ _ _ _ _) _) _ _ _ | show wpAny _ _ (call (Value.builtin "list.append") _ _) _ _ _ | show wpAny _ _ (eval (Expr.ListComp _ _ _ _) _) _ _ _ | show wpAny _ _ (subscriptTail _ _ (Value.str _ _) _) _ _ _ | show wpAny _ _ (binaryOp Operator.Add (Value.str _ _) (Value.str _ _)) _ _ _ | show wpAny _ _ (call (Value.builtin "sorted") _ _) _ _ _ | show wpAny _ _ (exec (Stmt.Assign _ (Expr.ListComp _ _ _ _) _) _) _ _ _ | show wpAny _ _ (call (Value.type "range") [_] _) _ _ _ | show wpAny _ _ (call (Value.type "bytes") _ _) _ _ _ | show wpAny _ _ (storeName _ _ (Value.ref _)) _ _ _ | show wpAny _ _ (subscriptTail _ _ (Value.bytes _ _) _) _ _ _ | show wpAny _ _ (subscriptTail _ _ (Value.ref _) _) _ _ _ | show wpAny _ _ (binaryOp _ (Value.ref _) (Value.ref _)) _ _ _ | show wpAny _ _ (compareOp _ (Value.ref _) (Value.ref _)) _ _ _ | show wpAny _ _ (compareOp _ (Value.bytes _ _) (Value.bytes _ _)) _ _ _))); walk1; (try dsimp only))))
      subst hyl
      exact ⟨h₉, _, _, rfl, F₉, N₉, off, .inr ⟨_, .tail _ (.head _), rfl, 0, rfl⟩, rfl, by simp, hS.snoc⟩
    rintro ys news' ⟨rfl, hyl, hS⟩ D h₈ tk₈ F₈ N₈ off
    rw [List.size_toArray] at hyl
    (repeat' (first | (k_unfold; (try dsimp only)) | (((fail_if_success (with_reducible first | show LCg.CompSrc _ _ _ _ _ _ _ _ _ _ _ _ _ _ | show wpAny _ _ (exec (Stmt.While _ _ _ _) _) _ _ _ | show wpAny _ _ (call (Value.ref _) _ _) _ _ _ | show wpAny _ _ (exec (Stmt.For _ _ _ _ _) _) _ _ _ | show wpAny _ _ (call (Value.builtin "list.append") _ _) _ _ _ | show wpAny _ _ (eval (Expr.ListComp _ _ _ _) _) _ _ _ | show wpAny _ _ (subscriptTail _ _ (Value.str _ _) _) _ _ _ | show wpAny _ _ (binaryOp Operator.Add (Value.str _ _) (Value.str _ _)) _ _ _ | show wpAny _ _ (call (Value.builtin "sorted") _ _) _ _ _ | show wpAny _ _ (exec (Stmt.Assign _ (Expr.ListComp _ _ _ _) _) _) _ _ _ | show wpAny _ _ (call (Value.type "range") [_] _) _ _ _ | show wpAny _ _ (call (Value.type "bytes") _ _) _ _ _ | show wpAny _ _ (storeName _ _ (Value.ref _)) _ _ _ | show wpAny _ _ (subscriptTail _ _ (Value.bytes _ _) _) _ _ _ | show wpAny _ _ (subscriptTail _ _ (Value.ref _) _) _ _ _ | show wpAny _ _ (binaryOp _ (Value.ref _) (Value.ref _)) _ _ _ | show wpAny _ _ (compareOp _ (Value.ref _) (Value.ref _)) _ _ _ | show wpAny _ _ (compareOp _ (Value.bytes _ _) (Value.bytes _ _)) _ _ _))); walk1; (try dsimp only))))
    refine ne_same (N₈.isList (.tail _ (.head _))) (N₈.isList (.head _)) (by rw [hyl, hsv]) (by show callerA.units + 3 < cLine; decide) (fun A' j x y hx hy => ?_) ?_
    · obtain ⟨t1, rfl⟩ := hSs j x hx
      obtain ⟨t2, rfl⟩ := hS j y hy
      exact eqAt_str
    dsimp only
    (repeat' (first | (k_unfold; (try dsimp only)) | (((fail_if_success (with_reducible first | show LCg.CompSrc _ _ _ _ _ _ _ _ _ _ _ _ _ _ | show wpAny _ _ (exec (Stmt.While _ _ _ _) _) _ _ _ | show wpAny _ _ (call (Value.ref _) _ _) _ _ _ | show wpAny _ _ (exec (Stmt.For _ _ _ _ _) _) _ _ _ | show wpAny _ _ (call (Value.builtin "list.append") _ _) _ _ _ | show wpAny _ _ (eval (Expr.ListComp _ _ _ _) _) _ _ _ | show wpAny _ _ (subscriptTail _ _ (Value.str _ _) _) _ _ _ | show wpAny _ _ (binaryOp Operator.Add (Value.str _ _) (Value.str _ _)) _ _ _ | show wpAny _ _ (call (Value.builtin "sorted") _ _) _ _ _ | show wpAny _ _ (exec (Stmt.Assign _ (Expr.ListComp _ _ _ _) _) _) _ _ _ | show wpAny _ _ (call (Value.type "range") [_] _) _ _ _ | show wpAny _ _ (call (Value.type "bytes") _ _) _ _ _ | show wpAny _ _ (storeName _ _ (Value.ref _)) _ _ _ | show wpAny _ _ (subscriptTail _ _ (Value.bytes _ _) _) _ _ _ | show wpAny _ _ (subscriptTail _ _ (Value.ref _) _) _ _ _ | show wpAny _ _ (binaryOp _ (Value.ref _) (Value.ref _)) _ _ _ | show wpAny _ _ (compareOp _ (Value.ref _) (Value.ref _)) _ _ _ | show wpAny _ _ (compareOp _ (Value.bytes _ _) (Value.bytes _ _)) _ _ _))); walk1; (try dsimp only))))
    refine wpC_any ?_
    (repeat' (first | (k_unfold; (try dsimp only)) | (((fail_if_success (with_reducible first | show LCg.CompSrc _ _ _ _ _ _ _ _ _ _ _ _ _ _ | show wpAny _ _ (exec (Stmt.While _ _ _ _) _) _ _ _ | show wpAny _ _ (call (Value.ref _) _ _) _ _ _ | show wpAny _ _ (exec (Stmt.For _ _ _ _ _) _) _ _ _ | show wpAny _ _ (call (Value.builtin "list.append") _ _) _ _ _ | show wpAny _ _ (eval (Expr.ListComp _ _ _ _) _) _ _ _ | show wpAny _ _ (subscriptTail _ _ (Value.str _ _) _) _ _ _ | show wpAny _ _ (binaryOp Operator.Add (Value.str _ _) (Value.str _ _)) _ _ _ | show wpAny _ _ (call (Value.builtin "sorted") _ _) _ _ _ | show wpAny _ _ (exec (Stmt.Assign _ (Expr.ListComp _ _ _ _) _) _) _ _ _ | show wpAny _ _ (call (Value.type "range") [_] _) _ _ _ | show wpAny _ _ (call (Value.type "bytes") _ _) _ _ _ | show wpAny _ _ (storeName _ _ (Value.ref _)) _ _ _ | show wpAny _ _ (subscriptTail _ _ (Value.bytes _ _) _) _ _ _ | show wpAny _ _ (subscriptTail _ _ (Value.ref _) _) _ _ _ | show wpAny _ _ (binaryOp _ (Value.ref _) (Value.ref _)) _ _ _ | show wpAny _ _ (compareOp _ (Value.ref _) (Value.ref _)) _ _ _ | show wpAny _ _ (compareOp _ (Value.bytes _ _) (Value.bytes _ _)) _ _ _))); walk1; (try dsimp only))))
    rw [hQ₆]
    exact ⟨_, _, _, _, _, rfl, F₈, PyProof.Rows.News.perm N₈ (fun p hp => .tail _ hp), rfl, rfl, rfl, rfl⟩
  intro s' hs'
  rw [hQ₆] at hs'
  obtain ⟨h₇, tk₇, mm, tr4, tt4, rfl, F₇, N₇, hm1, hm2, hm3, hm4⟩ := hs'
  rw [map4 hm1 hm2 hm3 hm4] at F₇
  clear hQ₆ Q₆ F₆ N₆ hm1 hm2 hm3 hm4
  have hmi := mds_in ns
  have hn2 : (rowL (mdsOf ns)).length / 2 = us.length := by omega
  have hn3 : (swl (rowL (mdsOf ns))).length / 2 = us.length := by rw [swl_len]; exact hn2
  have hu2 : 2 ≤ us.length := by omega
  have hu60 : us.length < 60 := by omega
  have hfa : ∀ i, i < us.length → smp (rowL (mdsOf ns)) i = #[B8 (oct (mdsOf ns) (2 * i)), B8 (oct (mdsOf ns) (2 * i + 1))] := fun i hi => by
    unfold smp
    have h2 : 2 * i + 1 < 2 * (mdsOf ns).length := by omega
    rw [row_getD _ _ (Nat.lt_of_succ_lt h2), row_getD _ _ h2]; rfl
  have hfb : ∀ i, i < us.length → smp (swl (rowL (mdsOf ns))) i = #[B8 (oct (mdsOf ns) (2 * i + 1)), B8 (oct (mdsOf ns) (2 * i))] := fun i hi => by
    rw [smp_swl _ _ (by omega), hfa i hi]; rfl
  refine wpC_any ?_
  (repeat' (first | (k_unfold; (try dsimp only)) | (((fail_if_success (with_reducible first | show LCg.CompSrc _ _ _ _ _ _ _ _ _ _ _ _ _ _ | show wpAny _ _ (exec (Stmt.While _ _ _ _) _) _ _ _ | show wpAny _ _ (call (Value.ref _) _ _) _ _ _ | show wpAny _ _ (exec (Stmt.For _ _ _ _ _) _) _ _ _ | show wpAny _ _ (call (Value.builtin "list.append") _ _) _ _ _ | show wpAny _ _ (eval (Expr.ListComp _ _ _ _) _) _ _ _ | show wpAny _ _ (subscriptTail _ _ (Value.str _ _) _) _ _ _ | show wpAny _ _ (binaryOp Operator.Add (Value.str _ _) (Value.str _ _)) _ _ _ | show wpAny _ _ (call (Value.builtin "sorted") _ _) _ _ _ | show wpAny _ _ (exec (Stmt.Assign _ (Expr.ListComp _ _ _ _) _) _) _ _ _ | show wpAny _ _ (call (Value.type "range") [_] _) _ _ _ | show wpAny _ _ (call (Value.type "bytes") _ _) _ _ _ | show wpAny _ _ (storeName _ _ (Value.ref _)) _ _ _ | show wpAny _ _ (subscriptTail _ _ (Value.bytes _ _) _) _ _ _ | show wpAny _ _ (subscriptTail _ _ (Value.ref _) _) _ _ _ | show wpAny _ _ (binaryOp _ (Value.ref _) (Value.ref _)) _ _ _ | show wpAny _ _ (compareOp _ (Value.ref _) (Value.ref _)) _ _ _ | show wpAny _ _ (compareOp _ (Value.bytes _ _) (Value.bytes _ _)) _ _ _))); walk1; (try dsimp only))))
  refine wpAny_call (samples K0 F₇ KX N₇ T (Around.frames_deeper K0.stack) rfl rfl (by show callerA.depth + 1 < recursionLimit; decide) rfl hr1 hr2 fun h₈ tk₈ D1 o1 w1 l1 e1 b1 F₈ N₈ n1 => ?_)
  dsimp only
  (repeat' (first | (k_unfold; (try dsimp only)) | (((fail_if_success (with_reducible first | show LCg.CompSrc _ _ _ _ _ _ _ _ _ _ _ _ _ _ | show wpAny _ _ (exec (Stmt.While _ _ _ _) _) _ _ _ | show wpAny _ _ (call (Value.ref _) _ _) _ _ _ | show wpAny _ _ (exec (Stmt.For _ _ _ _ _) _) _ _ _ | show wpAny _ _ (call (Value.builtin "list.append") _ _) _ _ _ | show wpAny _ _ (eval (Expr.ListComp _ _ _ _) _) _ _ _ | show wpAny _ _ (subscriptTail _ _ (Value.str _ _) _) _ _ _ | show wpAny _ _ (binaryOp Operator.Add (Value.str _ _) (Value.str _ _)) _ _ _ | show wpAny _ _ (call (Value.builtin "sorted") _ _) _ _ _ | show wpAny _ _ (exec (Stmt.Assign _ (Expr.ListComp _ _ _ _) _) _) _ _ _ | show wpAny _ _ (call (Value.type "range") [_] _) _ _ _ | show wpAny _ _ (call (Value.type "bytes") _ _) _ _ _ | show wpAny _ _ (storeName _ _ (Value.ref _)) _ _ _ | show wpAny _ _ (subscriptTail _ _ (Value.bytes _ _) _) _ _ _ | show wpAny _ _ (subscriptTail _ _ (Value.ref _) _) _ _ _ | show wpAny _ _ (binaryOp _ (Value.ref _) (Value.ref _)) _ _ _ | show wpAny _ _ (compareOp _ (Value.ref _) (Value.ref _)) _ _ _ | show wpAny _ _ (compareOp _ (Value.bytes _ _) (Value.bytes _ _)) _ _ _))); walk1; (try dsimp only))))
  rw [hn2] at e1
  refine wpAny_call (order (ks := w1) (keq := keqB (fun i => oct (mdsOf ns) (2 * i)) (fun i => oct (mdsOf ns) (2 * i + 1))) (klt := kltB (fun i => oct (mdsOf ns) (2 * i)) (fun i => oct (mdsOf ns) (2 * i + 1))) K0 F₈ KX N₈ T (Around.frames_deeper K0.stack) rfl rfl (by show callerA.depth + 1 + 3 < recursionLimit; decide) (by show callerA.units + 3 + 14 < cLine; decide) rfl
    (keyOK_B b1 (fun i hi => hfa i (e1 ▸ hi)) (fun i => oct_in _ _) (fun i => oct_in _ _)) l1 n1 (e1.symm ▸ hu60) fun h₉ tk₉ D2 o2 w2 l2 i2 F₉ N₉ n2 => ?_)
  rw [lti_1 hmi, e1] at i2
  dsimp only
  (repeat' (first | (k_unfold; (try dsimp only)) | (((fail_if_success (with_reducible first | show LCg.CompSrc _ _ _ _ _ _ _ _ _ _ _ _ _ _ | show wpAny _ _ (exec (Stmt.While _ _ _ _) _) _ _ _ | show wpAny _ _ (call (Value.ref _) _ _) _ _ _ | show wpAny _ _ (exec (Stmt.For _ _ _ _ _) _) _ _ _ | show wpAny _ _ (call (Value.builtin "list.append") _ _) _ _ _ | show wpAny _ _ (eval (Expr.ListComp _ _ _ _) _) _ _ _ | show wpAny _ _ (subscriptTail _ _ (Value.str _ _) _) _ _ _ | show wpAny _ _ (binaryOp Operator.Add (Value.str _ _) (Value.str _ _)) _ _ _ | show wpAny _ _ (call (Value.builtin "sorted") _ _) _ _ _ | show wpAny _ _ (exec (Stmt.Assign _ (Expr.ListComp _ _ _ _) _) _) _ _ _ | show wpAny _ _ (call (Value.type "range") [_] _) _ _ _ | show wpAny _ _ (call (Value.type "bytes") _ _) _ _ _ | show wpAny _ _ (storeName _ _ (Value.ref _)) _ _ _ | show wpAny _ _ (subscriptTail _ _ (Value.bytes _ _) _) _ _ _ | show wpAny _ _ (subscriptTail _ _ (Value.ref _) _) _ _ _ | show wpAny _ _ (binaryOp _ (Value.ref _) (Value.ref _)) _ _ _ | show wpAny _ _ (compareOp _ (Value.ref _) (Value.ref _)) _ _ _ | show wpAny _ _ (compareOp _ (Value.bytes _ _) (Value.bytes _ _)) _ _ _))); walk1; (try dsimp only))))
  refine wpAny_call (samples K0 F₉ KX N₉ T (Around.frames_deeper K0.stack) rfl rfl (by show callerA.depth + 1 < recursionLimit; decide) rfl hs1 hs2 fun h₁₀ tk₁₀ D3 o3 w3 l3 e3 b3 F₁₀ N₁₀ n3 => ?_)
  dsimp only
  (repeat' (first | (k_unfold; (try dsimp only)) | (((fail_if_success (with_reducible first | show LCg.CompSrc _ _ _ _ _ _ _ _ _ _ _ _ _ _ | show wpAny _ _ (exec (Stmt.While _ _ _ _) _) _ _ _ | show wpAny _ _ (call (Value.ref _) _ _) _ _ _ | show wpAny _ _ (exec (Stmt.For _ _ _ _ _) _) _ _ _ | show wpAny _ _ (call (Value.builtin "list.append") _ _) _ _ _ | show wpAny _ _ (eval (Expr.ListComp _ _ _ _) _) _ _ _ | show wpAny _ _ (subscriptTail _ _ (Value.str _ _) _) _ _ _ | show wpAny _ _ (binaryOp Operator.Add (Value.str _ _) (Value.str _ _)) _ _ _ | show wpAny _ _ (call (Value.builtin "sorted") _ _) _ _ _ | show wpAny _ _ (exec (Stmt.Assign _ (Expr.ListComp _ _ _ _) _) _) _ _ _ | show wpAny _ _ (call (Value.type "range") [_] _) _ _ _ | show wpAny _ _ (call (Value.type "bytes") _ _) _ _ _ | show wpAny _ _ (storeName _ _ (Value.ref _)) _ _ _ | show wpAny _ _ (subscriptTail _ _ (Value.bytes _ _) _) _ _ _ | show wpAny _ _ (subscriptTail _ _ (Value.ref _) _) _ _ _ | show wpAny _ _ (binaryOp _ (Value.ref _) (Value.ref _)) _ _ _ | show wpAny _ _ (compareOp _ (Value.ref _) (Value.ref _)) _ _ _ | show wpAny _ _ (compareOp _ (Value.bytes _ _) (Value.bytes _ _)) _ _ _))); walk1; (try dsimp only))))
  rw [hn3] at e3
  refine wpAny_call (order (ks := w3) (keq := keqB (fun i => oct (mdsOf ns) (2 * i + 1)) (fun i => oct (mdsOf ns) (2 * i))) (klt := kltB (fun i => oct (mdsOf ns) (2 * i + 1)) (fun i => oct (mdsOf ns) (2 * i))) K0 F₁₀ KX N₁₀ T (Around.frames_deeper K0.stack) rfl rfl (by show callerA.depth + 1 + 3 < recursionLimit; decide) (by show callerA.units + 3 + 14 < cLine; decide) rfl
    (keyOK_B b3 (fun i hi => hfb i (e3 ▸ hi)) (fun i => oct_in _ _) (fun i => oct_in _ _)) l3 n3 (e3.symm ▸ hu60) fun h₁₁ tk₁₁ D4 o4 w4 l4 i4 F₁₁ N₁₁ n4 => ?_)
  rw [lti_2 hmi, e3] at i4
  dsimp only
  (repeat' (first | (k_unfold; (try dsimp only)) | (((fail_if_success (with_reducible first | show LCg.CompSrc _ _ _ _ _ _ _ _ _ _ _ _ _ _ | show wpAny _ _ (exec (Stmt.While _ _ _ _) _) _ _ _ | show wpAny _ _ (call (Value.ref _) _ _) _ _ _ | show wpAny _ _ (exec (Stmt.For _ _ _ _ _) _) _ _ _ | show wpAny _ _ (call (Value.builtin "list.append") _ _) _ _ _ | show wpAny _ _ (eval (Expr.ListComp _ _ _ _) _) _ _ _ | show wpAny _ _ (subscriptTail _ _ (Value.str _ _) _) _ _ _ | show wpAny _ _ (binaryOp Operator.Add (Value.str _ _) (Value.str _ _)) _ _ _ | show wpAny _ _ (call (Value.builtin "sorted") _ _) _ _ _ | show wpAny _ _ (exec (Stmt.Assign _ (Expr.ListComp _ _ _ _) _) _) _ _ _ | show wpAny _ _ (call (Value.type "range") [_] _) _ _ _ | show wpAny _ _ (call (Value.type "bytes") _ _) _ _ _ | show wpAny _ _ (storeName _ _ (Value.ref _)) _ _ _ | show wpAny _ _ (subscriptTail _ _ (Value.bytes _ _) _) _ _ _ | show wpAny _ _ (subscriptTail _ _ (Value.ref _) _) _ _ _ | show wpAny _ _ (binaryOp _ (Value.ref _) (Value.ref _)) _ _ _ | show wpAny _ _ (compareOp _ (Value.ref _) (Value.ref _)) _ _ _ | show wpAny _ _ (compareOp _ (Value.bytes _ _) (Value.bytes _ _)) _ _ _))); walk1; (try dsimp only))))
  have hsg1 := n1 (sg, LCg.lst sv) (.head _)
  have hsg2 := n2 (sg, LCg.lst sv) (.tail _ (.head _))
  have hsg3 := n3 (sg, LCg.lst sv) (.tail _ (.tail _ (.head _)))
  have hsg4 := n4 (sg, LCg.lst sv) (.tail _ (.tail _ (.tail _ (.head _))))
  replace N₁₁ : News s₁.heap L h₁₁ ((sg, LCg.lst sv) :: (D4, o4) :: (D2, o2) :: (a, W.listOf (List.toArray us) 0) :: []) := PyProof.Rows.News.perm N₁₁ (by intro p hp; simp only [List.mem_cons, List.not_mem_nil, or_false] at hp ⊢; revert hp; repeat' (first | exact (fun h => h) | refine (fun h => Or.elim h ?_ ?_) | (intro hp; repeat (first | exact hp | exact Or.inl hp | exact Or.inl (Or.inl hp) | exact Or.inl (Or.inr hp) | apply Or.inr))))
  refine wpAny_call (order (ks := sv) (keq := keqS fun i => lsg3 ((mdsOf ns).getD i 0)) (klt := kltS fun i => lsg3 ((mdsOf ns).getD i 0)) K0 F₁₁ KX N₁₁ T (Around.frames_deeper K0.stack) rfl rfl (by show callerA.depth + 1 + 3 < recursionLimit; decide) (by show callerA.units + 3 + 14 < cLine; decide) rfl
    (keyOK_S hSs) ⟨_, rfl⟩ ?_ (hsv.symm ▸ hu60) fun h₁₂ tk₁₂ D6 o6 w6 l6 i6 F₁₂ N₁₂ n6 => ?_)
  · intro p hp
    simp only [List.mem_cons, List.not_mem_nil, or_false] at hp
    rcases hp with rfl | rfl | rfl
    · exact Ne.symm hsg4
    · exact Ne.symm hsg2
    · exact hsga
  rw [lti_3, hsv] at i6
  dsimp only
  (repeat' (first | (k_unfold; (try dsimp only)) | (((fail_if_success (with_reducible first | show LCg.CompSrc _ _ _ _ _ _ _ _ _ _ _ _ _ _ | show wpAny _ _ (exec (Stmt.While _ _ _ _) _) _ _ _ | show wpAny _ _ (call (Value.ref _) _ _) _ _ _ | show wpAny _ _ (exec (Stmt.For _ _ _ _ _) _) _ _ _ | show wpAny _ _ (call (Value.builtin "list.append") _ _) _ _ _ | show wpAny _ _ (eval (Expr.ListComp _ _ _ _) _) _ _ _ | show wpAny _ _ (subscriptTail _ _ (Value.str _ _) _) _ _ _ | show wpAny _ _ (binaryOp Operator.Add (Value.str _ _) (Value.str _ _)) _ _ _ | show wpAny _ _ (call (Value.builtin "sorted") _ _) _ _ _ | show wpAny _ _ (exec (Stmt.Assign _ (Expr.ListComp _ _ _ _) _) _) _ _ _ | show wpAny _ _ (call (Value.type "range") [_] _) _ _ _ | show wpAny _ _ (call (Value.type "bytes") _ _) _ _ _ | show wpAny _ _ (storeName _ _ (Value.ref _)) _ _ _ | show wpAny _ _ (subscriptTail _ _ (Value.bytes _ _) _) _ _ _ | show wpAny _ _ (subscriptTail _ _ (Value.ref _) _) _ _ _ | show wpAny _ _ (binaryOp _ (Value.ref _) (Value.ref _)) _ _ _ | show wpAny _ _ (compareOp _ (Value.ref _) (Value.ref _)) _ _ _ | show wpAny _ _ (compareOp _ (Value.bytes _ _) (Value.bytes _ _)) _ _ _))); walk1; (try dsimp only))))
  rename_i DO hO FO NO lO
  walk1
  (try dsimp only)
  (repeat' (first | (k_unfold; (try dsimp only)) | (((fail_if_success (with_reducible first | show LCg.CompSrc _ _ _ _ _ _ _ _ _ _ _ _ _ _ | show wpAny _ _ (exec (Stmt.While _ _ _ _) _) _ _ _ | show wpAny _ _ (call (Value.ref _) _ _) _ _ _ | show wpAny _ _ (exec (Stmt.For _ _ _ _ _) _) _ _ _ | show wpAny _ _ (call (Value.builtin "list.append") _ _) _ _ _ | show wpAny _ _ (eval (Expr.ListComp _ _ _ _) _) _ _ _ | show wpAny _ _ (subscriptTail _ _ (Value.str _ _) _) _ _ _ | show wpAny _ _ (binaryOp Operator.Add (Value.str _ _) (Value.str _ _)) _ _ _ | show wpAny _ _ (call (Value.builtin "sorted") _ _) _ _ _ | show wpAny _ _ (exec (Stmt.Assign _ (Expr.ListComp _ _ _ _) _) _) _ _ _ | show wpAny _ _ (call (Value.type "range") [_] _) _ _ _ | show wpAny _ _ (call (Value.type "bytes") _ _) _ _ _ | show wpAny _ _ (storeName _ _ (Value.ref _)) _ _ _ | show wpAny _ _ (subscriptTail _ _ (Value.bytes _ _) _) _ _ _ | show wpAny _ _ (subscriptTail _ _ (Value.ref _) _) _ _ _ | show wpAny _ _ (binaryOp _ (Value.ref _) (Value.ref _)) _ _ _ | show wpAny _ _ (compareOp _ (Value.ref _) (Value.ref _)) _ _ _ | show wpAny _ _ (compareOp _ (Value.bytes _ _) (Value.bytes _ _)) _ _ _))); walk1; (try dsimp only))))
  rename Fr s₁.heap L _ _ => F₁₃
  rename News s₁.heap L _ _ => N₁₃
  replace N₁₃ : News s₁.heap L _ ((a, W.listOf (List.toArray us) 0) :: (DO, W.listOf [Value.ref D2, Value.ref D4, Value.ref D6].toArray 0) :: (D6, o6) :: (D4, o4) :: (D2, o2) :: []) := PyProof.Rows.News.perm N₁₃ (by intro p hp; simp only [List.mem_cons, List.not_mem_nil, or_false] at hp ⊢; revert hp; repeat' (first | exact (fun h => h) | refine (fun h => Or.elim h ?_ ?_) | (intro hp; repeat (first | exact hp | exact Or.inl hp | exact Or.inl (Or.inl hp) | exact Or.inl (Or.inr hp) | apply Or.inr))))
  refine wpAny_call (due K0 F₁₃ KX N₁₃ T (Around.frames_deeper K0.stack) rfl rfl (by show callerA.depth + 1 + 2 < recursionLimit; decide) (by show callerA.units + 3 + 14 < cLine; decide) rfl hU hu2 hu60 (ord1 _) (ord2 _) (ord3 _)
    fun h₁₄ tk₁₄ DD od A1 A2 A3 u1 u2 u3 x1 x2 x3 p1 p2 p3 ld y1 y2 y3 j1 j2 j3 P1 P2 P3 S1 S2 S3 F₁₄ N₁₄ => ?_)
  rw [heap_is_sort (ord1 _) P1 S1] at i2
  rw [heap_is_sort (ord2 _) P2 S2] at i4
  rw [heap_is_sort (ord3 _) P3 S3] at i6
  dsimp only
  (repeat' (first | (k_unfold; (try dsimp only)) | (((fail_if_success (with_reducible first | show LCg.CompSrc _ _ _ _ _ _ _ _ _ _ _ _ _ _ | show wpAny _ _ (exec (Stmt.While _ _ _ _) _) _ _ _ | show wpAny _ _ (call (Value.ref _) _ _) _ _ _ | show wpAny _ _ (exec (Stmt.For _ _ _ _ _) _) _ _ _ | show wpAny _ _ (call (Value.builtin "list.append") _ _) _ _ _ | show wpAny _ _ (eval (Expr.ListComp _ _ _ _) _) _ _ _ | show wpAny _ _ (subscriptTail _ _ (Value.str _ _) _) _ _ _ | show wpAny _ _ (binaryOp Operator.Add (Value.str _ _) (Value.str _ _)) _ _ _ | show wpAny _ _ (call (Value.builtin "sorted") _ _) _ _ _ | show wpAny _ _ (exec (Stmt.Assign _ (Expr.ListComp _ _ _ _) _) _) _ _ _ | show wpAny _ _ (call (Value.type "range") [_] _) _ _ _ | show wpAny _ _ (call (Value.type "bytes") _ _) _ _ _ | show wpAny _ _ (storeName _ _ (Value.ref _)) _ _ _ | show wpAny _ _ (subscriptTail _ _ (Value.bytes _ _) _) _ _ _ | show wpAny _ _ (subscriptTail _ _ (Value.ref _) _) _ _ _ | show wpAny _ _ (binaryOp _ (Value.ref _) (Value.ref _)) _ _ _ | show wpAny _ _ (compareOp _ (Value.ref _) (Value.ref _)) _ _ _ | show wpAny _ _ (compareOp _ (Value.bytes _ _) (Value.bytes _ _)) _ _ _))); walk1; (try dsimp only))))
  refine eq_sameI (xs := [.ref D2, .ref D4, .ref D6]) (ys := [.ref A1, .ref A2, .ref A3]) (N₁₄.isList (.tail _ (.tail _ (.tail _ (.tail _ (.tail _ (.head _))))))) (ld.list N₁₄) rfl (by show callerA.units + 3 < cLine; decide) (fun j x y hx hy => ?_) ?_
  · have g1 := (l2.listM N₁₄ (.tail _ (.tail _ (.tail _ (.tail _ (.tail _ (.tail _ (.tail _ (.tail _ (.head _))))))))))
    have g2 := (l4.listM N₁₄ (.tail _ (.tail _ (.tail _ (.tail _ (.tail _ (.tail _ (.tail _ (.head _)))))))))
    have g3 := (l6.listM N₁₄ (.tail _ (.tail _ (.tail _ (.tail _ (.tail _ (.tail _ (.head _))))))))
    have q1 := (y1.listM N₁₄ (.tail _ (.head _)))
    have q2 := (y2.listM N₁₄ (.tail _ (.tail _ (.head _))))
    have q3 := (y3.listM N₁₄ (.tail _ (.tail _ (.tail _ (.head _)))))
    match j, hx, hy with
    | 0, hx, hy => cases hx; cases hy; exact eqAt_lists g1 q1 i2 j1 (by show callerA.units + 3 + 1 < cLine; decide)
    | 1, hx, hy => cases hx; cases hy; exact eqAt_lists g2 q2 i4 j2 (by show callerA.units + 3 + 1 < cLine; decide)
    | 2, hx, hy => cases hx; cases hy; exact eqAt_lists g3 q3 i6 j3 (by show callerA.units + 3 + 1 < cLine; decide)
    | j + 3, hx, _ => simp at hx
  (try dsimp only)
  (repeat' (first | (k_unfold; (try dsimp only)) | (((fail_if_success (with_reducible first | show LCg.CompSrc _ _ _ _ _ _ _ _ _ _ _ _ _ _ | show wpAny _ _ (exec (Stmt.While _ _ _ _) _) _ _ _ | show wpAny _ _ (call (Value.ref _) _ _) _ _ _ | show wpAny _ _ (exec (Stmt.For _ _ _ _ _) _) _ _ _ | show wpAny _ _ (call (Value.builtin "list.append") _ _) _ _ _ | show wpAny _ _ (eval (Expr.ListComp _ _ _ _) _) _ _ _ | show wpAny _ _ (subscriptTail _ _ (Value.str _ _) _) _ _ _ | show wpAny _ _ (binaryOp Operator.Add (Value.str _ _) (Value.str _ _)) _ _ _ | show wpAny _ _ (call (Value.builtin "sorted") _ _) _ _ _ | show wpAny _ _ (exec (Stmt.Assign _ (Expr.ListComp _ _ _ _) _) _) _ _ _ | show wpAny _ _ (call (Value.type "range") [_] _) _ _ _ | show wpAny _ _ (call (Value.type "bytes") _ _) _ _ _ | show wpAny _ _ (storeName _ _ (Value.ref _)) _ _ _ | show wpAny _ _ (subscriptTail _ _ (Value.bytes _ _) _) _ _ _ | show wpAny _ _ (subscriptTail _ _ (Value.ref _) _) _ _ _ | show wpAny _ _ (binaryOp _ (Value.ref _) (Value.ref _)) _ _ _ | show wpAny _ _ (compareOp _ (Value.ref _) (Value.ref _)) _ _ _ | show wpAny _ _ (compareOp _ (Value.bytes _ _) (Value.bytes _ _)) _ _ _))); walk1; (try dsimp only)))))

end

end Mine
end

theorem PySem.Challenge.cw_ny0133_01_holds : PySem.Challenge.rw_ny0133_01.Holds := by
  exact Mine.main
