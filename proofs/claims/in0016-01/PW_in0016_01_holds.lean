import PyProof.Rows.All
import Wide.All
import OpenK.AllK
import Wide.FinOn
import KE.KDictOf
import KE.KSuperObj
import KE.KNest
import KE.KLam
import KE.KItemsList
import Lean
import PySem.Challenge.RW_in0016_01
set_option Elab.async false
set_option maxRecDepth 100000
set_option linter.unusedVariables false
set_option linter.unusedSimpArgs false
set_option maxHeartbeats 400000
namespace Mine
open PySem PySem.W PySem.Calls PySem.Spec PyProof.Rows
noncomputable def CB (Γ : PySem.Ctx) : Prop := (Γ.below.map (·.1)).any Code.isCaller = true
noncomputable def CT (Γ : PySem.Ctx) : Prop := (Γ.code :: Γ.below.map (·.1)).any Code.isCaller = true
theorem CB.top {Γ : PySem.Ctx} (h : CB Γ) : CT Γ := by
 unfold CT
 rw [List.any_cons, show (Γ.below.map (·.1)).any Code.isCaller = true from h, Bool.or_true]
theorem CT.enter {Γ : PySem.Ctx} (h : CT Γ) (c : Code) (hd : Option Value) (p : Pos) : CB (Γ.enter c hd p) := h
theorem CB.goto {Γ : PySem.Ctx} (h : CB Γ) (c : Code) : CB (Γ.goto c) := h
noncomputable def wpC {α : Type} (M : Model) (A : Around) (t : Sem α) (Q : α → Shared → Prop) (E : Value → Shared → Prop) (s : Shared) : Prop :=
 ∀ (Γ : PySem.Ctx) (p : Pos), Γ.In A → CT Γ → Sem.wp M Γ t (fun a _ s' => Q a s') (fun e _ s' => E e s') p s
noncomputable def codeC (M : Model) (A : Around) (c : Code) (R : Result → Shared → Prop) (s : Shared) : Prop :=
 ∀ (Γ : PySem.Ctx) (p : Pos), Γ.code = c → Γ.Below A → CB Γ → wpCode M Γ R p s
section
variable {α β : Type} {M : Model} {A : Around} {E : Value → Shared → Prop} {s : Shared}
theorem wpC_any {t : Sem α} {Q : α → Shared → Prop} (h : wpAny M A t Q E s) : wpC M A t Q E s := fun Γ p hΓ _ => h Γ p hΓ
theorem codeC_any {c : Code} {R : Result → Shared → Prop} (h : codeAny M A c R s) : codeC M A c R s := fun Γ p hc hΓ _ => h Γ p hc hΓ
theorem wpC_pure {a : α} {Q : α → Shared → Prop} (h : Q a s) : wpC M A (pure a) Q E s := fun _ _ _ _ => h
theorem wpC_mono {t : Sem α} {Q Q' : α → Shared → Prop} {E' : Value → Shared → Prop} (h : wpC M A t Q E s) (hQ : ∀ a s, Q a s → Q' a s) (hE : ∀ e s, E e s → E' e s) : wpC M A t Q' E' s :=
 fun Γ p hΓ hc => Sem.wp_mono M Γ t (fun a _ s => hQ a s) (fun e _ s => hE e s) p s (h Γ p hΓ hc)
theorem wpC_bind {m : Sem α} {f : α → Sem β} {Q : β → Shared → Prop} (h : wpC M A m (fun a s' => wpC M A (f a) Q E s') E s) : wpC M A (m >>= f) Q E s := fun Γ p hΓ hc => by
 rw [Sem.wp_bind']
 exact Sem.wp_mono M Γ m (fun a p' s' h' => h' Γ p' hΓ hc) (fun _ _ _ h' => h') p s (h Γ p hΓ hc)
theorem wpC_bindA {m : Sem α} {f : α → Sem β} {Q : β → Shared → Prop} (h : wpAny M A m (fun a s' => wpC M A (f a) Q E s') E s) : wpC M A (m >>= f) Q E s := wpC_bind (wpC_any h)
theorem wpC_holding {vs : List Value} {m : Sem α} {Q : α → Shared → Prop} (h : wpC M A m Q E s) : wpC M A (holding vs m) Q E s := fun Γ p hΓ hc => by rw [Sem.wp_holding]; exact h Γ p hΓ hc
theorem wpC_keep {vs : List Value} {m : Sem α} {Q : α → Shared → Prop} (h : wpC M A m Q E s) : wpC M A (m.keep vs) Q E s := fun Γ p hΓ hc => by rw [Sem.wp_keep]; exact h Γ p hΓ hc
theorem wpC_onRaise {m : Sem α} {k : Value → Sem Unit} {Q : α → Shared → Prop} (h : wpC M A m Q (fun e s' => wpC M A (k e) (fun _ s'' => E e s'') E s') s) : wpC M A (m.onRaise k) Q E s := fun Γ p hΓ hc => by
 rw [Sem.wp_onRaise]
 exact Sem.wp_mono M Γ m (fun _ _ _ h' => h') (fun e p' s' h' => h' Γ p' hΓ hc) p s (h Γ p hΓ hc)
theorem wpC_attempt {m : Sem α} {Q : Except Value α → Shared → Prop} (h : wpC M A m (fun a => Q (.ok a)) (fun e => Q (.error e)) s) : wpC M A m.attempt Q E s := fun Γ p hΓ hc => by rw [Sem.wp_attempt]; exact h Γ p hΓ hc
theorem wpC_tryCatch {m : Sem α} {k : Value → Sem α} {Q : α → Shared → Prop} (h : wpC M A m Q (fun e s' => wpC M A (k e) Q E s') s) : wpC M A (tryCatch m k) Q E s := fun Γ p hΓ hc => by
 rw [Sem.wp_tryCatch']
 exact Sem.wp_mono M Γ m (fun _ _ _ h' => h') (fun e p' s' h' => h' Γ p' hΓ hc) p s (h Γ p hΓ hc)
theorem codeC_mono {c : Code} {R R' : Result → Shared → Prop} (h : codeC M A c R s) (hR : ∀ r s, R r s → R' r s) : codeC M A c R' s := fun Γ p hc hΓ cb => wpCode_mono hR (h Γ p hc hΓ cb)
theorem wpC_run {c : Code} {h : Option Value} {Q : Flow → Shared → Prop} (hc : codeC M (A.mark h) c (fun r s' => match r with | .ok f => Q f s' | .error e => E e s') s) (hnb : h ≠ some byPass := by intro x; cases x) : wpC M A (run c h) Q E s :=
 fun Γ p hΓ cb => by rw [Sem.wp_run]; exact hc _ p rfl (hΓ.enter c h p hnb) (cb.enter c h p)
theorem wpC_runValue {c : Code} {Q : Value → Shared → Prop} (hc : codeC M A c (fun r s' => match r with | .ok (.ret v) => Q v s' | .ok _ => False | .error e => E e s') s) : wpC M A (runValue c) Q E s :=
 fun Γ p hΓ cb => by rw [Sem.wp_runValue]; exact hc _ p rfl (hΓ.enter c none p (by intro x; cases x)) (cb.enter c none p)
theorem wpC_call {f : Value} {pos : List Value} {kw : List (Str × Value)} {Q : Value → Shared → Prop} (hc : codeC M A (.call f ⟨pos, kw⟩) (fun r s' => match r with | .ok (.ret v) => Q v s' | .ok _ => False | .error e => E e s') s) : wpC M A (call f pos kw) Q E s := wpC_runValue hc
theorem codeC_of_tree {c : Code} {R : Result → Shared → Prop} (h : wpC M (A.under c) (M.den c) (fun fin s' => match fin with | .done f => R (.ok f) s' | .again c' => c'.quiet = true ∧ codeC M A c' R s') (fun e s' => R (.error e) s') s) : codeC M A c R s := fun Γ p hc hΓ cb => by
 rw [wpCode_iff_wp, hc]
 refine Sem.wp_mono M Γ _ (fun fin p' s' h' => ?_) (fun _ _ _ h' => h') p s (h Γ p (hc ▸ hΓ.in) cb.top)
 cases fin with
 | done f => exact h'
 | again c' => exact ⟨h'.1, h'.2 (Γ.goto c') p' rfl (hΓ.goto c') cb⟩
theorem wpC_of_eq {m : Sem α} {a : α} {f : α → Sem β} {Q : β → Shared → Prop} (e : m = pure a) (h : wpC M A (f a) Q E s) : wpC M A (m >>= f) Q E s := by rw [e]; exact h
theorem wpC_release {α : Type} {t : Sem α} {os : List Value} {keep : α → List Value} {Q : α → Shared → Prop} (h : wpC M A t Q E s) : wpC M A (t >>= fun r => release os (keep r) >>= fun _ => pure r) Q E s :=
 wpC_bind (wpC_mono h (fun r s' hr => fun Γ p _ _ => by
  rw [Sem.wp_bind', Sem.wp_release]
  exact hr) fun _ _ x => x)
theorem wpC_mark {own : List String} {e : Value} {Q : Unit → Shared → Prop} (h : Q () s) : wpC M A (markTheRefusal own e) Q E s := fun Γ p hΓ cb => by
 have hf : pythonCodeMadeTheCall own (((Γ.code, p) :: Γ.below).map (·.1)) = false := by
  have key : ∀ l : List Code, l.any Code.isCaller = true → pythonCodeMadeTheCall own l = false := fun l hl => by
   show ((!(l.any Code.isCaller) && _) && _) = false
   rw [hl]; rfl
  refine key _ ?_
  exact cb
 unfold markTheRefusal
 rw [Sem.wp_bind']
 show Sem.wp M Γ (if pythonCodeMadeTheCall own (((Γ.code, p) :: Γ.below).map (·.1)) = true then _ else _) _ _ p s
 rw [hf, if_neg (by decide)]
 exact h
end
end Mine
set_option maxHeartbeats 0
open PySem PySem.Calls PySem.W PyProof.Rows PyProof
namespace Mine
theorem wp_of_wpC_done {M : Model} {A : Around} {Γ : Ctx} {t : Sem Fin} {R : Result → Shared → Prop} {s : Shared} (hin : Γ.In A) (hc : CT Γ)
  (h : wpC M A t (fun fin s' => ∃ f, fin = .done f ∧ R (.ok f) s') (fun e s' => R (.error e) s') s) (p : Pos) :
  Sem.wp M Γ t (Sem.finPost M Γ R) (fun e _ s' => R (.error e) s') p s := by
 refine Sem.wp_mono M Γ t (fun fin p' s' h' => ?_) (fun _ _ _ h' => h') p s (h Γ p hin hc)
 obtain ⟨f, rfl, hf⟩ := h'
 exact hf
theorem CT_caller : CT ⟨.builtin "claim.caller" {}, none, none, [], none⟩ := rfl
theorem endsC {prog : Program} {w : World} {t : Sem Fin} {s : Shared} {R : Result → Shared → Prop} (hreg : s.asleep)
  (h : wpC (model prog w) callerA t (fun fin s' => ∃ f, fin = .done f ∧ (R (.ok f) s' ∧ leftWithCleanup s'.gens = false)) (fun e s' => R (.error e) s' ∧ leftWithCleanup s'.gens = false) s) :
  ∃ n r s' s'', runN (denote table) prog w n s ⟨t, .builtin "claim.caller" {}, default, []⟩ = .halted (outcomeOf r) s' ∧
   schedN (denote table) prog w n (.single s ⟨t, .builtin "claim.caller" {}, default, []⟩) = .halted (outcomeOf r) s' ∧ s'.forget = s''.forget ∧ R r s'' := by
 have k := wp_of_wpC_done (R := fun r s' => R r s' ∧ leftWithCleanup s'.gens = false) caller_in CT_caller h default
 obtain ⟨n, r, s₁, s₂, hs, hn, hfo, hR⟩ := wp_halts_full (M := model prog w) (R := R) hreg k
 exact ⟨n, r, s₂, s₁, hn, hs, hfo, hR⟩
theorem callFromC {c : ClaimW} {tree : List Value → Sem Fin} {w : World} {s : Shared} {free : Addr → Prop} {gens : Prop} {kept : Heap → Prop} (hz : s.asleep) (hgens : s.gens = #[])
  (hspec : ∀ args, c.pre args = true → WData.layableAll args = true →
   ∀ ord : List DictEntry → List DictEntry, (∀ l, (ord l).Perm l) →
   ∃ vs s₁, layAllW c.records (classAt s.heap) w.params ord args s = some (vs, s₁) ∧
    wpC (model c.prog w) callerA (tree vs) (fun fin s' => ∃ f, fin = .done f ∧ (c.Ends s args vs s₁ (.ok f) s' ∧ s'.os = s.os ∧ AllBare s'.gens ∧ kept s'.heap))
     (fun e s' => c.Ends s args vs s₁ (.error e) s' ∧ s'.os = s.os ∧ AllBare s'.gens ∧ kept s'.heap) s₁) :
  c.CallFrom (fun vs => ⟨tree vs, .builtin "claim.caller" {}, default, []⟩) w free gens kept s := fun args hpre hlay ord hord => by
 obtain ⟨vs, s₁, hlaid, hcode⟩ := hspec args hpre hlay ord hord
 have hal := layAllW_rest _ _ _ hlaid
 obtain ⟨k, r, s', s'', hrun, hsched, hfo, ⟨hc, hos, hkp⟩⟩ := endsC (prog := c.prog) (w := w) (t := tree vs) (s := s₁) (R := fun r s' => c.Ends s args vs s₁ r s' ∧ s'.os = s.os ∧ kept s'.heap) (Shared.asleep_of_life hal.2.2.2 hz)
  (wpC_mono hcode (fun fin s' ⟨f, e, h1, h2, h3, h4⟩ => ⟨f, e, ⟨h1, h2, h4⟩, leftWithCleanup_false_of_bare h3⟩) fun e s' ⟨h1, h2, h3, h4⟩ => ⟨⟨h1, h2, h4⟩, leftWithCleanup_false_of_bare h3⟩)
 obtain ⟨eh, _, _, eo, _⟩ := Shared.forget_eq hfo
 have hc := hc.congr eh
 rw [← eh] at hkp
 rw [← eo] at hos
 have hl : s'.heap.life = s.heap.life := (runN_life _ _ _ hrun).trans hal.2.2.2
 refine ⟨vs, s₁, hlaid, k, _, s', hsched, ?_, (fun _ i x hx => by rw [hgens] at hx; simp at hx), hkp, by rw [hl], Shared.rest_eq hos⟩
 rcases hc with ⟨v, rfl, d1, d2, d3, d4, d5⟩ | ⟨e, ob, cls, rfl, d1, d2, d3, d4, d5⟩
 ·exact .inl ⟨v, rfl, d1, d2, d3, fun b o y _ => d4 b o y, d5⟩
 ·exact .inr ⟨e, ob, cls, rfl, d1, d2, d3, d4, fun b o y _ => d5 b o y⟩
theorem openC {r : RowW} {run : Value → List Value → Sem Value} {tree : List Value → Sem Fin} {q : Program} {loose defs kps : List Str} {writes : Bool} {Xt : Shared → Bool} {XP : (Str → Option Value) → Heap → Prop} {α : Type} {Yf : Shared → α} {Ya : World → α} {YP : World → Heap → Prop} {N : Nat}
  (left : LeftO r.prog q loose Xt Yf Ya N) (hY : ∀ w s, Yf s = Ya w → YP w s.heap) (hYk : ∀ w h h', YP w h → (∀ b o, h.get? b = some o → h'.get? b = some o) → YP w h') (hX : ∀ s, Xt s = true → XP (s.heap.nsMap mainGlobals) s.heap) (hXk : ∀ mg h h', XP mg h → (∀ b o, h.get? b = some o → h'.get? b = some o) → XP mg h')
  (hRf : ∀ s, Xt s = true → RecFacts r.records s.heap) (hwr : (!writes || r.records.isEmpty) = true) (ok : (chainsOk q && opensWell r.prog && (frees r && r.within.isEmpty)) = true) (hb : r.prog.bare) (hw : r.promised)
  (ht : ∀ vs (w : World) (s : Shared) mg f (Q : Fin → Shared → Prop) (E : Value → Shared → Prop), s.heap.Ns mainGlobals mg → mg r.name = some f → wpC (model r.prog w) callerA (run f vs) (fun v s' => Q (.done (.ret v)) s') E s → wpC (model r.prog w) callerA (tree vs) Q E s)
  (pin : ∀ w s, s.heap.isNs mainGlobals = true → Ground q loose [] XP w s (s.heap.nsMap mainGlobals) (s.heap.nsMap builtinsNs) s.heap → ∀ n ∈ defs, isTheDefsW r.prog s.heap n)
  (call : ∀ (w : World) (s₀ s₁ : Shared) (mg mb : Str → Option Value), Ground q loose r.records XP w s₀ mg mb s₁.heap → YP w s₁.heap → ∀ (args : List WData) (vs : List Value) (as : List Addr),
   r.claim.pre args = true → WData.layableAll args = true → Laid r.records w s₀ s₁ args vs as → sysModules < s₀.heap.objs.size → ∃ f, mg r.name = some f ∧
    wpC (model r.prog w) callerA (run f vs) (fun v s' => GoodWG r.claim (classAt s₀.heap) (ExcName.means s₀.heap) args s₁ (.ok (.ret v)) s')
     (fun e s' => GoodWG r.claim (classAt s₀.heap) (ExcName.means s₀.heap) args s₁ (.error e) s') s₁) : r.claim.HoldsOpenBy (fun vs => ⟨tree vs, .builtin "claim.caller" {}, default, []⟩) defs kps writes := by
 obtain ⟨ok, k5⟩ := Bool.and_eq_true_iff.mp ok
 obtain ⟨hch, o1⟩ := Bool.and_eq_true_iff.mp ok
 obtain ⟨k5, k6⟩ := Bool.and_eq_true_iff.mp k5
 obtain ⟨hsame, hu, ha, hap, hm⟩ := frees_parts k5
 have both := fun w => left.behind (XP := fun mg h => XP mg h ∧ RecFacts r.records h) (fun s hs => ⟨hX s hs, hRf s hs⟩) hch w
 refine ⟨⟨hb, o1, by show r.makers.map _ = []; rw [hm]; rfl⟩, hw.witness, fun w => ⟨(both w).1, fun s' hs' => ?_⟩⟩
 obtain ⟨s₀, hf, hg0, s, hT, hz, hgens, hg, G00, y⟩ := (both w).2 s' hs'
 have G0 : Ground q loose [] XP w s (s.heap.nsMap mainGlobals) (s.heap.nsMap builtinsNs) s.heap := ⟨G00.T, G00.B, G00.D, G00.TE, G00.TD, G00.W, G00.X.1, G00.cls, G00.has, G00.apart, G00.once, G00.K⟩
 have RF := G00.X.2
 have hT' := hT
 refine ⟨s₀, hf, hg0, s, hT, pin w s hg G0, RF.1, RF.2.1, ?_⟩
 have hgens : s.gens = #[] := Array.eq_empty_of_size_eq_zero (beq_iff_eq.mp hgens)
 have G : Ground q loose r.records XP w s _ _ s.heap := RF.ground G0
 refine callFromC (c := r.claim) hz hgens fun args hpre hlay ord hord => ?_
 obtain ⟨⟨vs, s₁⟩, hlaid⟩ := Option.isSome_iff_exists.mp (layAllW_isSome (P := w.params) (ord := ord) G.has args r.args s (pre_splitW hpre).1)
 have keeps := layAllW_keeps _ _ _ hlaid
 have hal := layAllW_rest _ _ _ hlaid
 obtain ⟨as, hrd, hin, hold⟩ := reads_layAllW hord _ _ _ hlaid hlay s₁.heap (fun _ _ e => e)
 have L : Laid r.records w s s₁ args vs as := ⟨⟨ord, hord, hlaid⟩, hrd, hin, hold, keeps, hal.1.trans hgens, hal.2.2.1⟩
 have G₁ := G.keeps hXk keeps
 obtain ⟨f, hf, h⟩ := call w s s₁ _ _ G₁ (hYk _ _ _ (hY w s y) keeps) args vs as hpre hlay L G.low
 have hi := ident_freeW hu ha hap
 have hwi : r.claim.within = [] := List.isEmpty_iff.mp k6
 have conv : ∀ {f : Flow} {s'}, GoodWG r.claim (classAt s.heap) (ExcName.means s.heap) args s₁ (.ok f) s' → _ := fun g => g.laid (c := r.claim) hsame hwi hi L
 have convE : ∀ {e : Value} {s'}, GoodWG r.claim (classAt s.heap) (ExcName.means s.heap) args s₁ (.error e) s' → _ := fun g => g.laid (c := r.claim) hsame hwi hi L
 refine ⟨vs, s₁, hlaid, ht vs w s₁ _ f _ _ G₁.T.g hf (wpC_mono h (fun v s' g => ⟨_, rfl, (conv g).1, (conv g).2.1, (conv g).2.2, fun q => ⟨namesKept_of hT' hg kps keeps g.2.1.old, noTable hwr q⟩⟩) fun e s' g => ⟨(convE g).1, (convE g).2.1, (convE g).2.2, fun q => ⟨namesKept_of hT' hg kps keeps g.2.1.old, noTable hwr q⟩⟩)⟩
abbrev WalkC (q : Program) (loose : List Str) (XP : (Str → Option Value) → Heap → Prop) (YP : World → Heap → Prop) (r : RowW) (d : DefRec) (kwd : List (Str × Expr)) : Prop :=
 ∀ (w : World) (s₀ s₁ : Shared) (mg mb : Str → Option Value), Ground q loose r.records XP w s₀ mg mb s₁.heap → YP w s₁.heap → ∀ (a : Addr) (o : Obj) (pm cd doc dV kV : Value), s₁.heap.get? a = some o →
  o.data = .func { PySem.Calls.docDef d.name d.params d.body d.scope pm cd doc with defaults := dV, kwdefaults := kV } → s₁.heap.CodeRec cd d.name → Dflts mg s₁.heap d.params kwd dV kV → mg d.name = some (.ref a) → s₁.gens = #[] →
  ∀ (args : List WData) (vals : List Value) (as : List Addr), r.claim.pre args = true → WData.layableAll args = true → ReadsAllW r.records (classAt s₀.heap) s₁.heap vals args as → WellAll w.params s₁.heap vals args → (∀ a ∈ as, (a == sysModules) = false) →
   wpC (model r.prog w) callerA (PySem.call (.ref a) vals) (fun v s' => GoodWG r.claim (classAt s₀.heap) (ExcName.means s₀.heap) args s₁ (.ok (.ret v)) s')
    (fun e s' => GoodWG r.claim (classAt s₀.heap) (ExcName.means s₀.heap) args s₁ (.error e) s') s₁
namespace Top.PySem.W
open _root_.PySem _root_.PySem.W
theorem holds_open {r : OpenRow} {q : Program} {loose : List Str} {Xt : Shared → Bool} {XP : (Str → Option Value) → Heap → Prop} {α : Type} {Yf : Shared → α} {Ya : World → α} {YP : World → Heap → Prop} {d : DefRec} {kwd : List (Str × Expr)} {N : Nat}
  (left : LeftO r.prog q loose Xt Yf Ya N) (hY : ∀ w s, Yf s = Ya w → YP w s.heap) (hYk : ∀ w h h', YP w h → (∀ b o, h.get? b = some o → h'.get? b = some o) → YP w h')
  (hX : ∀ s, Xt s = true → XP (s.heap.nsMap mainGlobals) s.heap) (hXk : ∀ mg h h', XP mg h → (∀ b o, h.get? b = some o → h'.get? b = some o) → XP mg h')
  (hdef : defOf q r.name = some (d, kwd)) (hp : r.prog.theDef r.name = some (d.params, d.body, d.scope)) (hk : kwWritten? d.params.kwonlyargs d.params.kw_defaults = some kwd) (hRf : ∀ s, Xt s = true → RecFacts r.records s.heap) (hwr : (!r.writes || r.records.isEmpty) = true)
  (k1 : r.wellSaid = true) (ok : (chainsOk q && opensWell r.prog && (frees r.toRowW && r.within.isEmpty)) = true) (hb : r.prog.bare) (hw : r.toRowW.promised)
  (call : WalkC q loose XP YP r.toRowW d kwd) : r.Holds := by
 refine ⟨k1, hw, openC (r := r.toRowW) (run := fun f vs => _root_.PySem.call f vs) (tree := fun vs => do match ← nsGet mainNs r.name with
   | some f => do ret (← _root_.PySem.call f vs)
   | none => unsupported "claim.caller:no-such-global") left hY hYk hX hXk hRf hwr ok hb hw
  (fun vs w s mg f Q E hg hf h => wpC_bindA (wpAny_nsGet hg (by rw [hf]; exact wpC_bind (wpC_mono h (fun _ _ x => wpC_any (wpAny_pure x)) fun _ _ x => x))))
  (fun w s hg G n hn => ?_) fun w s₀ s₁ mg mb G Y args vs as hpre hlay L low => ?_⟩
 ·obtain rfl : n = r.name := by split at hn <;> simp_all
  exact pinned_of_view hg G hdef hp hk
 ·obtain ⟨a, o, pm, cd, doc, dV, kV, h1, h2, h3, h4, h5⟩ := G.fn hdef
  exact ⟨.ref a, h1, call w s₀ s₁ mg mb G Y a o pm cd doc dV kV h2 h3 h4 h5 (defOf_name hdef ▸ h1) L.gens args vs as hpre hlay L.reads L.well (L.low low)⟩
end Top.PySem.W
end Mine
namespace PySem.W.Fast
theorem tw9403850606103653075:True:=⟨⟩
theorem tw9285041638034181000:True:=⟨⟩
theorem tw2091387459669152390:True:=⟨⟩
theorem tw1209875482802733102:True:=⟨⟩
theorem tw14895578970461114871:True:=⟨⟩
theorem tw12364483417078856567:True:=⟨⟩
theorem tw8112015582852816960:True:=⟨⟩
theorem tw18131361103968630303:True:=⟨⟩
theorem tw9092782453735420098:True:=⟨⟩
theorem tw7134474536503570453:True:=⟨⟩
theorem tw15169573535225922112:True:=⟨⟩
theorem tw4866335246419862962:True:=⟨⟩
theorem tw8906772984580962642:True:=⟨⟩
theorem tw8847558157017044658:True:=⟨⟩
theorem tw1378967640734764281:True:=⟨⟩
theorem tw4431424341773769798:True:=⟨⟩
theorem tw7027562279176511632:True:=⟨⟩
theorem tw7021635144205031607:True:=⟨⟩
theorem tw912203691779275539:True:=⟨⟩
theorem tw8509134556929567802:True:=⟨⟩
theorem tw10661945016153083106:True:=⟨⟩
theorem tw1772937664110651934:True:=⟨⟩
theorem tw18281357415112394040:True:=⟨⟩
theorem tw6070225141661788692:True:=⟨⟩
theorem tw7500964878306669301:True:=⟨⟩
theorem tw17880792388180159143:True:=⟨⟩
theorem tw11180282317131950520:True:=⟨⟩
theorem tw15621161929520909983:True:=⟨⟩
theorem tw12266225452886643154:True:=⟨⟩
theorem tw17098455915052109945:True:=⟨⟩
theorem tw5067425621309972576:True:=⟨⟩
theorem tw15696562729819271006:True:=⟨⟩
theorem tw14375409211434583183:True:=⟨⟩
theorem tw1281338152811626030:True:=⟨⟩
theorem tw2215476353497681424:True:=⟨⟩
theorem tw14871347527520823768:True:=⟨⟩
theorem tw14138160106624755588:True:=⟨⟩
theorem tw6547271416471175477:True:=⟨⟩
theorem tw10249519751091253075:True:=⟨⟩
theorem tw4188054213609207168:True:=⟨⟩
theorem tw3825410644630802256:True:=⟨⟩
theorem tw8370245773121645869:True:=⟨⟩
theorem tw7534823954736982425:True:=⟨⟩
theorem tw13276321286006098375:True:=⟨⟩
theorem tw11828426312895163386:True:=⟨⟩
theorem tw13849739217350712415:True:=⟨⟩
theorem tw4486927382411810019:True:=⟨⟩
theorem tw4982376179566955690:True:=⟨⟩
theorem tw5151651326323843121:True:=⟨⟩
theorem tw6022620869515540698:True:=⟨⟩
theorem tw17872949338438304419:True:=⟨⟩
theorem tw6163197919371484862:True:=⟨⟩
theorem tw5612027799551591015:True:=⟨⟩
theorem tw3087721111242562698:True:=⟨⟩
theorem tw130116922299973399:True:=⟨⟩
theorem tw3755469107209583281:True:=⟨⟩
theorem tw16124734628488012778:True:=⟨⟩
theorem tw18370961386461424677:True:=⟨⟩
theorem tw10028544854959109375:True:=⟨⟩
theorem tw10293500362232203669:True:=⟨⟩
theorem tw15362221222649168705:True:=⟨⟩
theorem tw2004888521349910989:True:=⟨⟩
theorem tw15920897141552189491:True:=⟨⟩
theorem tw1331129705604030267:True:=⟨⟩
theorem tw12939274722317372951:True:=⟨⟩
theorem tw5586740213268027645:True:=⟨⟩
theorem tw3046320995902297914:True:=⟨⟩
theorem tw16887503535383242942:True:=⟨⟩
theorem tw8095502341531337274:True:=⟨⟩
theorem tw13628251398576808481:True:=⟨⟩
theorem tw12020705930790851657:True:=⟨⟩
theorem tw12699301575144333062:True:=⟨⟩
theorem tw5550059924562256853:True:=⟨⟩
theorem tw10842407337354843562:True:=⟨⟩
theorem tw11635888746677344242:True:=⟨⟩
theorem tw10215363416742278488:True:=⟨⟩
theorem tw15062378898178013629:True:=⟨⟩
theorem tw5420948223209469973:True:=⟨⟩
theorem tw12705021475189484577:True:=⟨⟩
theorem tw2465642445736850699:True:=⟨⟩
theorem tw18225491748610666297:True:=⟨⟩
theorem tw13626227430934574619:True:=⟨⟩
theorem tw8297396673338263169:True:=⟨⟩
theorem tw3499647257393348429:True:=⟨⟩
theorem tw16637672907792064415:True:=⟨⟩
theorem tw17687239096219241255:True:=⟨⟩
theorem tw4346840795584843105:True:=⟨⟩
theorem tw11511861526742630384:True:=⟨⟩
theorem tw4650973455651195614:True:=⟨⟩
theorem tw10003221316294566325:True:=⟨⟩
theorem tw14970610044726993092:True:=⟨⟩
theorem tw5432252931057220789:True:=⟨⟩
theorem tw18265335672808903532:True:=⟨⟩
theorem tw744907991409113878:True:=⟨⟩
theorem tw5314397399842986623:True:=⟨⟩
theorem tw4192592658283405491:True:=⟨⟩
theorem tw13381368058174532365:True:=⟨⟩
theorem tw18222000814041127537:True:=⟨⟩
theorem tw8837993428191362878:True:=⟨⟩
theorem tw13910168001839430060:True:=⟨⟩
theorem tw15595510228720153009:True:=⟨⟩
theorem tw14286056753574663917:True:=⟨⟩
theorem tw4792427774242966488:True:=⟨⟩
theorem tw4060886489401227558:True:=⟨⟩
theorem tw17327226575892747487:True:=⟨⟩
theorem tw3534110595592783446:True:=⟨⟩
theorem tw11385050572333651303:True:=⟨⟩
theorem tw5653333698925517958:True:=⟨⟩
theorem tw2915716085423276615:True:=⟨⟩
theorem tw3286237484780727412:True:=⟨⟩
theorem tw1742810663498511424:True:=⟨⟩
theorem tw2397166295498406343:True:=⟨⟩
theorem tw17587162932637353493:True:=⟨⟩
theorem tw14284215257469855390:True:=⟨⟩
theorem tw797365984933571445:True:=⟨⟩
theorem tw128272765722689874:True:=⟨⟩
theorem tw11978828239583382070:True:=⟨⟩
theorem tw17695023324188482606:True:=⟨⟩
theorem tw7198690473684576530:True:=⟨⟩
theorem tw12675513788578406715:True:=⟨⟩
theorem tw3883542375387525661:True:=⟨⟩
theorem tw3458019967702159270:True:=⟨⟩
theorem tw6538825149172298552:True:=⟨⟩
theorem tw16652757975406110312:True:=⟨⟩
theorem tw15710905170990987132:True:=⟨⟩
theorem tw13717813691865263394:True:=⟨⟩
theorem tw6278125532330213941:True:=⟨⟩
theorem tw9756742113906598498:True:=⟨⟩
theorem tw8905358940946486544:True:=⟨⟩
theorem tw5181902607937315885:True:=⟨⟩
theorem tw12894824459394426812:True:=⟨⟩
theorem tw13751169379857871955:True:=⟨⟩
theorem tw17605966860649852600:True:=⟨⟩
theorem tw14056605017031177854:True:=⟨⟩
theorem tw8798379808591498898:True:=⟨⟩
theorem tw10962437307047222317:True:=⟨⟩
theorem tw1599185865551647190:True:=⟨⟩
theorem tw5683708841543952198:True:=⟨⟩
theorem tw6415718197663192618:True:=⟨⟩
theorem tw13711545670985367532:True:=⟨⟩
theorem tw6491168301775917123:True:=⟨⟩
theorem tw9076938575744848867:True:=⟨⟩
theorem tw6742514254078501814:True:=⟨⟩
theorem tw1011192767765976591:True:=⟨⟩
theorem tw1243987970573287594:True:=⟨⟩
theorem tw8199510303511674617:True:=⟨⟩
theorem tw10185247999782729858:True:=⟨⟩
theorem tw13343143994867455163:True:=⟨⟩
theorem tw9082912167674835979:True:=⟨⟩
theorem tw17089649343872659054:True:=⟨⟩
theorem tw9781670641050755462:True:=⟨⟩
theorem tw6485996279927733238:True:=⟨⟩
theorem tw7098554978441763752:True:=⟨⟩
theorem tw17867306445569339792:True:=⟨⟩
theorem tw7167318953292990350:True:=⟨⟩
theorem tw11915137968533823859:True:=⟨⟩
theorem tw15248824789645242384:True:=⟨⟩
theorem tw16771655189009232156:True:=⟨⟩
theorem tw2969306033716236215:True:=⟨⟩
theorem tw15703861958210169675:True:=⟨⟩
theorem tw15156285803696759484:True:=⟨⟩
theorem tw17210175117780643479:True:=⟨⟩
theorem tw10992806773854379658:True:=⟨⟩
theorem tw13043026837758303465:True:=⟨⟩
theorem tw4146686699594662718:True:=⟨⟩
theorem tw14670568743213934010:True:=⟨⟩
theorem tw5530271093034082307:True:=⟨⟩
theorem tw372440790389533721:True:=⟨⟩
theorem tw9120615659939543391:True:=⟨⟩
theorem tw11165234642355796138:True:=⟨⟩
theorem tw4595322187227626727:True:=⟨⟩
theorem tw11644916959224129371:True:=⟨⟩
theorem tw10469771081397465127:True:=⟨⟩
theorem tw1520915800794761237:True:=⟨⟩
theorem tw13644749857011063955:True:=⟨⟩
theorem tw13990290494139793329:True:=⟨⟩
theorem tw15073594732357768733:True:=⟨⟩
theorem tw7215955421125575958:True:=⟨⟩
theorem tw10441212882946418543:True:=⟨⟩
theorem tw8320444748165679377:True:=⟨⟩
theorem tw4140072948293450885:True:=⟨⟩
theorem tw945153401410757799:True:=⟨⟩
theorem tw3575944433709596901:True:=⟨⟩
theorem tw11522985868088839068:True:=⟨⟩
theorem tw8022198324488287104:True:=⟨⟩
theorem tw14635484533575839776:True:=⟨⟩
theorem tw4196411229164609023:True:=⟨⟩
theorem tw9436268853223180723:True:=⟨⟩
theorem tw13576756868693827732:True:=⟨⟩
theorem tw18338849025795478590:True:=⟨⟩
theorem tw11607078263508519575:True:=⟨⟩
theorem tw465045908560078732:True:=⟨⟩
theorem tw17534959914811626563:True:=⟨⟩
theorem tw9010881674035241312:True:=⟨⟩
theorem tw16138442463630478040:True:=⟨⟩
theorem tw785520274823941313:True:=⟨⟩
theorem tw1877285190462399335:True:=⟨⟩
theorem tw2692821863048832577:True:=⟨⟩
theorem tw17113960201754765388:True:=⟨⟩
theorem tw6443863310560369882:True:=⟨⟩
theorem tw4341935829878259166:True:=⟨⟩
theorem tw16680236115752925511:True:=⟨⟩
theorem tw843368526027310525:True:=⟨⟩
theorem tw18221540532851127411:True:=⟨⟩
theorem tw3310126426044646502:True:=⟨⟩
theorem tw16917038299366573836:True:=⟨⟩
theorem tw3388359116188665338:True:=⟨⟩
theorem tw7654059221111525950:True:=⟨⟩
theorem tw7605497775517581840:True:=⟨⟩
theorem tw9349217344999046188:True:=⟨⟩
theorem tw8585058818277818648:True:=⟨⟩
theorem tw3670002811536346116:True:=⟨⟩
theorem tw6245704525343328568:True:=⟨⟩
theorem tw7122406725921636918:True:=⟨⟩
theorem tw12239517892113335442:True:=⟨⟩
theorem tw9418288110678038867:True:=⟨⟩
theorem tw15656354264616135729:True:=⟨⟩
theorem tw9833875090433198734:True:=⟨⟩
theorem tw5536247898562475838:True:=⟨⟩
theorem tw17890873253145788487:True:=⟨⟩
theorem tw11006041671795026587:True:=⟨⟩
theorem tw11869484917516455504:True:=⟨⟩
theorem tw2545337000323288495:True:=⟨⟩
theorem tw13811088319433336513:True:=⟨⟩
theorem tw1906497517497884126:True:=⟨⟩
theorem tw3944949849801829471:True:=⟨⟩
theorem tw9044958198499993894:True:=⟨⟩
theorem tw8106431972079947243:True:=⟨⟩
theorem tw10460425131761614629:True:=⟨⟩
theorem tw13280298565738616849:True:=⟨⟩
theorem tw11529275272941130171:True:=⟨⟩
theorem tw16700052851191848701:True:=⟨⟩
theorem tw1182799019701691551:True:=⟨⟩
theorem tw10261213719288780748:True:=⟨⟩
theorem tw9288134739526345196:True:=⟨⟩
theorem tw18078952412337853430:True:=⟨⟩
theorem tw6989548724286551675:True:=⟨⟩
theorem tw2159904434705436655:True:=⟨⟩
theorem tw8406451058476223562:True:=⟨⟩
theorem tw12665576515219145755:True:=⟨⟩
theorem tw3520380872743947281:True:=⟨⟩
theorem tw12574175280947359758:True:=⟨⟩
theorem tw17602910466366503987:True:=⟨⟩
theorem tw13650881753177907729:True:=⟨⟩
theorem tw4380537080057647814:True:=⟨⟩
theorem tw5445182878578018197:True:=⟨⟩
theorem tw5219782237969721785:True:=⟨⟩
theorem tw10082709077063673355:True:=⟨⟩
theorem tw13206209439748119710:True:=⟨⟩
theorem tw13862293103220348488:True:=⟨⟩
theorem tw16622064894414111542:True:=⟨⟩
theorem tw2729699275430376455:True:=⟨⟩
theorem tw3064588549679864231:True:=⟨⟩
theorem tw6198222854843533857:True:=⟨⟩
theorem tw8467471492507196074:True:=⟨⟩
theorem tw13609442346510256086:True:=⟨⟩
theorem tw15204591662385848423:True:=⟨⟩
theorem tw2994739483886235090:True:=⟨⟩
theorem tw8794537802179652287:True:=⟨⟩
theorem tw3772068725796214050:True:=⟨⟩
theorem tw8363826178195264341:True:=⟨⟩
theorem tw15482289055761681187:True:=⟨⟩
theorem tw16315050403175878557:True:=⟨⟩
theorem tw8674471193653994104:True:=⟨⟩
theorem tw4587619981431097508:True:=⟨⟩
theorem tw9710828634821266843:True:=⟨⟩
theorem tw2689457821771184550:True:=⟨⟩
theorem tw8507624024521699100:True:=⟨⟩
theorem tw544482117762313184:True:=⟨⟩
theorem tw13042496594243150174:True:=⟨⟩
theorem tw9394950169776654309:True:=⟨⟩
theorem tw12084384751744237604:True:=⟨⟩
theorem tw13417177649014905992:True:=⟨⟩
theorem tw15659115592387630130:True:=⟨⟩
theorem tw16124900312393897742:True:=⟨⟩
theorem tw8537659701761938814:True:=⟨⟩
theorem tw9023814080774357512:True:=⟨⟩
theorem tw4498805831857029278:True:=⟨⟩
theorem tw7947393717587864111:True:=⟨⟩
theorem tw2737355603842231497:True:=⟨⟩
theorem tw9182741287838383557:True:=⟨⟩
theorem tw6029710631007558933:True:=⟨⟩
theorem tw9829335261271994801:True:=⟨⟩
theorem tw7075971318718322640:True:=⟨⟩
theorem tw6928829754299448086:True:=⟨⟩
theorem tw12971484642287192655:True:=⟨⟩
theorem tw16209325272935890212:True:=⟨⟩
theorem tw240288795796921987:True:=⟨⟩
theorem tw17636681350004388789:True:=⟨⟩
theorem tw16048991364534104549:True:=⟨⟩
theorem tw3088618244674955588:True:=⟨⟩
theorem tw6482206180886156820:True:=⟨⟩
theorem tw4360172735705349738:True:=⟨⟩
theorem tw3964781194134979297:True:=⟨⟩
theorem tw10419642676105025976:True:=⟨⟩
theorem tw8562525232995114487:True:=⟨⟩
theorem tw8504364379003193446:True:=⟨⟩
theorem tw15185234926679601877:True:=⟨⟩
theorem tw11856687038822647150:True:=⟨⟩
theorem tw7303622497462537934:True:=⟨⟩
theorem tw9285788706386509741:True:=⟨⟩
theorem tw10949350657305443842:True:=⟨⟩
theorem tw9794689447026543671:True:=⟨⟩
theorem tw6899186783657317963:True:=⟨⟩
theorem tw822232212084230782:True:=⟨⟩
theorem tw15380197675694840482:True:=⟨⟩
theorem tw18084119504949551745:True:=⟨⟩
theorem tw9423848792269566072:True:=⟨⟩
theorem tw14426906041417241847:True:=⟨⟩
theorem tw17687865521725861283:True:=⟨⟩
theorem tw8998622051665586231:True:=⟨⟩
theorem tw7638529744847246974:True:=⟨⟩
theorem tw12766003254511861225:True:=⟨⟩
theorem tw12104038771614354368:True:=⟨⟩
theorem tw12297103261282164938:True:=⟨⟩
theorem tw15848241090295793199:True:=⟨⟩
theorem tw7367565541214487108:True:=⟨⟩
theorem tw17941091259882043038:True:=⟨⟩
theorem tw6247304392870410794:True:=⟨⟩
theorem tw2010000786223061955:True:=⟨⟩
theorem tw15065212680427151695:True:=⟨⟩
theorem tw14692280723863465295:True:=⟨⟩
theorem tw10092838256979958221:True:=⟨⟩
theorem tw9895077385244845025:True:=⟨⟩
theorem tw13963213351792387223:True:=⟨⟩
theorem tw15946034030463453494:True:=⟨⟩
theorem tw10606854221051241433:True:=⟨⟩
theorem tw3581645338158516794:True:=⟨⟩
theorem tw16798488339097508447:True:=⟨⟩
theorem tw10084991857785480324:True:=⟨⟩
theorem tw3002531680831918901:True:=⟨⟩
theorem tw7448069844869433127:True:=⟨⟩
theorem tw7971881802113384310:True:=⟨⟩
theorem tw7456860014167196332:True:=⟨⟩
theorem tw9072184757976371100:True:=⟨⟩
theorem tw15217644867577552716:True:=⟨⟩
theorem tw9819345011809424471:True:=⟨⟩
theorem tw11898908749702729691:True:=⟨⟩
theorem tw2574336438546127012:True:=⟨⟩
theorem tw1386377741258321373:True:=⟨⟩
theorem tw11240372824308655420:True:=⟨⟩
theorem tw16283720852203669432:True:=⟨⟩
theorem tw16786500603282615875:True:=⟨⟩
theorem tw3478669659930955669:True:=⟨⟩
theorem tw4185362388677525868:True:=⟨⟩
theorem tw4858185904390469053:True:=⟨⟩
theorem tw405096714068589040:True:=⟨⟩
theorem tw11776024162559754557:True:=⟨⟩
theorem tw13404968529133941483:True:=⟨⟩
theorem tw17351470973182323008:True:=⟨⟩
theorem tw17211203980602080932:True:=⟨⟩
theorem tw6438040654746423568:True:=⟨⟩
theorem tw12132868291037528682:True:=⟨⟩
theorem tw7107908299482840165:True:=⟨⟩
theorem tw14211624010090356110:True:=⟨⟩
theorem tw13076046725035529235:True:=⟨⟩
theorem tw17187844319197457960:True:=⟨⟩
theorem tw9891810708714912339:True:=⟨⟩
theorem tw2228719406493935564:True:=⟨⟩
theorem tw10650989228893875351:True:=⟨⟩
theorem tw16211841209844975708:True:=⟨⟩
theorem tw1707683899883771503:True:=⟨⟩
theorem tw5276816359811653901:True:=⟨⟩
theorem tw16632591315221601212:True:=⟨⟩
theorem tw11340312954496977651:True:=⟨⟩
theorem tw12958300908908923646:True:=⟨⟩
theorem tw15905686123361366132:True:=⟨⟩
theorem tw17861337664547200217:True:=⟨⟩
theorem tw3738631968666053578:True:=⟨⟩
theorem tw9000906532585506055:True:=⟨⟩
theorem tw7397753715852402579:True:=⟨⟩
theorem tw2956434955183785040:True:=⟨⟩
theorem tw15770534736326517423:True:=⟨⟩
theorem tw15683206823939416275:True:=⟨⟩
theorem tw5112615232321939500:True:=⟨⟩
theorem tw3145488423618312057:True:=⟨⟩
theorem tw6775248833639183038:True:=⟨⟩
end PySem.W.Fast
namespace Mine
namespace Top
open_top hd for PySem.Challenge.rw_in0016_01
end Top
end Mine
set_option maxHeartbeats 400000
namespace Mine
open PySem PySem.W PySem.Calls PySem.Spec PyProof.Rows
noncomputable def Sub (g h : Heap) : Prop := ∀ b o, g.get? b = some o → h.get? b = some o
theorem Sub.refl {h : Heap} : Sub h h := fun _ _ e => e
theorem Sub.trans {a b c : Heap} (x : Sub a b) (y : Sub b c) : Sub a c := fun d o e => y d o (x d o e)
theorem Sub.push {h : Heap} {o : Obj} : Sub h (h.push o) := fun _ _ e => Heap.get?_push_of_some _ e
theorem Sub.hide {h : Heap} {l : List Addr} : Sub (hideAll h l) h := fun _ _ e => of_hideAll l e
noncomputable def Sm (s s' : Shared) : Prop := ∃ h tk, s' = { s with heap := h, toks := tk }
theorem Sm.refl {s : Shared} : Sm s s := ⟨_, _, rfl⟩
theorem Sm.trans {a b c : Shared} (x : Sm a b) (y : Sm b c) : Sm a c := by
 obtain ⟨h, tk, rfl⟩ := x
 obtain ⟨h', tk', rfl⟩ := y
 exact ⟨h', tk', rfl⟩
theorem Sm.mk {s : Shared} {h : Heap} {tk : Nat} : Sm s { s with heap := h, toks := tk } := ⟨_, _, rfl⟩
theorem Sm.heap {s : Shared} {h : Heap} : Sm s { s with heap := h } := ⟨_, _, rfl⟩
theorem Sm.toks {s : Shared} {tk : Nat} : Sm s { s with toks := tk } := ⟨_, _, rfl⟩
noncomputable def But (W : List Addr) (h h' : Heap) : Prop := ∀ b o, h.get? b = some o → ∃ o', h'.get? b = some o' ∧ (b ∉ W → o' = o)
theorem But.of_sub {W : List Addr} {h h' : Heap} (x : Sub h h') : But W h h' := fun b o e => ⟨o, x b o e, fun _ => rfl⟩
theorem But.trans {W : List Addr} {a b c : Heap} (x : But W a b) (y : But W b c) : But W a c := fun d o e => by
 obtain ⟨o₁, e₁, h₁⟩ := x d o e
 obtain ⟨o₂, e₂, h₂⟩ := y d o₁ e₁
 exact ⟨o₂, e₂, fun n => (h₂ n).trans (h₁ n)⟩
theorem But.keep {W : List Addr} {h h' : Heap} (x : But W h h') {b : Addr} {o : Obj} (n : b ∉ W) (e : h.get? b = some o) : h'.get? b = some o := by
 obtain ⟨o', e', q⟩ := x b o e
 rw [e', q n]
theorem But.of_ext {W : List Addr} {h h' : Heap} {a : Addr} {oa : Obj} (x : Heap.ExtBut a h h') (m : a ∈ W) (l : h'.get? a = some oa) : But W h h' := fun b o e => by
 by_cases q : b = a
 ·subst q; exact ⟨oa, l, fun n => absurd m n⟩
 ·exact ⟨o, x b o q e, fun _ => rfl⟩
theorem But.of_same {W : List Addr} {h h' : Heap} {a : Addr} {oa : Obj} (x : Heap.SameBut a h h') (m : a ∈ W) (l : h'.get? a = some oa) : But W h h' := But.of_ext x.extBut m l
theorem But.mono {W W' : List Addr} {h h' : Heap} (x : But W h h') (m : ∀ a ∈ W, a ∈ W') : But W' h h' := fun b o e =>
 let ⟨o', e', q⟩ := x b o e; ⟨o', e', fun n => q fun z => n (m b z)⟩
theorem But.live {W : List Addr} {h h' : Heap} (x : But W h h') {b : Addr} (l : ∃ o, h.get? b = some o) : ∃ o, h'.get? b = some o :=
 let ⟨o, e⟩ := l; let ⟨o', e', _⟩ := x b o e; ⟨o', e'⟩
structure Fz (g : Heap) (W : List Addr) (h : Heap) : Prop where
 sub : Sub g h
 off : ∀ a ∈ W, g.get? a = none
theorem Fz.ext {g h h' : Heap} {W : List Addr} (x : Fz g W h) (y : Sub h h') : Fz g W h' := ⟨x.sub.trans y, x.off⟩
theorem Fz.but {g h h' : Heap} {W : List Addr} (x : Fz g W h) (y : But W h h') : Fz g W h' :=
 ⟨fun b o e => y.keep (fun q => by rw [x.off b q] at e; cases e) (x.sub b o e), x.off⟩
theorem Fz.grow {g h : Heap} {W : List Addr} (x : Fz g W h) : Fz (hideAll h W) W h ∧ Sub g (hideAll h W) :=
 ⟨⟨Sub.hide, fun _ m => hideAll_none W m⟩, fun b o e => hideAll_get W (x.sub b o e) fun q => by rw [x.off b q] at e; cases e⟩
theorem Fz.lt {g h : Heap} {W : List Addr} (x : Fz g W h) {b : Addr} {o : Obj} (e : g.get? b = some o) : b < h.objs.size := Heap.lt_size (x.sub b o e)
theorem Fz.mono {g h : Heap} {W W' : List Addr} (x : Fz g W h) (m : ∀ a ∈ W', a ∈ W) : Fz g W' h := ⟨x.sub, fun a n => x.off a (m a n)⟩
theorem Fz.cons {g h : Heap} {W : List Addr} {a : Addr} (x : Fz g W h) (m : g.get? a = none) : Fz g (a :: W) h := ⟨x.sub, fun b n => by
 rcases List.mem_cons.mp n with rfl | n
 ·exact m
 ·exact x.off b n⟩
theorem none_of_ge {h : Heap} {a : Addr} (l : h.objs.size ≤ a) : h.get? a = none := by
 cases e : h.get? a with
 | none => rfl
 | some o => exact absurd (Heap.lt_size e) (Nat.not_lt.mpr l)
theorem Sub.none {g h : Heap} (x : Sub g h) {a : Addr} (e : h.get? a = none) : g.get? a = none := by
 cases q : g.get? a with
 | none => rfl
 | some o => rw [x a o q] at e; cases e
noncomputable def Rd (h : Heap) (v : Value) (d : PyData) : Prop := ∃ as, Reads h v d as
noncomputable def Rds (h : Heap) (vs : List Value) (ds : List PyData) : Prop := ∃ as, ReadsAll h vs ds as
theorem Rd.mono {g h : Heap} {v : Value} {d : PyData} (x : Rd g v d) (s : Sub g h) : Rd h v d := let ⟨as, r⟩ := x; ⟨as, Reads.keeps s r⟩
theorem Rds.mono {g h : Heap} {v : List Value} {d : List PyData} (x : Rds g v d) (s : Sub g h) : Rds h v d := let ⟨as, r⟩ := x; ⟨as, ReadsAll.keeps s r⟩
theorem Rd.int {h : Heap} {i : Int} {t : Tok} : Rd h (.int i t) (.int i) := ⟨_, .int i t⟩
theorem Rd.str {h : Heap} {x : Str} {t : Tok} : Rd h (.str x t) (.str x) := ⟨_, .str x t⟩
theorem Rd.bool {h : Heap} {b : Bool} : Rd h (.bool b) (.bool b) := ⟨_, .bool b⟩
theorem Rds.nil {h : Heap} : Rds h [] [] := ⟨_, .nil⟩
theorem Rds.cons {h : Heap} {v : Value} {vs : List Value} {d : PyData} {ds : List PyData} (x : Rd h v d) (y : Rds h vs ds) : Rds h (v :: vs) (d :: ds) :=
 let ⟨_, r⟩ := x; let ⟨_, q⟩ := y; ⟨_, .cons r q⟩
theorem Rds.inv_nil {h : Heap} {vs : List Value} (x : Rds h vs []) : vs = [] := by obtain ⟨as, r⟩ := x; cases r; rfl
theorem Rds.inv_cons {h : Heap} {vs : List Value} {d : PyData} {ds : List PyData} (x : Rds h vs (d :: ds)) : ∃ v ws, vs = v :: ws ∧ Rd h v d ∧ Rds h ws ds := by
 obtain ⟨as, r⟩ := x
 cases r with
 | cons p q => exact ⟨_, _, rfl, ⟨_, p⟩, ⟨_, q⟩⟩
theorem Rds.length {h : Heap} {vs : List Value} {ds : List PyData} (x : Rds h vs ds) : vs.length = ds.length := by
 induction ds generalizing vs with
 | nil => rw [x.inv_nil]; rfl
 | cons d ds ih => obtain ⟨v, ws, rfl, _, r⟩ := x.inv_cons; rw [List.length_cons, List.length_cons, ih r]
theorem Rds.append {h : Heap} {vs ws : List Value} {ds es : List PyData} (x : Rds h vs ds) (y : Rds h ws es) : Rds h (vs ++ ws) (ds ++ es) := by
 induction ds generalizing vs with
 | nil => rw [x.inv_nil]; exact y
 | cons d ds ih => obtain ⟨v, us, rfl, p, r⟩ := x.inv_cons; exact .cons p (ih r)
theorem Rds.get {h : Heap} {vs : List Value} {ds : List PyData} (x : Rds h vs ds) {i : Nat} {d : PyData} (e : ds[i]? = some d) : ∃ v, vs[i]? = some v ∧ Rd h v d := by
 induction ds generalizing vs i with
 | nil => simp at e
 | cons d' ds ih =>
  obtain ⟨v, us, rfl, p, r⟩ := x.inv_cons
  cases i with
  | zero => simp at e; subst e; exact ⟨v, rfl, p⟩
  | succ i => simp at e; simpa using ih r e
theorem Rds.take {h : Heap} {vs : List Value} {ds : List PyData} (x : Rds h vs ds) (n : Nat) : Rds h (vs.take n) (ds.take n) := by
 induction ds generalizing vs n with
 | nil => rw [x.inv_nil]; simpa using Rds.nil
 | cons d' ds ih =>
  obtain ⟨v, us, rfl, p, r⟩ := x.inv_cons
  cases n with
  | zero => exact .nil
  | succ n => simpa using Rds.cons p (ih r n)
theorem Rds.drop {h : Heap} {vs : List Value} {ds : List PyData} (x : Rds h vs ds) (n : Nat) : Rds h (vs.drop n) (ds.drop n) := by
 induction ds generalizing vs n with
 | nil => rw [x.inv_nil]; simpa using Rds.nil
 | cons d' ds ih =>
  obtain ⟨v, us, rfl, p, r⟩ := x.inv_cons
  cases n with
  | zero => exact x
  | succ n => simpa using ih r n
theorem Rd.inv_int {h : Heap} {v : Value} {i : Int} (x : Rd h v (.int i)) : ∃ t, v = .int i t := by obtain ⟨as, r⟩ := x; cases r; exact ⟨_, rfl⟩
theorem Rd.inv_str {h : Heap} {v : Value} {x : Str} (r : Rd h v (.str x)) : ∃ t, v = .str x t := by obtain ⟨as, r⟩ := r; cases r; exact ⟨_, rfl⟩
theorem Rd.inv_bool {h : Heap} {v : Value} {b : Bool} (r : Rd h v (.bool b)) : v = .bool b := by obtain ⟨as, r⟩ := r; cases r; rfl
theorem Rd.inv_list {h : Heap} {v : Value} {ds : List PyData} (r : Rd h v (.list ds)) : ∃ a o vs n, v = .ref a ∧ h.get? a = some o ∧ o.cls = .type "list" ∧ o.data = .seq vs n ∧ Rds h vs.toList ds := by
 obtain ⟨as, r⟩ := r
 cases r with
 | list h1 h2 h3 h4 => exact ⟨_, _, _, _, rfl, h1, h2, h3, _, h4⟩
theorem Rd.inv_tuple {h : Heap} {v : Value} {ds : List PyData} (r : Rd h v (.tuple ds)) : ∃ a o vs n, v = .ref a ∧ h.get? a = some o ∧ o.cls = .type "tuple" ∧ o.data = .seq vs n ∧ Rds h vs.toList ds := by
 obtain ⟨as, r⟩ := r
 cases r with
 | tuple h1 h2 h3 h4 => exact ⟨_, _, _, _, rfl, h1, h2, h3, _, h4⟩
theorem Rd.list {h : Heap} {a : Addr} {o : Obj} {vs : Array Value} {n : Nat} {ds : List PyData} (h1 : h.get? a = some o) (h2 : o.cls = .type "list") (h3 : o.data = .seq vs n) (h4 : Rds h vs.toList ds) : Rd h (.ref a) (.list ds) :=
 let ⟨_, r⟩ := h4; ⟨_, .list h1 h2 h3 r⟩
theorem Rd.tuple {h : Heap} {a : Addr} {o : Obj} {vs : Array Value} {n : Nat} {ds : List PyData} (h1 : h.get? a = some o) (h2 : o.cls = .type "tuple") (h3 : o.data = .seq vs n) (h4 : Rds h vs.toList ds) : Rd h (.ref a) (.tuple ds) :=
 let ⟨_, r⟩ := h4; ⟨_, .tuple h1 h2 h3 r⟩
structure Vars (env : Env) (m : Str → Option Value) (h : Heap) : Prop where
 fn : env.scope.kind = .function
 loc : ∃ ml, h.Ns env.locals ml ∧ ∀ x, env.kindOf x = some .local → ml x = m x
 cel : ∀ x, (env.kindOf x = some .cell ∨ env.kindOf x = some .free) → ∀ c, env.cells.lookup x = some c → h.IsCell c (m x)
 offL : ∀ p ∈ env.cells, p.2 ≠ env.locals
noncomputable def foot (env : Env) : List Addr := env.locals :: env.cells.map (·.2)
noncomputable abbrev upd (m : Str → Option Value) (x : Str) (v : Value) : Str → Option Value := fun y => if y = x then some v else m y
theorem Vars.sub {env : Env} {m : Str → Option Value} {h h' : Heap} (x : Vars env m h) (s : Sub h h') : Vars env m h' :=
 let ⟨ml, n, e⟩ := x.loc
 ⟨x.fn, ⟨ml, n.keeps s, e⟩, fun y k c l => (x.cel y k c l).keeps s, x.offL⟩
theorem Vars.but {env : Env} {m : Str → Option Value} {h h' : Heap} {W : List Addr} (x : Vars env m h) (s : But W h h') (off : ∀ a ∈ foot env, a ∉ W) : Vars env m h' := by
 obtain ⟨ml, n, e⟩ := x.loc
 refine ⟨x.fn, ⟨ml, n.at' fun o q => s.keep (off _ (.head _)) q, e⟩, fun y k c l => ?_, x.offL⟩
 obtain ⟨o, ho, hd⟩ := x.cel y k c l
 exact ⟨o, s.keep (off _ (.tail _ (List.mem_map.mpr ⟨(y, c), PySem.mem_of_lookup l, rfl⟩))) ho, hd⟩
noncomputable def hasVar (env : Env) (x : Str) : Bool := match env.kindOf x with
 | some .local => true
 | some .cell => (env.cells.lookup x).isSome
 | some .free => (env.cells.lookup x).isSome && !(x == ("__classdict__" : Str))
 | _ => false
noncomputable def canStore (env : Env) (x : Str) : Bool := match env.kindOf x with
 | some .local => true
 | some .cell => (env.cells.lookup x).isSome
 | _ => false
section
variable {M : Model} {A : Around} {E : Value → Shared → Prop} {s : Shared} {env : Env} {m : Str → Option Value} {x : Str} {v : Value}
theorem load_var {Q : Value → Shared → Prop} (V : Vars env m s.heap) (hx : hasVar env x = true) (hv : m x = some v) (h : Q v s) : wpAny M A (loadName env x) Q E s := by
 unfold hasVar at hx
 cases hk : env.kindOf x with
 | none => rw [hk] at hx; cases hx
 | some k =>
  rw [hk] at hx
  cases k with
  | «local» => obtain ⟨ml, n, e⟩ := V.loc; exact wpAny_loadName_local V.fn hk n ((e x hk).trans hv) h
  | cell =>
   obtain ⟨c, hc⟩ := Option.isSome_iff_exists.mp hx
   exact wpAny_loadName_cell V.fn hk hc (hv ▸ V.cel x (.inl hk) c hc) h
  | free =>
   obtain ⟨hx, hy⟩ := Bool.and_eq_true_iff.mp hx
   obtain ⟨c, hc⟩ := Option.isSome_iff_exists.mp hx
   exact wpAny_loadName_free V.fn hk hc (hv ▸ V.cel x (.inr hk) c hc) h (by simpa using hy)
  | _ => cases hx
theorem store_var {Q : Unit → Shared → Prop} (V : Vars env m s.heap) (hx : canStore env x = true) (ha : ∀ a, env.cells.lookup x = some a → ∀ y, env.cells.lookup y = some a → y = x)
  (h : ∀ s', Sm s s' → Vars env (upd m x v) s'.heap → (∀ W, (env.locals ∈ W ∧ ∀ a, env.cells.lookup x = some a → a ∈ W) → But W s.heap s'.heap) → Q () s') : wpAny M A (storeName env x v) Q E s := by
 unfold canStore at hx
 cases hk : env.kindOf x with
 | none => rw [hk] at hx; cases hx
 | some k =>
  rw [hk] at hx
  have cellOff : ∀ y c, env.cells.lookup y = some c → c ≠ env.locals := fun y c l => V.offL (y, c) (PySem.mem_of_lookup l)
  cases k with
  | «local» =>
   obtain ⟨ml, n, e⟩ := V.loc
   refine wpAny_storeName_local hk n (fun h' hn hs => h _ Sm.mk ⟨V.fn, ⟨_, hn, fun y ky => ?_⟩, fun y ky c l => ?_, V.offL⟩ (fun W hW => let ⟨_, _, _, l, _⟩ := hn; .of_same hs hW.1 l)) ?_
   ·by_cases hy : y = x
    ·simp [hy]
    ·simp [hy, e y ky]
   ·have hy : y ≠ x := fun q => by rw [q, hk] at ky; rcases ky with ky | ky <;> cases ky
    show h'.IsCell c (if y = x then some v else m y)
    rw [if_neg hy]
    exact (V.cel y ky c l).sameBut hs (cellOff y c l)
   ·rw [V.fn]; rfl
  | cell =>
   obtain ⟨c, hc⟩ := Option.isSome_iff_exists.mp hx
   obtain ⟨ml, n, e⟩ := V.loc
   refine wpAny_storeName_cell V.fn hk hc (V.cel x (.inl hk) c hc) fun h' hc' hs => h _ Sm.heap ⟨V.fn, ⟨ml, n.sameBut hs (Ne.symm (cellOff x c hc)), fun y ky => ?_⟩, fun y ky d l => ?_, V.offL⟩ (fun W hW => let ⟨_, l, _⟩ := hc'; .of_same hs (hW.2 _ hc) l)
   ·have hy : y ≠ x := fun q => by rw [q, hk] at ky; cases ky
    simp [hy, e y ky]
   ·by_cases hy : y = x
    ·subst hy
     rw [hc] at l; cases l
     show h'.IsCell c (if y = y then some v else m y)
     rw [if_pos rfl]; exact hc'
    ·have hd : d ≠ c := fun q => hy (ha c hc y (q ▸ l))
     show h'.IsCell d (if y = x then some v else m y)
     rw [if_neg hy]
     exact (V.cel y ky d l).sameBut hs hd
  | _ => cases hx
end
noncomputable abbrev PG : Program := PySem.Challenge.pw_in0016_01
structure GL (K : Frag) (g : Heap) : Prop where
 K : K.In g
 top : ∃ loose mean mg mb, Top topProg loose mean mg mb g
theorem GL.mono {K : Frag} {g h : Heap} (x : GL K g) (s : Sub g h) : GL K h :=
 ⟨x.K.keeps s, let ⟨l, a, b, d, T⟩ := x.top; ⟨l, a, b, d, T.keeps s⟩⟩
structure Cx where
 w : World
 A : Around
 K : Frag
 env : Env
 m : Str → Option Value
 W : List Addr
 O : List Addr
 S : List Str
 s₀ : Shared
structure St (c : Cx) (g : Heap) (s : Shared) : Prop where
 sm : Sm c.s₀ s
 kp : Sub c.s₀.heap s.heap
 fz : Fz g c.W s.heap
 live : ∀ a ∈ c.W, ∃ o, s.heap.get? a = some o
 gl : GL c.K g
 vars : Vars c.env c.m s.heap
 inW : ∀ a ∈ foot c.env, a ∈ c.W
 own : ∀ a ∈ c.O, a ∈ c.W ∧ c.s₀.heap.get? a = none
 loc : c.env.locals ∈ c.O
 sto : ∀ x ∈ c.S, canStore c.env x = true ∧ ∀ a, c.env.cells.lookup x = some a → a ∈ c.O ∧ ∀ y, c.env.cells.lookup y = some a → y = x
 eg : c.env.globals = mainGlobals
 eb : c.env.builtins = builtinsNs
theorem St.step {c : Cx} {g : Heap} {s s' : Shared} (S : St c g s) (a : Sm s s') (b : Sub s.heap s'.heap) : St c g s' :=
 ⟨S.sm.trans a, S.kp.trans b, S.fz.ext b, fun x n => let ⟨o, e⟩ := S.live x n; ⟨o, b x o e⟩, S.gl, S.vars.sub b, S.inW, S.own, S.loc, S.sto, S.eg, S.eb⟩
theorem St.toks {c : Cx} {g : Heap} {s : Shared} (S : St c g s) {tk : Nat} : St c g { s with toks := tk } := S.step Sm.toks Sub.refl
theorem St.grow {c : Cx} {g : Heap} {s : Shared} (S : St c g s) : St c (hideAll s.heap c.W) s ∧ Sub g (hideAll s.heap c.W) :=
 ⟨⟨S.sm, S.kp, S.fz.grow.1, S.live, S.gl.mono S.fz.grow.2, S.vars, S.inW, S.own, S.loc, S.sto, S.eg, S.eb⟩, S.fz.grow.2⟩
theorem St.lt {c : Cx} {g : Heap} {s : Shared} (S : St c g s) {a : Addr} (n : a ∈ c.W) : a < s.heap.objs.size := let ⟨_, e⟩ := S.live a n; Heap.lt_size e
theorem St.new {c : Cx} {g : Heap} {s : Shared} (S : St c g s) {o : Obj} {tk : Nat} (hf : o.isFreed = false) :
  ∃ g', St c g' { s with heap := s.heap.push o, toks := tk } ∧ Sub g g' ∧ g'.get? s.heap.objs.size = some o := by
 have S' : St c g { s with heap := s.heap.push o, toks := tk } := S.step ⟨_, _, rfl⟩ Sub.push
 exact ⟨_, S'.grow.1, S'.grow.2, hideAll_get _ (Heap.get?_push_size _ hf) fun q => Nat.lt_irrefl _ (S.lt q)⟩
theorem St.turn {c : Cx} {g : Heap} {s s' : Shared} (S : St c g s) (a : Sm s s') (b : But c.O s.heap s'.heap) {m' : Str → Option Value} (v : Vars c.env m' s'.heap) : St { c with m := m' } g s' :=
 ⟨S.sm.trans a, fun x o e => b.keep (fun q => by rw [(S.own x q).2] at e; cases e) (S.kp x o e), S.fz.but (b.mono fun x n => (S.own x n).1), fun x n => b.live (S.live x n), S.gl, v, S.inW, S.own, S.loc, S.sto, S.eg, S.eb⟩
theorem St.back {c c' : Cx} {g g' : Heap} {s s' : Shared} (S : St c g s) (S' : St c' g' s') (hK : c'.K = c.K) (hW : ∀ a ∈ c.W, a ∈ c'.W) (h1 : Sm s c'.s₀) (h2 : Sub s.heap c'.s₀.heap) : St c g' s' :=
 have k : Sub s.heap s'.heap := h2.trans S'.kp
 ⟨S.sm.trans (h1.trans S'.sm), S.kp.trans k, S'.fz.mono hW, fun x n => let ⟨o, e⟩ := S.live x n; ⟨o, k x o e⟩, hK ▸ S'.gl, S.vars.sub k, S.inW, S.own, S.loc, S.sto, S.eg, S.eb⟩
noncomputable def Does {α : Type} (c : Cx) (t : Sem α) (P : Heap → α → Prop) (g : Heap) : Prop :=
 ∀ g₁ (s : Shared) (Q : α → Shared → Prop) (E : Value → Shared → Prop), Sub g g₁ → St c g₁ s →
  (∀ g' s' v, St c g' s' → Sub g₁ g' → Sub s.heap s'.heap → P g' v → Q v s') → wpAny (model PG c.w) c.A t Q E s
noncomputable def Mono {α : Type} (P : Heap → α → Prop) : Prop := ∀ g g' v, Sub g g' → P g v → P g' v
noncomputable def RdP (d : PyData) : Heap → Value → Prop := fun h v => Rd h v d
theorem RdP.mono {d : PyData} : Mono (RdP d) := fun _ _ _ s r => Rd.mono r s
noncomputable def PL : List (Heap → Value → Prop) → Heap → List Value → Prop
 | [], _, vs => vs = []
 | P :: Ps, h, vs => ∃ v r, vs = v :: r ∧ P h v ∧ PL Ps h r
section
variable {α β : Type} {c : Cx} {g : Heap} {P P₁ P₂ : Heap → α → Prop}
theorem Does.sub {t : Sem α} (h : Does c t P g) {g' : Heap} (s : Sub g g') : Does c t P g' := fun g₁ _ Q E sg S k => h g₁ _ Q E (s.trans sg) S k
theorem Does.pure {v : α} (h : ∀ g', Sub g g' → P g' v) : Does c (Pure.pure v) P g := fun g₁ s Q E sg S k => wpAny_pure (k g₁ s v S Sub.refl Sub.refl (h g₁ sg))
theorem Does.bind {t : Sem α} {f : α → Sem β} {R : Heap → β → Prop} (h : Does c t P g) (k : ∀ g' v, Sub g g' → P g' v → Does c (f v) R g') : Does c (t >>= f) R g :=
 fun g₁ s Q E sg S q => wpAny_bind (h g₁ s _ E sg S fun g' s' v S' sg' sh' p => k g' v (sg.trans sg') p g' s' Q E Sub.refl S' fun g'' s'' u S'' sg'' sh'' r => q g'' s'' u S'' (sg'.trans sg'') (sh'.trans sh'') r)
theorem Does.imp {t : Sem α} (h : Does c t P₁ g) (i : ∀ g' v, Sub g g' → P₁ g' v → P₂ g' v) : Does c t P₂ g :=
 fun g₁ s Q E sg S q => h g₁ s Q E sg S fun g' s' v S' sg' sh' p => q g' s' v S' sg' sh' (i g' v (sg.trans sg') p)
end
section
variable {c : Cx} {g : Heap} {P P₁ P₂ : Heap → Value → Prop}
theorem gv_name {x : Str} {pos : Pos} {v : Value} (hx : hasVar c.env x = true) (hv : c.m x = some v) (hP : ∀ g', Sub g g' → P g' v) (hd : (x == ("__debug__" : Str)) = false := by decide) :
  Does c (eval (.Name x pos) c.env) P g :=
 fun g₁ s Q E sg S k => wpAny_Name (load_var S.vars hx hv (k g₁ s v S Sub.refl Sub.refl (hP g₁ sg))) hd
theorem gv_var {x : Str} {pos : Pos} {v : Value} {d : PyData} (hx : hasVar c.env x = true) (hv : c.m x = some v) (hd' : Rd g v d) (hd : (x == ("__debug__" : Str)) = false := by decide) :
  Does c (eval (.Name x pos) c.env) (RdP d) g := gv_name hx hv (fun _ s => hd'.mono s) hd
theorem gv_global {x : Str} {pos : Pos} {v : Value} (hk : c.env.kindOf x = some .globalImplicit) (e : nsIn c.K mainGlobals x = some (some v)) (hP : ∀ g', Sub g g' → P g' v) (hd : (x == ("__debug__" : Str)) = false := by decide) :
  Does c (eval (.Name x pos) c.env) P g := fun g₁ s Q E sg S k => by
 obtain ⟨_, _, mg, _, T⟩ := S.gl.top
 refine Name_function_global S.vars.fn hk (loadGlobal_global (mg := mg) (by rw [S.eg]; exact T.g.keeps S.fz.sub) (mg_of S.gl.K T.g e) (k g₁ s v S Sub.refl Sub.refl (hP g₁ sg))) hd
theorem gv_builtin {x : Str} {pos : Pos} {v : Value} (hk : c.env.kindOf x = some .globalImplicit) (e : nsIn c.K mainGlobals x = some none) (hb : bootBuiltins x = some v) (hn : x ≠ "__name__") (hP : ∀ g', Sub g g' → P g' v) (hd : (x == ("__debug__" : Str)) = false := by decide) :
  Does c (eval (.Name x pos) c.env) P g := fun g₁ s Q E sg S k => by
 obtain ⟨_, _, mg, mb, T⟩ := S.gl.top
 exact Name_function_global S.vars.fn hk (loadGlobal_builtin (mg := mg) (mb := mb) (by rw [S.eg]; exact T.g.keeps S.fz.sub) (mg_none_of S.gl.K T.g e) (by rw [S.eb]; exact T.b.keeps S.fz.sub) ((T.builtins x hn).trans hb) (k g₁ s v S Sub.refl Sub.refl (hP g₁ sg))) hd
theorem gv_int {i : Int} {kk : Nat} {pos : Pos} : Does c (eval (.Constant (.int i) kk pos) c.env) (RdP (.int i)) g :=
 fun g₁ s Q E sg S k => wpAny_Constant_int (k _ _ _ S.toks Sub.refl Sub.refl Rd.int)
theorem gv_str {x : Str} {kk : Nat} {pos : Pos} : Does c (eval (.Constant (.str x) kk pos) c.env) (RdP (.str x)) g :=
 fun g₁ s Q E sg S k => wpAny_Constant_str (k _ _ _ S.toks Sub.refl Sub.refl Rd.str)
theorem gv_bool {b : Bool} {kk : Nat} {pos : Pos} : Does c (eval (.Constant (.bool b) kk pos) c.env) (RdP (.bool b)) g :=
 fun g₁ s Q E sg S k => wpAny_Constant_bool (k _ _ _ S Sub.refl Sub.refl Rd.bool)
theorem gv_binop {l r : Expr} {op : Operator} {pos : Pos} (m : Mono P₁) (hl : Does c (eval l c.env) P₁ g) (hr : Does c (eval r c.env) P₂ g)
  (h : ∀ g₁ a b, Sub g g₁ → P₁ g₁ a → P₂ g₁ b → Does c (binaryOp op a b) P g₁) : Does c (eval (.BinOp l op r pos) c.env) P g :=
 fun g₁ s Q E sg S k => wpAny_BinOp (hl g₁ s _ E sg S fun g₂ s₂ a S₂ sg₂ sh₂ p₁ => hr g₂ s₂ _ E (sg.trans sg₂) S₂ fun g₃ s₃ b S₃ sg₃ sh₃ p₂ =>
  h g₃ a b ((sg.trans sg₂).trans sg₃) (m _ _ _ sg₃ p₁) p₂ g₃ s₃ Q E Sub.refl S₃ fun g₄ s₄ v S₄ sg₄ sh₄ p => k g₄ s₄ v S₄ ((sg₂.trans sg₃).trans sg₄) ((sh₂.trans sh₃).trans sh₄) p)
theorem gv_compare1 {l r : Expr} {op : CmpOp} {pos : Pos} (m : Mono P₁) (hl : Does c (eval l c.env) P₁ g) (hr : Does c (eval r c.env) P₂ g)
  (h : ∀ g₁ a b, Sub g g₁ → P₁ g₁ a → P₂ g₁ b → Does c (compareOp op a b) P g₁) (hm : behindInMarks op r = false := by with_unfolding_all rfl) : Does c (eval (.Compare l [op] [r] pos) c.env) P g :=
 fun g₁ s Q E sg S k => wpAny_Compare1 (hl g₁ s _ E sg S fun g₂ s₂ a S₂ sg₂ sh₂ p₁ => hr g₂ s₂ _ E (sg.trans sg₂) S₂ fun g₃ s₃ b S₃ sg₃ sh₃ p₂ =>
  h g₃ a b ((sg.trans sg₂).trans sg₃) (m _ _ _ sg₃ p₁) p₂ g₃ s₃ Q E Sub.refl S₃ fun g₄ s₄ v S₄ sg₄ sh₄ p => k g₄ s₄ v S₄ ((sg₂.trans sg₃).trans sg₄) ((sh₂.trans sh₃).trans sh₄) p) hm
section
variable {l r : Expr} {pos : Pos} {a b : Int}
theorem op_add_int {x y : Value} (hx : Rd g x (.int a)) (hy : Rd g y (.int b)) : Does c (binaryOp .Add x y) (RdP (.int (a + b))) g := fun g₁ s Q E sg S k => by
 obtain ⟨t, rfl⟩ := hx.inv_int
 obtain ⟨u, rfl⟩ := hy.inv_int
 exact PyProof.Rows.add_int (k _ _ _ S.toks Sub.refl Sub.refl Rd.int)
theorem gv_add_int (hl : Does c (eval l c.env) (RdP (.int a)) g) (hr : Does c (eval r c.env) (RdP (.int b)) g) : Does c (eval (.BinOp l .Add r pos) c.env) (RdP (.int (a + b))) g :=
 gv_binop RdP.mono hl hr fun _ _ _ _ p q => op_add_int p q
theorem gv_sub_int (hl : Does c (eval l c.env) (RdP (.int a)) g) (hr : Does c (eval r c.env) (RdP (.int b)) g) : Does c (eval (.BinOp l .Sub r pos) c.env) (RdP (.int (a - b))) g :=
 gv_binop RdP.mono hl hr fun g₁ x y _ p q => fun g₁ s Q E sg S k => by
  obtain ⟨t, rfl⟩ := Rd.inv_int p
  obtain ⟨u, rfl⟩ := Rd.inv_int q
  exact PyProof.Rows.sub_int (k _ _ _ S.toks Sub.refl Sub.refl Rd.int)
theorem gv_mod_int (hb : b ≠ 0) (hl : Does c (eval l c.env) (RdP (.int a)) g) (hr : Does c (eval r c.env) (RdP (.int b)) g) : Does c (eval (.BinOp l .Mod r pos) c.env) (RdP (.int (a.fmod b))) g :=
 gv_binop RdP.mono hl hr fun g₁ x y _ p q => fun g₁ s Q E sg S k => by
  obtain ⟨t, rfl⟩ := Rd.inv_int p
  obtain ⟨u, rfl⟩ := Rd.inv_int q
  exact PyProof.Rows.mod_int hb (k _ _ _ S.toks Sub.refl Sub.refl Rd.int)
theorem gv_neg {x : Expr} (hl : Does c (eval x c.env) (RdP (.int a)) g) : Does c (eval (.UnaryOp .USub x pos) c.env) (RdP (.int (-a))) g :=
 fun g₁ s Q E sg S k => wpAny_UnaryOp (hl g₁ s _ E sg S fun g₂ s₂ v S₂ sg₂ sh₂ p => by
  obtain ⟨t, rfl⟩ := Rd.inv_int p
  exact PyProof.Rows.neg_int (k _ _ _ S₂.toks sg₂ sh₂ Rd.int))
theorem gv_lt_int (hl : Does c (eval l c.env) (RdP (.int a)) g) (hr : Does c (eval r c.env) (RdP (.int b)) g) (hm : behindInMarks .Lt r = false := by with_unfolding_all rfl) : Does c (eval (.Compare l [.Lt] [r] pos) c.env) (RdP (.bool (decide (a < b)))) g :=
 gv_compare1 RdP.mono hl hr (fun g₁ x y _ p q => fun g₁ s Q E sg S k => by
  obtain ⟨t, rfl⟩ := Rd.inv_int p
  obtain ⟨u, rfl⟩ := Rd.inv_int q
  exact PyProof.Rows.lt_int (k _ _ _ S Sub.refl Sub.refl Rd.bool)) hm
end
section
variable {l r : Expr} {pos : Pos} {x y : Str}
theorem gv_add_str (hsz : x.length + y.length ≤ sizeLine) (hl : Does c (eval l c.env) (RdP (.str x)) g) (hr : Does c (eval r c.env) (RdP (.str y)) g) : Does c (eval (.BinOp l .Add r pos) c.env) (RdP (.str (x ++ y))) g :=
 gv_binop RdP.mono hl hr fun g₁ a b _ p q => fun g₁ s Q E sg S k => by
  obtain ⟨t, rfl⟩ := Rd.inv_str p
  obtain ⟨u, rfl⟩ := Rd.inv_str q
  exact PyProof.Rows.add_str (fun t' tk => k _ _ _ S.toks Sub.refl Sub.refl Rd.str) hsz
end
end
noncomputable def AOk (n : Nat) (A : Around) : Prop := A.handled = none ∧ A.depth + n < recursionLimit ∧ A.units + 10 * n + 100 < cLine
theorem AOk.deeper {n : Nat} {A : Around} {env : Env} (x : AOk (n + 1) A) : AOk n (A.deeper env) := ⟨x.1, by have := x.2.1; show A.depth + 1 + n < _; omega, by have := x.2.2; show A.units + 3 + 10 * n + 100 < _; omega⟩
theorem AOk.in1 {n : Nat} {A : Around} (x : AOk (n + 1) A) : AOk n A.in1 := ⟨x.1, by have := x.2.1; show A.depth + n < _; omega, by have := x.2.2; show A.units + 1 + 10 * n + 100 < _; omega⟩
theorem AOk.mono {n k : Nat} {A : Around} (x : AOk n A) (h : k ≤ n) : AOk k A := ⟨x.1, by have := x.2.1; omega, by have := x.2.2; omega⟩
theorem AOk.units {n : Nat} {A : Around} (x : AOk n A) : A.units + 64 < cLine := by have := x.2.2; omega
theorem AOk.room {n : Nat} {A : Around} (x : AOk n A) : A.depth < recursionLimit := by have := x.2.1; omega
noncomputable def DoesA (c : Cx) (pos : Pos) (args : List Expr) (P : Heap → List Value → Prop) (g : Heap) : Prop := Does c (spliced (backTo pos (starEach args c.env))) P g
theorem PL.mono {Ps : List (Heap → Value → Prop)} (h : ∀ P ∈ Ps, Mono P) : Mono (PL Ps) := by
 induction Ps with
 | nil => exact fun _ _ _ _ r => r
 | cons P Ps ih =>
  rintro g g' v s ⟨u, r, rfl, p, q⟩
  exact ⟨u, r, rfl, h P (.head _) _ _ _ s p, ih (fun P' m => h P' (.tail _ m)) _ _ _ s q⟩
theorem PL.rds {h : Heap} : ∀ {ds : List PyData} {vs : List Value}, PL (ds.map RdP) h vs → Rds h vs ds
 | [], _, r => by cases (show _ = [] from r); exact Rds.nil
 | d :: ds, _, r => by obtain ⟨u, r', rfl, p, q⟩ := r; exact Rds.cons p (PL.rds q)
section
variable {c : Cx} {g : Heap} {P P₁ P₂ : Heap → Value → Prop} {pos : Pos}
theorem ar_nil : DoesA c pos [] (PL []) g := fun g₁ s Q E sg S k => wpAny_items_nil (k g₁ s [] S Sub.refl Sub.refl rfl)
theorem ar_cons {e : Expr} {rest : List Expr} {Ps : List (Heap → Value → Prop)} (m : Mono P) (h : Does c (eval e c.env) P g) (r : DoesA c pos rest (PL Ps) g)
  (he : starEach (e :: rest) c.env = (false, eval e c.env) :: starEach rest c.env := by rfl) : DoesA c pos (e :: rest) (PL (P :: Ps)) g :=
 fun g₁ s Q E sg S k => wpAny_items_cons (h g₁ s _ E sg S fun g₂ s₂ v S₂ sg₂ sh₂ p => r g₂ s₂ _ E (sg.trans sg₂) S₂ fun g₃ s₃ vs S₃ sg₃ sh₃ q =>
  k g₃ s₃ (v :: vs) S₃ (sg₂.trans sg₃) (sh₂.trans sh₃) ⟨v, vs, rfl, m _ _ _ sg₃ p, q⟩) he
theorem ar_d {e : Expr} {rest : List Expr} {Ps : List (Heap → Value → Prop)} {d : PyData} (h : Does c (eval e c.env) (RdP d) g) (r : DoesA c pos rest (PL Ps) g)
  (he : starEach (e :: rest) c.env = (false, eval e c.env) :: starEach rest c.env := by rfl) : DoesA c pos (e :: rest) (PL (RdP d :: Ps)) g := ar_cons RdP.mono h r he
theorem op_list {vs : List Value} {ds : List PyData} (h : Rds g vs ds) (hz : ds.length ≤ sizeLine) : Does c (newList vs) (RdP (.list ds)) g := fun g₁ s Q E sg S k => by
 refine wpAny_newObj_type ?_ (by show vs.toArray.size ≤ sizeLine; rw [List.size_toArray, h.length]; exact hz)
 obtain ⟨g', S', sg', e⟩ := S.new (o := { cls := .type "list", data := .seq vs.toArray }) (tk := s.toks) rfl
 exact k g' _ _ S' sg' Sub.push (Rd.list e rfl rfl (h.mono (sg.trans sg')))
theorem op_tuple {vs : List Value} {ds : List PyData} (h : Rds g vs ds) (hz : ds.length ≤ sizeLine) : Does c (newTuple vs) (RdP (.tuple ds)) g := fun g₁ s Q E sg S k => by
 refine wpAny_newObj_type ?_ (by show vs.toArray.size ≤ sizeLine; rw [List.size_toArray, h.length]; exact hz)
 obtain ⟨g', S', sg', e⟩ := S.new (o := { cls := .type "tuple", data := .seq vs.toArray }) (tk := s.toks) rfl
 exact k g' _ _ S' sg' Sub.push (Rd.tuple e rfl rfl (h.mono (sg.trans sg')))
theorem gv_list {elts : List Expr} {ds : List PyData} (h : DoesA c pos elts (PL (ds.map RdP)) g) (hz : ds.length ≤ sizeLine) : Does c (eval (.List elts pos) c.env) (RdP (.list ds)) g := fun g₁ s Q E sg S k =>
 List_ (h g₁ s _ E sg S fun g₂ s₂ vs S₂ sg₂ sh₂ p => op_list (PL.rds p) hz g₂ s₂ Q E Sub.refl S₂ fun g₃ s₃ v S₃ sg₃ sh₃ q => k g₃ s₃ v S₃ (sg₂.trans sg₃) (sh₂.trans sh₃) q)
theorem gv_tuple {elts : List Expr} {kk : Nat} {ds : List PyData} (h : DoesA c pos elts (PL (ds.map RdP)) g) (hz : ds.length ≤ sizeLine) : Does c (eval (.Tuple elts kk pos) c.env) (RdP (.tuple ds)) g := fun g₁ s Q E sg S k =>
 Tuple_ (h g₁ s _ E sg S fun g₂ s₂ vs S₂ sg₂ sh₂ p => op_tuple (PL.rds p) hz g₂ s₂ Q E Sub.refl S₂ fun g₃ s₃ v S₃ sg₃ sh₃ q => k g₃ s₃ v S₃ (sg₂.trans sg₃) (sh₂.trans sh₃) q)
theorem Rd.isList {h : Heap} {v : Value} {ds : List PyData} (r : Rd h v (.list ds)) : ∃ a vs, v = .ref a ∧ h.IsList a vs.toArray ∧ Rds h vs ds := by
 obtain ⟨a, o, vs, n, rfl, h1, h2, h3, h4⟩ := r.inv_list
 exact ⟨a, vs.toList, rfl, ⟨o, h1, h2, n, by rw [h3]⟩, h4⟩
theorem Rd.isTup {h : Heap} {v : Value} {ds : List PyData} (r : Rd h v (.tuple ds)) : ∃ a vs, v = .ref a ∧ IsTup h a vs.toArray ∧ Rds h vs ds := by
 obtain ⟨a, o, vs, n, rfl, h1, h2, h3, h4⟩ := r.inv_tuple
 exact ⟨a, vs.toList, rfl, ⟨o, h1, h2, n, by rw [h3]⟩, h4⟩
theorem isList_mono {g h : Heap} {a : Addr} {xs : Array Value} (x : g.IsList a xs) (s : Sub g h) : h.IsList a xs := let ⟨o, e, r⟩ := x; ⟨o, s _ _ e, r⟩
theorem isTup_mono {g h : Heap} {a : Addr} {xs : Array Value} (x : IsTup g a xs) (s : Sub g h) : IsTup h a xs := let ⟨o, e, r⟩ := x; ⟨o, s _ _ e, r⟩
theorem op_add_list {x y : Value} {ds es : List PyData} (hz : ds.length + es.length ≤ sizeLine) (hx : Rd g x (.list ds)) (hy : Rd g y (.list es)) : Does c (binaryOp .Add x y) (RdP (.list (ds ++ es))) g := fun g₁ s Q E sg S k => by
 obtain ⟨l, vs, rfl, hl, rl⟩ := hx.isList
 obtain ⟨b, ws, rfl, hb, rb⟩ := hy.isList
 have hl' := isList_mono hl (sg.trans S.fz.sub)
 have hb' := isList_mono hb (sg.trans S.fz.sub)
 obtain ⟨⟨cls, dd, data, sl⟩, ho, hc, n, hd⟩ := id hl'
 obtain ⟨⟨cls2, dd2, data2, sl2⟩, ho2, hc2, n2, hd2⟩ := id hb'
 simp only at hc hd hc2 hd2
 subst hc hd hc2 hd2
 have e : vs.toArray ++ ws.toArray = (vs ++ ws).toArray := by simp
 refine concat_meets ⟨_, ho, rfl⟩ ⟨_, ho2, rfl⟩ noFill_list_add seq_list_add PySem.F.slot_list_add PySem.F.entry_list_add (PySem.F.args_list_add_2 _ _) (list_addW l b vs.toArray ws.toArray n n2 dd dd2 sl sl2 (by rw [List.size_toArray, List.size_toArray, rl.length, rb.length]; exact hz)) ⟨ho, ho2, ?_⟩
 rw [e]
 obtain ⟨g', S', sg', e'⟩ := S.new (o := { cls := .type "list", data := .seq (vs ++ ws).toArray }) (tk := s.toks) rfl
 exact k g' _ _ S' sg' Sub.push (Rd.list e' rfl rfl ((rl.append rb).mono (sg.trans sg')))
theorem gv_add_list {l r : Expr} {ds es : List PyData} (hz : ds.length + es.length ≤ sizeLine) (hl : Does c (eval l c.env) (RdP (.list ds)) g) (hr : Does c (eval r c.env) (RdP (.list es)) g) : Does c (eval (.BinOp l .Add r pos) c.env) (RdP (.list (ds ++ es))) g :=
 gv_binop RdP.mono hl hr fun g₁ a b _ p q => op_add_list hz p q
theorem op_eq_str {a b : Value} {x y : Str} (hx : Rd g a (.str x)) (hy : Rd g b (.str y)) : Does c (compareOp .Eq a b) (RdP (.bool (x == y))) g := fun g₁ s Q E sg S k => by
 obtain ⟨t, rfl⟩ := hx.inv_str
 obtain ⟨u, rfl⟩ := hy.inv_str
 exact PyProof.Rows.eq_str (k _ _ _ S Sub.refl Sub.refl Rd.bool)
theorem op_ne_str {a b : Value} {x y : Str} (hx : Rd g a (.str x)) (hy : Rd g b (.str y)) : Does c (compareOp .NotEq a b) (RdP (.bool (x != y))) g := fun g₁ s Q E sg S k => by
 obtain ⟨t, rfl⟩ := hx.inv_str
 obtain ⟨u, rfl⟩ := hy.inv_str
 exact PyProof.Rows.ne_str (k _ _ _ S Sub.refl Sub.refl Rd.bool)
theorem op_eq_int {a b : Value} {x y : Int} (hx : Rd g a (.int x)) (hy : Rd g b (.int y)) : Does c (compareOp .Eq a b) (RdP (.bool (x == y))) g := fun g₁ s Q E sg S k => by
 obtain ⟨t, rfl⟩ := hx.inv_int
 obtain ⟨u, rfl⟩ := hy.inv_int
 exact PyProof.Rows.eq_int (k _ _ _ S Sub.refl Sub.refl Rd.bool)
theorem op_ne_int {a b : Value} {x y : Int} (hx : Rd g a (.int x)) (hy : Rd g b (.int y)) : Does c (compareOp .NotEq a b) (RdP (.bool (x != y))) g := fun g₁ s Q E sg S k => by
 obtain ⟨t, rfl⟩ := hx.inv_int
 obtain ⟨u, rfl⟩ := hy.inv_int
 exact PyProof.Rows.ne_int (k _ _ _ S Sub.refl Sub.refl Rd.bool)
theorem op_lt_int {a b : Value} {x y : Int} (hx : Rd g a (.int x)) (hy : Rd g b (.int y)) : Does c (compareOp .Lt a b) (RdP (.bool (decide (x < y)))) g := fun g₁ s Q E sg S k => by
 obtain ⟨t, rfl⟩ := hx.inv_int
 obtain ⟨u, rfl⟩ := hy.inv_int
 exact PyProof.Rows.lt_int (k _ _ _ S Sub.refl Sub.refl Rd.bool)
theorem op_eq_data {n : Nat} {a b : Value} {d e : PyData} (hA : AOk n c.A) (hd : SeqAt.shaped d = true) (he : SeqAt.shaped e = true) (hx : Rd g a d) (hy : Rd g b e) : Does c (compareOp .Eq a b) (RdP (.bool (PyData.eqv d e))) g := fun g₁ s Q E sg S k => by
 obtain ⟨as, ra⟩ := hx.mono (sg.trans S.fz.sub)
 obtain ⟨bs, rb⟩ := hy.mono (sg.trans S.fz.sub)
 exact eq_dataH ra rb hd he hA.units (k _ _ _ S Sub.refl Sub.refl Rd.bool)
theorem op_ne_data {n : Nat} {a b : Value} {d e : PyData} (hA : AOk n c.A) (hd : SeqAt.shaped d = true) (he : SeqAt.shaped e = true) (hx : Rd g a d) (hy : Rd g b e) : Does c (compareOp .NotEq a b) (RdP (.bool (!PyData.eqv d e))) g := fun g₁ s Q E sg S k => by
 obtain ⟨as, ra⟩ := hx.mono (sg.trans S.fz.sub)
 obtain ⟨bs, rb⟩ := hy.mono (sg.trans S.fz.sub)
 exact ne_dataH ra rb hd he hA.units (k _ _ _ S Sub.refl Sub.refl Rd.bool)
theorem op_notIn_str {a b : Value} {n : Nat} {y : Str} (hx : Rd g a (.str ⟨#[n]⟩)) (hy : Rd g b (.str y)) : Does c (compareOp .NotIn a b) (RdP (.bool (!decide (n ∈ y.cps.toList)))) g := fun g₁ s Q E sg S k => by
 obtain ⟨t, rfl⟩ := hx.inv_str
 obtain ⟨u, rfl⟩ := hy.inv_str
 refine PyProof.Rows.notIn_str ?_
 rw [StrLaws.found_one]
 exact k _ _ _ S Sub.refl Sub.refl Rd.bool
noncomputable def Tst (c : Cx) (e : Expr) (b : Bool) (g : Heap) : Prop := Does c (isTrue e c.env (eval e c.env)) (fun _ x => x = b) g
theorem op_truthy {v : Value} {b : Bool} (h : Rd g v (.bool b)) : Does c (truthy v) (fun _ x => x = b) g := fun g₁ s Q E sg S k => by
 rw [h.inv_bool]; exact wpAny_truthy_bool (k _ _ _ S Sub.refl Sub.refl rfl)
theorem ts_compare1 {l r : Expr} {op : CmpOp} {b : Bool} (m : Mono P₁) (hl : Does c (eval l c.env) P₁ g) (hr : Does c (eval r c.env) P₂ g)
  (h : ∀ g₁ x y, Sub g g₁ → P₁ g₁ x → P₂ g₁ y → Does c (compareOp op x y) (RdP (.bool b)) g₁) (hm : behindInMarks op r = false := by with_unfolding_all rfl) : Tst c (.Compare l [op] [r] pos) b g :=
 fun g₁ s Q E sg S k => wpAny_isTrue_Compare1 (hl g₁ s _ E sg S fun g₂ s₂ x S₂ sg₂ sh₂ p₁ => hr g₂ s₂ _ E (sg.trans sg₂) S₂ fun g₃ s₃ y S₃ sg₃ sh₃ p₂ =>
  h g₃ x y ((sg.trans sg₂).trans sg₃) (m _ _ _ sg₃ p₁) p₂ g₃ s₃ _ E Sub.refl S₃ fun g₄ s₄ v S₄ sg₄ sh₄ p => op_truthy p g₄ s₄ Q E Sub.refl S₄ fun g₅ s₅ t S₅ sg₅ sh₅ q =>
   k g₅ s₅ t S₅ (((sg₂.trans sg₃).trans sg₄).trans sg₅) (((sh₂.trans sh₃).trans sh₄).trans sh₅) q) hm
theorem ts_value {e : Expr} {b : Bool} (h : Does c (eval e c.env) (RdP (.bool b)) g) (he : ∀ whole, isTrue e c.env whole = (do let v ← whole; standAt e.pos; holding [v] (truthy v)) := by intro _; rfl) : Tst c e b g :=
 fun g₁ s Q E sg S k => wpAny_isTrue_value (h g₁ s _ E sg S fun g₂ s₂ v S₂ sg₂ sh₂ p => op_truthy p g₂ s₂ Q E Sub.refl S₂ fun g₃ s₃ t S₃ sg₃ sh₃ q => k g₃ s₃ t S₃ (sg₂.trans sg₃) (sh₂.trans sh₃) q) (he _)
theorem ts_not {e : Expr} {b : Bool} (h : Tst c e b g) : Tst c (.UnaryOp .Not e pos) (!b) g :=
 fun g₁ s Q E sg S k => wpAny_isTrue_Not (h g₁ s _ E sg S fun g₂ s₂ t S₂ sg₂ sh₂ p => by subst p; exact k g₂ s₂ _ S₂ sg₂ sh₂ rfl)
noncomputable def TstAll (c : Cx) (op : BoolOp) (es : List Expr) (b : Bool) (g : Heap) : Prop := Does c (allTrue op es c.env) (fun _ x => x = b) g
theorem ts_bool {op : BoolOp} {es : List Expr} {b : Bool} (h : TstAll c op es b g) : Tst c (.BoolOp op es pos) b g := fun g₁ s Q E sg S k => wpAny_isTrue_BoolOp (h g₁ s Q E sg S k)
theorem ta_and_nil : TstAll c .And [] true g := fun g₁ s Q E sg S k => wpAny_allTrue_And_nil (k g₁ s _ S Sub.refl Sub.refl rfl)
theorem ta_or_nil : TstAll c .Or [] false g := fun g₁ s Q E sg S k => wpAny_allTrue_Or_nil (k g₁ s _ S Sub.refl Sub.refl rfl)
theorem ta_and {e : Expr} {es : List Expr} {a b : Bool} (h : Tst c e a g) (r : a = true → TstAll c .And es b g) : TstAll c .And (e :: es) (a && b) g :=
 fun g₁ s Q E sg S k => wpAny_allTrue_And_cons (h g₁ s _ E sg S fun g₂ s₂ t S₂ sg₂ sh₂ p => by
  subst p
  cases t with
  | false => exact k g₂ s₂ _ S₂ sg₂ sh₂ rfl
  | true => exact r rfl g₂ s₂ Q E (sg.trans sg₂) S₂ fun g₃ s₃ t S₃ sg₃ sh₃ q => k g₃ s₃ t S₃ (sg₂.trans sg₃) (sh₂.trans sh₃) (by simpa using q))
theorem ta_or {e : Expr} {es : List Expr} {a b : Bool} (h : Tst c e a g) (r : a = false → TstAll c .Or es b g) : TstAll c .Or (e :: es) (a || b) g :=
 fun g₁ s Q E sg S k => wpAny_allTrue_Or_cons (h g₁ s _ E sg S fun g₂ s₂ t S₂ sg₂ sh₂ p => by
  subst p
  cases t with
  | true => exact k g₂ s₂ _ S₂ sg₂ sh₂ rfl
  | false => exact r rfl g₂ s₂ Q E (sg.trans sg₂) S₂ fun g₃ s₃ t S₃ sg₃ sh₃ q => k g₃ s₃ t S₃ (sg₂.trans sg₃) (sh₂.trans sh₃) (by simpa using q))
theorem ts_chain_lt {l r₁ r₂ : Expr} {x y z : Int} (hl : Does c (eval l c.env) (RdP (.int x)) g) (h1 : Does c (eval r₁ c.env) (RdP (.int y)) g) (h2 : x < y → Does c (eval r₂ c.env) (RdP (.int z)) g)
  (hm : lastMarks [.Lt, .Lt] [r₁, r₂] = false := by with_unfolding_all rfl) : Tst c (.Compare l [.Lt, .Lt] [r₁, r₂] pos) (decide (x < y ∧ y < z)) g :=
 fun g₁ s Q E sg S k => isTrue_chain (hl g₁ s _ E sg S fun g₂ s₂ a S₂ sg₂ sh₂ p₁ => test_link (h1 g₂ s₂ _ E (sg.trans sg₂) S₂ fun g₃ s₃ b S₃ sg₃ sh₃ p₂ =>
  op_lt_int (Rd.mono p₁ sg₃) p₂ g₃ s₃ _ E Sub.refl S₃ fun g₄ s₄ v S₄ sg₄ sh₄ p => op_truthy p g₄ s₄ _ E Sub.refl S₄ fun g₅ s₅ t S₅ sg₅ sh₅ q => by
   subst q
   have A1 := ((sg₂.trans sg₃).trans sg₄).trans sg₅
   have A2 := ((sh₂.trans sh₃).trans sh₄).trans sh₅
   by_cases hxy : x < y
   ·rw [decide_eq_true hxy, if_pos rfl]
    exact test_last (h2 hxy g₅ s₅ _ E (sg.trans A1) S₅ fun g₆ s₆ b' S₆ sg₆ sh₆ p₆ => op_lt_int (Rd.mono p₂ ((sg₄.trans sg₅).trans sg₆)) p₆ g₆ s₆ _ E Sub.refl S₆ fun g₇ s₇ v S₇ sg₇ sh₇ p₇ => op_truthy p₇ g₇ s₇ _ E Sub.refl S₇ fun g₈ s₈ t S₈ sg₈ sh₈ p₈ =>
     k g₈ s₈ t S₈ (((A1.trans sg₆).trans sg₇).trans sg₈) (((A2.trans sh₆).trans sh₇).trans sh₈) (by rw [p₈]; simp [hxy]))
   ·rw [decide_eq_false hxy, if_neg Bool.false_ne_true]
    exact k g₅ s₅ _ S₅ A1 A2 (by simp [hxy]))) hm
theorem gv_ite {t b o : Expr} {x : Bool} (ht : Tst c t x g) (h1 : x = true → Does c (eval b c.env) P g) (h2 : x = false → Does c (eval o c.env) P g) : Does c (eval (.IfExp t b o pos) c.env) P g :=
 fun g₁ s Q E sg S k => wpAny_IfExp (ht g₁ s _ E sg S fun g₂ s₂ t S₂ sg₂ sh₂ p => by
  subst p
  cases t with
  | true => exact h1 rfl g₂ s₂ Q E (sg.trans sg₂) S₂ fun g₃ s₃ v S₃ sg₃ sh₃ q => k g₃ s₃ v S₃ (sg₂.trans sg₃) (sh₂.trans sh₃) q
  | false => exact h2 rfl g₂ s₂ Q E (sg.trans sg₂) S₂ fun g₃ s₃ v S₃ sg₃ sh₃ q => k g₃ s₃ v S₃ (sg₂.trans sg₃) (sh₂.trans sh₃) q)
end
theorem nn (b : Nat) : ¬ ((b : Int) < 0) := Int.not_lt.mpr (Int.natCast_nonneg b)
theorem max_min (b n : Nat) : max (0 : Int) (min (b : Int) n) = min (b : Int) n := Int.max_eq_right (Int.le_min.mpr ⟨Int.natCast_nonneg _, Int.natCast_nonneg _⟩)
theorem add_sub_le {p q n : Nat} (hq : q ≤ n) (hp : p ≤ n) : p + (q - p) ≤ n := (Nat.le_total p q).elim (fun h => by rw [Nat.add_sub_cancel' h]; exact hq) fun h => by rw [Nat.sub_eq_zero_of_le h]; exact hp
theorem sub_full {p q n : Nat} (e : q - p = n) (hq : q ≤ n) (h0 : n ≠ 0) : p = 0 := by omega
theorem last_nat {n : Nat} (h : 0 < n) : (-1 + (n : Int)).toNat = n - 1 := by omega
theorem pick_range {α : Type} (l : List α) (a n : Nat) (h : a + n ≤ l.length) :
  ((List.range n).map fun (k : Nat) => ((a : Int) + 1 * (k : Int)).toNat).filterMap (l[·]?) = (l.drop a).take n := by
 induction n with
 | zero => simp
 | succ n ih =>
  rw [List.range_succ, List.map_append, List.filterMap_append, ih (by omega), List.take_add_one, List.getElem?_drop]
  have e : ((a : Int) + 1 * (n : Int)).toNat = a + n := by omega
  have hl : a + n < l.length := by omega
  simp only [List.map_cons, List.map_nil, e, List.getElem?_eq_getElem hl]
  rw [show [a + n].filterMap (fun x => l[x]?) = [l[a + n]] by simp [List.getElem?_eq_getElem hl]]
  simp
theorem range_slice (a b n : Nat) (hab : a ≤ b) : sliceRange (min (a : Int) n) (min (b : Int) n) 1 = (List.range (min b n - min a n)).map fun (k : Nat) => (((min a n : Nat) : Int) + 1 * (k : Int)).toNat := by
 unfold sliceRange
 have h1 : (min (a : Int) n) = ((min a n : Nat) : Int) := by omega
 have h2 : (min (b : Int) n) = ((min b n : Nat) : Int) := by omega
 rw [h1, h2]
 simp only [show (1 : Int) > 0 from by decide, if_true]
 by_cases h : ((min a n : Nat) : Int) < ((min b n : Nat) : Int)
 ·rw [if_pos h]
  congr 2
  have : ((min b n : Nat) : Int) - ((min a n : Nat) : Int) + 1 - 1 = ((min b n - min a n : Nat) : Int) := by omega
  rw [this, Int.ediv_one]; simp
 ·rw [if_neg h]
  have : min b n - min a n = 0 := by omega
  rw [this]; rfl
theorem drop_take_min {α : Type} (l : List α) (a b : Nat) : (l.drop (min a l.length)).take (min b l.length - min a l.length) = (l.drop a).take (b - a) := by
 by_cases h : a ≤ l.length
 ·rw [Nat.min_eq_left h]
  by_cases hb : b ≤ l.length
  ·rw [Nat.min_eq_left hb]
  ·rw [Nat.min_eq_right (Nat.le_of_not_le hb)]
   rw [List.take_of_length_le (by rw [List.length_drop]; exact Nat.le_refl _), List.take_of_length_le (by rw [List.length_drop]; exact Nat.sub_le_sub_right (Nat.le_of_not_le hb) _)]
 ·rw [List.drop_eq_nil_of_le (Nat.le_of_not_le h)]
  simp
  omega
noncomputable def sl (x : Str) (a b : Nat) : Str := ⟨((x.cps.toList.drop a).take (b - a)).toArray⟩
theorem sl_length_le (x : Str) (a b : Nat) : (sl x a b).length ≤ x.length := by
 unfold sl Str.length
 simp only [List.size_toArray, List.length_take, List.length_drop, Array.length_toList]
 exact Nat.le_trans (Nat.min_le_right _ _) (Nat.sub_le _ _)
theorem picked_eq (x : Str) (a b : Nat) (t u : Tok) (h : a ≤ b) : (slicePicked x (some ((a : Int), t)) (some ((b : Int), u)) none).filterMap (x.cps[·]?) = ((x.cps.toList.drop a).take (b - a)) := by
 unfold slicePicked Builtin.Str.strSliceIndices
 have n1 := nn a
 have n2 := nn b
 simp only [Option.map_some, Option.map_none, Option.getD_none, n1, n2, if_false, show (1 : Int) > 0 from by decide, if_true]
 rw [max_min, max_min, range_slice _ _ _ h]
 have hl : x.length = x.cps.toList.length := by simp [Str.length]
 have e := pick_range x.cps.toList (min a x.length) (min b x.length - min a x.length) (hl ▸ add_sub_le (Nat.min_le_right _ _) (Nat.min_le_right _ _))
 have : (fun (i : Nat) => x.cps[i]?) = fun i => x.cps.toList[i]? := by funext i; simp
 rw [this, e, hl, drop_take_min]
theorem picked_length (x : Str) (a b : Nat) (t u : Tok) (h : a ≤ b) : (slicePicked x (some ((a : Int), t)) (some ((b : Int), u)) none).length = min b x.length - min a x.length := by
 unfold slicePicked Builtin.Str.strSliceIndices
 have n1 := nn a
 have n2 := nn b
 simp only [Option.map_some, Option.map_none, Option.getD_none, n1, n2, if_false, show (1 : Int) > 0 from by decide, if_true]
 rw [max_min, max_min, range_slice _ _ _ h]
 simp
theorem sliceMade_post {x : Str} {t tu tl : Tok} {a b : Nat} {Q : Value → Shared → Prop} {s : Shared} (h : a ≤ b) (hz : x.length ≤ sizeLine) (k : ∀ t' tk, Q (.str (sl x a b) t') { s with toks := tk }) :
  (sliceMade x t (some ((a : Int), tl)) (some ((b : Int), tu)) none).post Q s := by
 unfold sliceMade
 split
 ·rename_i e
  have e' := (Bool.and_eq_true_iff.mp e).2
  rw [picked_length _ _ _ _ _ h] at e'
  have e2 : min b x.length - min a x.length = x.length := by simpa using e'
  have : sl x a b = x := by
   have hl : x.length = x.cps.toList.length := by simp [Str.length]
   unfold sl
   rw [← drop_take_min, ← hl, e2]
   by_cases h0 : x.length = 0
   ·have : x.cps = #[] := by simpa [Str.length] using h0
    cases x; simp_all
   ·have h1 : min a x.length = 0 := sub_full e2 (Nat.min_le_right _ _) h0
    rw [h1, List.drop_zero, List.take_of_length_le (Nat.le_of_eq hl.symm)]
  have k' := k t s.toks
  rw [this] at k'
  exact k'
 ·rw [picked_eq _ _ _ _ _ h]
  exact ⟨Nat.le_trans (sl_length_le x a b) hz, k _ _⟩
section
variable {c : Cx} {g : Heap} {P P₁ P₂ : Heap → Value → Prop} {pos : Pos}
theorem gv_str_slice {v lo hi : Expr} {p : Pos} {x : Str} {a b : Nat} (hz : x.length ≤ sizeLine) (hab : a ≤ b) (hv : Does c (eval v c.env) (RdP (.str x)) g) (hlo : Does c (eval lo c.env) (RdP (.int a)) g) (hhi : Does c (eval hi c.env) (RdP (.int b)) g)
  (ht : ∀ o r, letTemporaryGo v o r = pure () := by intro _ _; rfl) : Does c (eval (.Subscript v (.Slice (some lo) (some hi) none p) pos) c.env) (RdP (.str (sl x a b))) g :=
 fun g₁ s Q E sg S k => wpAny_Subscript_str_slice (hv g₁ s _ E sg S fun g₂ s₂ o S₂ sg₂ sh₂ p₁ => hlo g₂ s₂ _ E (sg.trans sg₂) S₂ fun g₃ s₃ l S₃ sg₃ sh₃ p₂ => hhi g₃ s₃ _ E ((sg.trans sg₂).trans sg₃) S₃ fun g₄ s₄ u S₄ sg₄ sh₄ p₃ => by
  obtain ⟨t, rfl⟩ := Rd.inv_str p₁
  obtain ⟨tl, rfl⟩ := Rd.inv_int p₂
  obtain ⟨tu, rfl⟩ := Rd.inv_int p₃
  refine ⟨x, t, some (_, tl), some (_, tu), rfl, rfl, rfl, sliceMade_post hab hz fun t' tk => ?_⟩
  exact k g₄ _ _ (S₄.step ⟨_, _, rfl⟩ Sub.push) ((sg₂.trans sg₃).trans sg₄) (((sh₂.trans sh₃).trans sh₄).trans Sub.push) Rd.str) ht
theorem pick_to (items : Array Value) (b : Nat) : (slicePick items none (some (b : Int)) none).toList = items.toList.take b := by
 unfold slicePick sliceBounds
 have n2 := nn b
 simp only [Option.getD_none, n2, if_false, show (1 : Int) > 0 from by decide, if_true]
 have e := range_slice 0 b items.size (Nat.zero_le _)
 rw [show (min ((0 : Nat) : Int) items.size) = 0 from Int.min_eq_left (Int.natCast_nonneg _)] at e
 rw [max_min, e]
 have : (fun (i : Nat) => items[i]?) = fun i => items.toList[i]? := by funext i; simp
 rw [this, pick_range items.toList (min 0 items.size) (min b items.size - min 0 items.size) (by rw [Array.length_toList]; exact add_sub_le (Nat.min_le_right _ _) (Nat.min_le_right _ _))]
 have := drop_take_min items.toList 0 b
 rw [Array.length_toList] at this
 simpa using this
theorem gv_list_to {v hi : Expr} {p : Pos} {ds : List PyData} {b : Nat} (hz : ds.length ≤ sizeLine) (hv : Does c (eval v c.env) (RdP (.list ds)) g) (hhi : Does c (eval hi c.env) (RdP (.int b)) g)
  (ht : ∀ o r, letTemporaryGo v o r = pure () := by intro _ _; rfl) : Does c (eval (.Subscript v (.Slice none (some hi) none p) pos) c.env) (RdP (.list (ds.take b))) g :=
 fun g₁ s Q E sg S k => wpAny_Subscript_list_slice (hv g₁ s _ E sg S fun g₂ s₂ o S₂ sg₂ sh₂ p₁ => wpAny_pure (hhi g₂ s₂ _ E (sg.trans sg₂) S₂ fun g₄ s₄ u S₄ sg₄ sh₄ p₃ => by
  obtain ⟨l, vs, rfl, hl, rl⟩ := Rd.isList p₁
  obtain ⟨tu, rfl⟩ := Rd.inv_int p₃
  refine ⟨l, vs.toArray, none, some b, rfl, isList_mono hl (sg₄.trans S₄.fz.sub), by rw [List.size_toArray, rl.length]; exact hz, .none, .int _ _, ?_⟩
  have S₅ : St c g₄ { s₄ with heap := s₄.heap.push { cls := .type "slice", data := .fields #[.none, .int b tu, .none] } } := S₄.step ⟨_, _, rfl⟩ Sub.push
  obtain ⟨g₆, S₆, sg₆, e⟩ := S₅.new (o := { cls := .type "list", data := .seq (slicePick vs.toArray none (some (b : Int)) none) }) (tk := s₄.toks) rfl
  have e' : g₆.get? (s₄.heap.objs.size + 1) = some { cls := .type "list", data := .seq (slicePick vs.toArray none (some (b : Int)) none) } := by
   rw [← e]; congr 1; exact (Heap.size_push ..).symm
  exact k g₆ _ _ S₆ ((sg₂.trans sg₄).trans sg₆) (((sh₂.trans sh₄).trans Sub.push).trans Sub.push) (Rd.list e' rfl rfl (by rw [pick_to]; exact (rl.take b).mono (sg₄.trans sg₆))))) ht
theorem gv_item {v i : Expr} {T id : String} (m₁ : Mono P₁) (hv : Does c (eval v c.env) P₁ g) (hi : Does c (eval i c.env) P₂ g)
  (hl : typeLookup (.type T) "__getitem__" = pure (some (.builtin id))) (hT : ∀ (g₁ : Heap) o (s : Shared), P₁ g₁ o → Sub g₁ s.heap → s.TypeIs o T)
  (h : ∀ g₁ o i, Sub g g₁ → P₁ g₁ o → P₂ g₁ i → Does c (getItem o i) P g₁)
  (hs : ∀ o j, subscripted i false o j = operate [o, j] (getItem o j) := by intro _ _; with_unfolding_all rfl) : Does c (eval (.Subscript v i pos) c.env) P g :=
 fun g₁ s Q E sg S k => Subscript_ (hv g₁ s _ E sg S fun g₂ s₂ o S₂ sg₂ sh₂ p₁ => hi g₂ s₂ _ E (sg.trans sg₂) S₂ fun g₃ s₃ j S₃ sg₃ sh₃ p₂ =>
  tail_any (hT g₃ o s₃ (m₁ _ _ _ sg₃ p₁) S₃.fz.sub) hl (h g₃ o j ((sg.trans sg₂).trans sg₃) (m₁ _ _ _ sg₃ p₁) p₂ g₃ s₃ Q E Sub.refl S₃ fun g₄ s₄ r S₄ sg₄ sh₄ p => k g₄ s₄ r S₄ ((sg₂.trans sg₃).trans sg₄) ((sh₂.trans sh₃).trans sh₄) p) (hs o j))
theorem list_typeIs {g : Heap} {v : Value} {ds : List PyData} {s : Shared} (r : Rd g v (.list ds)) (x : Sub g s.heap) : s.TypeIs v "list" := by
 obtain ⟨a, vs, rfl, hl, _⟩ := r.isList
 exact (isList_mono hl x).typeIs
theorem str_typeIs {g : Heap} {v : Value} {y : Str} {s : Shared} (r : Rd g v (.str y)) (x : Sub g s.heap) : s.TypeIs v "str" := by
 obtain ⟨t, rfl⟩ := r.inv_str; exact typeIs_str _ _ _
theorem gv_list_item {v i : Expr} {ds : List PyData} {d : PyData} {j : Nat} (hz : ds.length ≤ sizeLine) (hx : ds[j]? = some d) (hv : Does c (eval v c.env) (RdP (.list ds)) g) (hi : Does c (eval i c.env) (RdP (.int j)) g)
  (hs : ∀ o j, subscripted i false o j = operate [o, j] (getItem o j) := by intro _ _; with_unfolding_all rfl) : Does c (eval (.Subscript v i pos) c.env) (RdP d) g :=
 gv_item RdP.mono hv hi slot_list_getitem.lookup (fun _ _ _ r x => list_typeIs r x) (fun g₁ o i _ p q => fun g₂ s Q E sg S k => by
  obtain ⟨a, vs, rfl, hl, rl⟩ := Rd.isList p
  obtain ⟨t, rfl⟩ := Rd.inv_int q
  obtain ⟨x, ex, rx⟩ := rl.get hx
  have hj : j < ds.length := (List.getElem?_eq_some_iff.mp hx).1
  rw [sizeLine_eq] at hz
  exact wpAny_getItem_list (isList_mono hl (sg.trans S.fz.sub)) (by omega) (by omega) (by simpa using ex) (k g₂ s x S Sub.refl Sub.refl (rx.mono sg))) hs
theorem gv_list_last {v i : Expr} {ds : List PyData} {d : PyData} (hz : ds.length ≤ sizeLine) (hx : ds.getLast? = some d) (hv : Does c (eval v c.env) (RdP (.list ds)) g) (hi : Does c (eval i c.env) (RdP (.int (-1))) g)
  (hs : ∀ o j, subscripted i false o j = operate [o, j] (getItem o j) := by intro _ _; with_unfolding_all rfl) : Does c (eval (.Subscript v i pos) c.env) (RdP d) g :=
 gv_item RdP.mono hv hi slot_list_getitem.lookup (fun _ _ _ r x => list_typeIs r x) (fun g₁ o i _ p q => fun g₂ s Q E sg S k => by
  obtain ⟨a, vs, rfl, hl, rl⟩ := Rd.isList p
  obtain ⟨t, rfl⟩ := Rd.inv_int q
  have hne : ds ≠ [] := by rintro rfl; simp at hx
  have hlen : 0 < ds.length := List.length_pos_iff.mpr hne
  rw [List.getLast?_eq_getElem?] at hx
  obtain ⟨x, ex, rx⟩ := rl.get hx
  rw [sizeLine_eq] at hz
  have hn : vs.length = ds.length := rl.length
  refine wpAny_getItem_list_neg (k := -1) (isList_mono hl (sg.trans S.fz.sub)) (by decide) (by rw [List.size_toArray]; omega) (by decide) ?_ (k g₂ s x S Sub.refl Sub.refl (rx.mono sg))
  rw [List.size_toArray, hn]
  have := last_nat hlen
  simpa [this] using ex) hs
theorem gv_str_item {v i : Expr} {x : Str} {j ch : Nat} (hz : x.length ≤ sizeLine) (hx : x.cps.toList[j]? = some ch) (hv : Does c (eval v c.env) (RdP (.str x)) g) (hi : Does c (eval i c.env) (RdP (.int j)) g)
  (hs : ∀ o j, subscripted i false o j = operate [o, j] (getItem o j) := by intro _ _; with_unfolding_all rfl) : Does c (eval (.Subscript v i pos) c.env) (RdP (.str ⟨#[ch]⟩)) g :=
 gv_item RdP.mono hv hi PySem.F.slot_str_getitem.lookup (fun _ _ _ r x => str_typeIs r x) (fun g₁ o i _ p q => fun g₂ s Q E sg S k => by
  obtain ⟨u, rfl⟩ := Rd.inv_str p
  obtain ⟨t, rfl⟩ := Rd.inv_int q
  have hj : j < x.length := by
   have := (List.getElem?_eq_some_iff.mp hx).1
   simpa [Str.length] using this
  rw [sizeLine_eq] at hz
  refine PyProof.Rows.getItem_str (c := ch) (by simp; omega) ?_ (k g₂ _ _ S.toks Sub.refl Sub.refl Rd.str)
  have : seqIndex? (j : Int) x.length = some j := by
   unfold seqIndex?
   simp only [show ¬ ((j : Int) < 0) from by omega, if_false]
   simp
   omega
  rw [this]; simpa using hx) hs
theorem gv_call_b {f : Expr} {e : Expr} {rest : List Expr} {id : String} {R : Heap → List Value → Prop} (hf : Does c (eval f c.env) (fun _ v => v = .builtin id) g) (ha : DoesA c pos (e :: rest) R g)
  (h : ∀ g₁ vs, Sub g g₁ → R g₁ vs → Does c (call (.builtin id) vs) P g₁)
  (he : eval (.Call f (e :: rest) [] pos) c.env = (do callWith pos (← eval f c.env) [] (backTo pos (starEach (e :: rest) c.env)) (backToKw pos (keywordEach [] c.env))) := by rfl)
  (hs : starEach (e :: rest) c.env = (false, eval e c.env) :: starEach rest c.env := by rfl) (hp : (backTo pos (starEach rest c.env)).any (·.1) = false := by rfl) : Does c (eval (.Call f (e :: rest) [] pos) c.env) P g :=
 fun g₁ s Q E sg S k => Call_ (hf g₁ s _ E sg S fun g₂ s₂ v S₂ sg₂ sh₂ p => by
  subst p
  exact PyProof.Rows.callWith_builtin1 (ha g₂ s₂ _ E (sg.trans sg₂) S₂ fun g₃ s₃ vs S₃ sg₃ sh₃ q => h g₃ vs ((sg.trans sg₂).trans sg₃) q g₃ s₃ Q E Sub.refl S₃ fun g₄ s₄ r S₄ sg₄ sh₄ p => k g₄ s₄ r S₄ ((sg₂.trans sg₃).trans sg₄) ((sh₂.trans sh₃).trans sh₄) p) hs hp) he
theorem gv_call_t {f : Expr} {e : Expr} {rest : List Expr} {T : String} {R : Heap → List Value → Prop} (hf : Does c (eval f c.env) (fun _ v => v = .type T) g) (ha : DoesA c pos (e :: rest) R g)
  (h : ∀ g₁ vs, Sub g g₁ → R g₁ vs → Does c (call (.type T) vs) P g₁)
  (he : eval (.Call f (e :: rest) [] pos) c.env = (do callWith pos (← eval f c.env) [] (backTo pos (starEach (e :: rest) c.env)) (backToKw pos (keywordEach [] c.env))) := by rfl)
  (hs : starEach (e :: rest) c.env = (false, eval e c.env) :: starEach rest c.env := by rfl) (hp : (backTo pos (starEach rest c.env)).any (·.1) = false := by rfl) : Does c (eval (.Call f (e :: rest) [] pos) c.env) P g :=
 fun g₁ s Q E sg S k => Call_ (hf g₁ s _ E sg S fun g₂ s₂ v S₂ sg₂ sh₂ p => by
  subst p
  exact PyProof.Rows.callWith_type1 (ha g₂ s₂ _ E (sg.trans sg₂) S₂ fun g₃ s₃ vs S₃ sg₃ sh₃ q => h g₃ vs ((sg.trans sg₂).trans sg₃) q g₃ s₃ Q E Sub.refl S₃ fun g₄ s₄ r S₄ sg₄ sh₄ p => k g₄ s₄ r S₄ ((sg₂.trans sg₃).trans sg₄) ((sh₂.trans sh₃).trans sh₄) p) hs hp) he
theorem gv_call_d {f : Expr} {e : Expr} {rest : List Expr} {a : Addr} {o : Obj} {fd : FuncData} {R : Heap → List Value → Prop} (ho : c.K.lookup a = some o) (hd : o.data = .func fd) (hf : Does c (eval f c.env) (fun _ v => v = .ref a) g) (ha : DoesA c pos (e :: rest) R g)
  (h : ∀ g₁ vs, Sub g g₁ → R g₁ vs → Does c (call (.ref a) vs) P g₁)
  (he : eval (.Call f (e :: rest) [] pos) c.env = (do callWith pos (← eval f c.env) [] (backTo pos (starEach (e :: rest) c.env)) (backToKw pos (keywordEach [] c.env))) := by rfl)
  (hs : starEach (e :: rest) c.env = (false, eval e c.env) :: starEach rest c.env := by rfl) : Does c (eval (.Call f (e :: rest) [] pos) c.env) P g :=
 fun g₁ s Q E sg S k => Call_ (hf g₁ s _ E sg S fun g₂ s₂ v S₂ sg₂ sh₂ p => by
  subst p
  exact callWith_def hd (ha g₂ s₂ _ E (sg.trans sg₂) S₂ fun g₃ s₃ vs S₃ sg₃ sh₃ q => ⟨S₃.fz.sub _ _ (S₃.gl.K _ _ ho), h g₃ vs ((sg.trans sg₂).trans sg₃) q g₃ s₃ Q E Sub.refl S₃ fun g₄ s₄ r S₄ sg₄ sh₄ p => k g₄ s₄ r S₄ ((sg₂.trans sg₃).trans sg₄) ((sh₂.trans sh₃).trans sh₄) p⟩) hs) he
theorem gv_len_list {f e : Expr} {ds : List PyData} (hz : ds.length ≤ sizeLine) (hf : Does c (eval f c.env) (fun _ v => v = .builtin "len") g) (h : Does c (eval e c.env) (RdP (.list ds)) g)
  (he : eval (.Call f [e] [] pos) c.env = (do callWith pos (← eval f c.env) [] (backTo pos (starEach [e] c.env)) (backToKw pos (keywordEach [] c.env))) := by rfl)
  (hs : starEach [e] c.env = (false, eval e c.env) :: starEach [] c.env := by rfl) : Does c (eval (.Call f [e] [] pos) c.env) (RdP (.int (ds.length : Nat))) g :=
 gv_call_b hf (ar_d h ar_nil hs) (fun g₁ vs _ r => fun g₂ s Q E sg S k => by
  obtain ⟨v, _, rfl, p, rfl⟩ := r
  obtain ⟨a, vs, rfl, hl, rl⟩ := Rd.isList p
  rw [sizeLine_eq] at hz
  have hn : vs.toArray.size = ds.length := by rw [List.size_toArray]; exact rl.length
  refine PyProof.Rows.len_list (isList_mono hl (sg.trans S.fz.sub)) (by rw [hn]; omega) ?_
  rw [hn]
  exact k g₂ _ _ S.toks Sub.refl Sub.refl Rd.int) he hs
theorem gv_len_str {f e : Expr} {x : Str} (hz : x.length ≤ sizeLine) (hf : Does c (eval f c.env) (fun _ v => v = .builtin "len") g) (h : Does c (eval e c.env) (RdP (.str x)) g)
  (he : eval (.Call f [e] [] pos) c.env = (do callWith pos (← eval f c.env) [] (backTo pos (starEach [e] c.env)) (backToKw pos (keywordEach [] c.env))) := by rfl)
  (hs : starEach [e] c.env = (false, eval e c.env) :: starEach [] c.env := by rfl) : Does c (eval (.Call f [e] [] pos) c.env) (RdP (.int (x.length : Nat))) g :=
 gv_call_b hf (ar_d h ar_nil hs) (fun g₁ vs _ r => fun g₂ s Q E sg S k => by
  obtain ⟨v, _, rfl, p, rfl⟩ := r
  obtain ⟨t, rfl⟩ := Rd.inv_str p
  rw [sizeLine_eq] at hz
  exact PyProof.Rows.len_str (by omega) (k g₂ _ _ S.toks Sub.refl Sub.refl Rd.int)) he hs
theorem gv_method1 {o e : Expr} {rest : List Expr} {name : Str} {apos : Pos} {T id : String} {R : Heap → List Value → Prop} (pa : PlainAttrs T) (slot : Slot T name id) (hty : typeOf (.builtin id) = pure (.type "method_descriptor")) (m₁ : Mono P₁)
  (ho : Does c (eval o c.env) P₁ g) (hT : ∀ (g₁ : Heap) v (s : Shared), P₁ g₁ v → Sub g₁ s.heap → s.TypeIs v T ∧ (∀ a, v = .ref a → ∃ ob, s.heap.get? a = some ob ∧ ob.dict = none))
  (ha : DoesA c pos (e :: rest) R g) (h : ∀ g₁ v vs, Sub g g₁ → P₁ g₁ v → R g₁ vs → Does c (call (.builtin id) (v :: vs)) P g₁)
  (hbase : attributeBase o name c.env (eval o c.env) = eval o c.env := by rfl)
  (hfew : ((backTo pos (starEach (e :: rest) c.env)).all (fun x => !x.1) && (backToKw pos (keywordEach [] c.env)).all (fun x => x.1.isSome) && decide ((e :: rest).length + ([] : List Keyword).length + (if ([] : List Keyword).isEmpty then 0 else 1) < 30)) = true := by rfl)
  (hline : (apos.endLine == pos.line) = true := by rfl)
  (hs : starEach (e :: rest) c.env = (false, eval e c.env) :: starEach rest c.env := by rfl) (hp : (backTo pos (starEach rest c.env)).any (·.1) = false := by rfl) :
  Does c (eval (.Call (.Attribute o name apos) (e :: rest) [] pos) c.env) P g :=
 fun g₁ s Q E sg S k => wpAny_Call_method hbase hfew hline pa slot hty (ho g₁ s _ E sg S fun g₂ s₂ v S₂ sg₂ sh₂ p =>
  ⟨(hT g₂ v s₂ p S₂.fz.sub).1, (hT g₂ v s₂ p S₂.fz.sub).2, callWith_method1 (ha g₂ s₂ _ E (sg.trans sg₂) S₂ fun g₃ s₃ vs S₃ sg₃ sh₃ q =>
   h g₃ v vs ((sg.trans sg₂).trans sg₃) (m₁ _ _ _ sg₃ p) q g₃ s₃ Q E Sub.refl S₃ fun g₄ s₄ r S₄ sg₄ sh₄ p => k g₄ s₄ r S₄ ((sg₂.trans sg₃).trans sg₄) ((sh₂.trans sh₃).trans sh₄) p) hs hp⟩)
theorem gv_method0 {o : Expr} {name : Str} {apos : Pos} {T id : String} (pa : PlainAttrs T) (slot : Slot T name id) (hty : typeOf (.builtin id) = pure (.type "method_descriptor"))
  (ho : Does c (eval o c.env) P₁ g) (hT : ∀ (g₁ : Heap) v (s : Shared), P₁ g₁ v → Sub g₁ s.heap → s.TypeIs v T ∧ (∀ a, v = .ref a → ∃ ob, s.heap.get? a = some ob ∧ ob.dict = none))
  (h : ∀ g₁ v, Sub g g₁ → P₁ g₁ v → Does c (call (.builtin id) [v]) P g₁)
  (hbase : attributeBase o name c.env (eval o c.env) = eval o c.env := by rfl)
  (hline : (apos.endLine == pos.line) = true := by rfl) :
  Does c (eval (.Call (.Attribute o name apos) [] [] pos) c.env) P g :=
 fun g₁ s Q E sg S k => wpAny_Call_method hbase rfl hline pa slot hty (ho g₁ s _ E sg S fun g₂ s₂ v S₂ sg₂ sh₂ p =>
  ⟨(hT g₂ v s₂ p S₂.fz.sub).1, (hT g₂ v s₂ p S₂.fz.sub).2, callWith_method0 (
   h g₂ v (sg.trans sg₂) p g₂ s₂ Q E Sub.refl S₂ fun g₄ s₄ r S₄ sg₄ sh₄ p => k g₄ s₄ r S₄ (sg₂.trans sg₄) (sh₂.trans sh₄) p)⟩)
end
noncomputable def NewIn (h h' g' : Heap) : Prop := ∀ a o, h'.get? a = some o → h.get? a = none → g'.get? a = some o
noncomputable def Off (fp : List Addr) (h h' : Heap) : Prop := ∀ b o, b ∉ fp → h.get? b = some o → h'.get? b = some o
structure It (w : World) (A : Around) (tg : Expr) (I : Addr) (fp : List Addr) (g : Heap) (n : Nat) (J : Nat → Heap → Prop) (V : Nat → Heap → Value → Prop) : Prop where
 frame : ∀ i h h', J i h → (∀ a ∈ fp, ∀ o, h.get? a = some o → h'.get? a = some o) → Sub g h → Sub g h' → J i h'
 item : ∀ i (s : Shared) (Q : Option Value → Shared → Prop) (E : Value → Shared → Prop), i < n → J i s.heap → Sub g s.heap →
  (∀ v s' (JM : Heap → Prop), Sm s s' → But fp s.heap s'.heap → JM s'.heap →
   (∀ (s : Shared) (Q : Unit → Shared → Prop) (E : Value → Shared → Prop), JM s.heap → (∀ s'', Sm s s'' → But fp s.heap s''.heap → J (i + 1) s''.heap → Q () s'') → wpAny (model PG w) A (letOwnedTupleGo tg (.ref I) v) Q E s) →
   (∀ g', Sub g g' → NewIn s.heap s'.heap g' → V i g' v) → Q (some v) s') → wpAny (model PG w) A (pyNext (.ref I)) Q E s
 done : ∀ (s : Shared) (Q : Option Value → Shared → Prop) (E : Value → Shared → Prop), J n s.heap → Sub g s.heap →
  (∀ s', Sm s s' → Off fp s.heap s'.heap → Q none s') → wpAny (model PG w) A (pyNext (.ref I)) Q E s
 self : ∀ i (s : Shared) (Q : Value → Shared → Prop) (E : Value → Shared → Prop), J i s.heap → Q (.ref I) s → wpAny (model PG w) A (pyIter (.ref I)) Q E s
 vm : ∀ i v g₁ g₂, Sub g₁ g₂ → V i g₁ v → V i g₂ v
theorem own_plain {w : World} {A : Around} {I : Addr} {s : Shared} {T : String} {o : Obj} (t : Expr) (v : Value) {Q : Unit → Shared → Prop} {E : Value → Shared → Prop} (ho : s.heap.get? I = some o) (hc : o.cls = .type T)
  (hn : (["enumerate", "zip", "dict_itemiterator", "dict_reverseitemiterator", "odict_iterator", "itertools.zip_longest", "itertools.pairwise"] : List String).contains T = false) (h : Q () s) : wpAny (model PG w) A (letOwnedTupleGo t (.ref I) v) Q E s := by
 have key : ∀ a : Addr, wpAny (model PG w) A (do
   let o ← load I
   match o.cls, o.data with
   | .type n, .fields vs =>
    if ["enumerate", "zip", "dict_itemiterator", "dict_reverseitemiterator", "odict_iterator", "itertools.zip_longest", "itertools.pairwise"].contains n && vs[0]? == some (rawInt a) then
     rule "for.unpacks-the-owned-tuple"
     updateField I 0 .none
   | _, _ => pure ()) Q E s := fun a => by
  refine wpAny_bind (wpAny_load ho ?_)
  rw [hc]
  cases hd : o.data with
  | fields vs =>
   dsimp only
   rw [hn, Bool.false_and]
   exact wpAny_pure h
  | _ => exact wpAny_pure h
 cases t with
 | Tuple es k p =>
  cases v with
  | ref a => exact key a
  | _ => exact wpAny_pure h
 | List es p =>
  cases v with
  | ref a => exact key a
  | _ => exact wpAny_pure h
 | _ => exact wpAny_pure h
theorem It.of_walks {w : World} {A : Around} {tg : Expr} {I : Addr} {fp wr : List Addr} {g : Heap} {n : Nat} {P : Nat → Value → Prop} {J : Nat → Heap → Prop} {V : Nat → Heap → Value → Prop} {T : String} (W : Walks PG w A I fp wr n P J)
  (hl : ∀ i h, J i h → (∀ a ∈ wr, ∃ o, h.get? a = some o) ∧ ∃ o, h.get? I = some o ∧ o.cls = .type T) (hfp : ∀ b ∈ fp, b ∈ wr ∨ ∃ o, g.get? b = some o)
  (hn : (["enumerate", "zip", "dict_itemiterator", "dict_reverseitemiterator", "odict_iterator", "itertools.zip_longest", "itertools.pairwise"] : List String).contains T = false)
  (hV : ∀ i v, P i v → ∀ g', Sub g g' → V i g' v) (vm : ∀ i v g₁ g₂, Sub g₁ g₂ → V i g₁ v → V i g₂ v) : It w A tg I wr g n J V where
 frame := fun i h h' j k s s' => W.frame i h h' j fun b hb o e => by
  rcases hfp b hb with m | ⟨o', m⟩
  ·exact k b m o e
  ·have := s b o' m
   rw [this] at e; cases e
   exact s' b _ m
 item := fun i s Q E hi j sg k => W.item i s Q E hi j fun v h' tk p j' kp => k v _ (J (i + 1)) ⟨_, _, rfl⟩ (fun b o e => by
  by_cases hb : b ∈ wr
  ·obtain ⟨o', e'⟩ := (hl _ _ j').1 b hb
   exact ⟨o', e', fun q => absurd hb q⟩
  ·exact ⟨o, kp b o hb e, fun _ => rfl⟩) j' (fun s Q E j k => by
  obtain ⟨o, ho, hc⟩ := (hl (i + 1) s.heap j).2
  exact own_plain tg v ho hc hn (k s Sm.refl (.of_sub Sub.refl) j)) fun g' s' _ => hV i v p g' s'
 done := fun s Q E j sg k => W.done s Q E j fun h' tk kp => k _ ⟨_, _, rfl⟩ kp
 self := fun i s Q E j h => W.self i s Q E j h
 vm := vm
noncomputable def DoesIt (c : Cx) (tg : Expr) (t : Sem Value) (n : Nat) (V : Nat → Heap → Value → Prop) (g : Heap) : Prop :=
 ∀ g₁ (s : Shared) (Q : Value → Shared → Prop) (E : Value → Shared → Prop), Sub g g₁ → St c g₁ s →
  (∀ g' s' I fp J, St c g' s' → Sub g₁ g' → Sub s.heap s'.heap → It c.w c.A tg I fp g' n J V → J 0 s'.heap → (∀ a ∈ fp, g'.get? a = none ∧ s.heap.get? a = none ∧ ∃ o, s'.heap.get? a = some o) → Q (.ref I) s') → wpAny (model PG c.w) c.A t Q E s
noncomputable def VD (ds : List PyData) : Nat → Heap → Value → Prop := fun i h v => ∃ d, ds[i]? = some d ∧ Rd h v d
section
variable {c : Cx} {g : Heap} {pos : Pos} {k : Nat}
theorem DoesIt.bind {α : Type} {tg : Expr} {t : Sem α} {f : α → Sem Value} {P : Heap → α → Prop} {n : Nat} {V : Nat → Heap → Value → Prop} (h : Does c t P g) (k : ∀ g' v, Sub g g' → P g' v → DoesIt c tg (f v) n V g') : DoesIt c tg (t >>= f) n V g :=
 fun g₁ s Q E sg S q => wpAny_bind (h g₁ s _ E sg S fun g' s' v S' sg' sh' p => k g' v (sg.trans sg') p g' s' Q E Sub.refl S' fun g'' s'' I fp J S'' sg'' sh'' it j hf => q g'' s'' I fp J S'' (sg'.trans sg'') (sh'.trans sh'') it j fun a m =>
  ⟨(hf a m).1, Sub.none sh' (hf a m).2.1, (hf a m).2.2⟩)
theorem off_size {c : Cx} {g : Heap} {s : Shared} (S : St c g s) : g.get? s.heap.objs.size = none := Sub.none S.fz.sub (none_of_ge (Nat.le_refl _))
theorem it_list {tg : Expr} {v : Value} {ds : List PyData} (hA : AOk k c.A) (h : Rd g v (.list ds)) : DoesIt c tg (pyIter v) ds.length (VD ds) g := fun g₁ s Q E sg S q => by
 obtain ⟨l, vs, rfl, hl, rl⟩ := h.isList
 have hl₁ := isList_mono hl sg
 have hls := isList_mono hl₁ S.fz.sub
 obtain ⟨o, ho, _⟩ := id hl₁
 have hlt : l < s.heap.objs.size := S.fz.lt ho
 refine wpAny_pyIter_list hls ?_
 have S' : St c g₁ { s with heap := s.heap.push { cls := .type "list_iterator", data := .fields #[.ref l, .int 0 0] } } := S.step ⟨_, _, rfl⟩ Sub.push
 have W := Walks.list (prog := PG) (w := c.w) hA.1 s.heap.objs.size l (Nat.ne_of_lt hlt) vs.toArray
 have hn : vs.toArray.size = ds.length := by rw [List.size_toArray]; exact rl.length
 rw [hn] at W
 refine q g₁ _ s.heap.objs.size [s.heap.objs.size] _ S' Sub.refl Sub.push (It.of_walks (T := "list_iterator") W (fun i h j => ?_) ?_ rfl (fun i u e g' s' => ?_) fun i u g₁ g₂ s₁ ⟨d, e, r⟩ => ⟨d, e, r.mono s₁⟩) ⟨⟨_, Heap.get?_push_size _ rfl, rfl, rfl⟩, isList_mono hls Sub.push⟩ fun a m => ?_
 ·obtain ⟨o', e1, e2, _⟩ := j.1
  exact ⟨fun a m => by rw [List.mem_singleton.mp m]; exact ⟨o', e1⟩, o', e1, e2⟩
 ·intro b hb
  rcases List.mem_cons.mp hb with rfl | hb
  ·exact .inl (.head _)
  ·rw [List.mem_singleton.mp hb]; exact .inr ⟨o, ho⟩
 ·have hi : i < ds.length := by
   have := (Array.getElem?_eq_some_iff.mp e).1
   rw [hn] at this; exact this
  obtain ⟨x, ex, rx⟩ := rl.get (List.getElem?_eq_getElem hi)
  rw [List.getElem?_toArray, ex] at e
  cases e
  exact ⟨_, List.getElem?_eq_getElem hi, rx.mono (sg.trans s')⟩
 ·rw [List.mem_singleton.mp m]
  exact ⟨off_size S, none_of_ge (Nat.le_refl _), _, Heap.get?_push_size _ rfl⟩
theorem it_range {tg : Expr} {v : Value} {n : Nat} (hA : AOk k c.A) (hn : (n : Int) < 2 ^ 62) (hr : ∃ r t u w, v = .ref r ∧ IsRange g r 0 n 1 t u w) : DoesIt c tg (pyIter v) n (fun i _ u => ∃ t, u = .int (i : Nat) t) g := fun g₁ s Q E sg S q => by
 obtain ⟨r, t, u, w, rfl, hr⟩ := hr
 have hrs : IsRange s.heap r 0 n 1 t u w := S.fz.sub _ _ (sg _ _ hr)
 have hsz : Builtin.Range.rangeSize 0 n 1 = (n : Int) := rangeSize_nat 0 n
 have hsm : Builtin.Range.small 0 n 1 = true := small_one (by decide) (by decide) (by omega) (by omega)
 refine wpAny_pyIter_range hrs hsm ?_
 rw [hsz]
 have S' : St c g₁ { s with heap := s.heap.push { cls := .type "range_iterator", data := .fields #[rawInt 0, rawInt n, rawInt 1] } } := S.step ⟨_, _, rfl⟩ Sub.push
 have W := Walks.range (prog := PG) (w := c.w) hA.1 s.heap.objs.size 0 1 n
 refine q g₁ _ s.heap.objs.size [s.heap.objs.size] _ S' Sub.refl Sub.push (It.of_walks (T := "range_iterator") W (fun i h j => ?_) (fun b hb => .inl hb) rfl (fun i u e g' s' => ?_) fun i u g₁ g₂ s₁ e => e) ?_ fun a m => ?_
 ·exact ⟨fun a m => by rw [List.mem_singleton.mp m]; exact ⟨_, j⟩, _, j, rfl⟩
 ·obtain ⟨t, rfl⟩ := e
  exact ⟨t, by simp⟩
 ·exact Heap.get?_push_size _ rfl
 ·rw [List.mem_singleton.mp m]
  exact ⟨off_size S, none_of_ge (Nat.le_refl _), _, Heap.get?_push_size _ rfl⟩
end
theorem Vars.at {env : Env} {m : Str → Option Value} {h h' : Heap} (x : Vars env m h) (s : ∀ a ∈ foot env, ∀ o, h.get? a = some o → h'.get? a = some o) : Vars env m h' := by
 obtain ⟨ml, n, e⟩ := x.loc
 refine ⟨x.fn, ⟨ml, n.at' fun o q => s _ (.head _) o q, e⟩, fun y k c l => ?_, x.offL⟩
 obtain ⟨o, ho, hd⟩ := x.cel y k c l
 exact ⟨o, s _ (.tail _ (List.mem_map.mpr ⟨(y, c), PySem.mem_of_lookup l, rfl⟩)) o ho, hd⟩
section
variable {c : Cx} {g : Heap} {s : Shared} {pos : Pos} {Q : Flow → Shared → Prop} {E : Value → Shared → Prop} {P : Heap → Value → Prop} {k : Nat}
theorem st_store {x : Str} {v : Value} {Q : Unit → Shared → Prop} (S : St c g s) (hx : x ∈ c.S) (h : ∀ s', St { c with m := upd c.m x v } g s' → But (foot c.env) s.heap s'.heap → Q () s') : wpAny (model PG c.w) c.A (storeName c.env x v) Q E s :=
 store_var S.vars (S.sto x hx).1 (fun a l => ((S.sto x hx).2 a l).2) fun s' sm v b => h s' (S.turn sm (b c.O ⟨S.loc, fun a l => ((S.sto x hx).2 a l).1⟩) v) (b _ ⟨.head _, fun a l => .tail _ (List.mem_map.mpr ⟨(x, a), PySem.mem_of_lookup l, rfl⟩)⟩)
theorem as_name {x : Str} {v : Value} {Q : Unit → Shared → Prop} (S : St c g s) (hx : x ∈ c.S) (h : ∀ s', St { c with m := upd c.m x v } g s' → But (foot c.env) s.heap s'.heap → Q () s') : wpAny (model PG c.w) c.A (assign (.Name x pos) c.env v) Q E s :=
 wpAny_assign_Name (st_store S hx h)
theorem ext_sub {h h' : Heap} (x : Heap.ExtBut h.objs.size h h') : Sub h h' := fun b o e => x b o (Nat.ne_of_lt (Heap.lt_size e)) e
theorem as_pair {a b : Str} {pa pb : Pos} {kk : Nat} {v : Value} {da db : PyData} {Q : Unit → Shared → Prop} (hA : AOk k c.A) (ha : a ∈ c.S) (hb : b ∈ c.S) (S : St c g s) (hv : Rd g v (.tuple [da, db]))
  (h : ∀ s' x y, Rd g x da → Rd g y db → St { c with m := upd (upd c.m a x) b y } g s' → But (foot c.env) s.heap s'.heap → Q () s') : wpAny (model PG c.w) c.A (assign (.Tuple [.Name a pa, .Name b pb] kk pos) c.env v) Q E s := by
 obtain ⟨t, vs, rfl, ht, rl⟩ := hv.isTup
 obtain ⟨x, ws, rfl, rx, rl⟩ := rl.inv_cons
 obtain ⟨y, ws, rfl, ry, rl⟩ := rl.inv_cons
 rw [rl.inv_nil] at ht
 rw [arm_assign_Tuple]
 refine wpAny_bind (wpAny_standAt (unpack_tuple hA.1 (isTup_mono ht S.fz.sub) rfl rfl fun h' e => ?_))
 have S' : St c g { s with heap := h' } := S.step Sm.heap (ext_sub e)
 show wpAny _ _ (assignInOrder [fun v => assign (.Name a pa) c.env v, fun v => assign (.Name b pb) c.env v] [x, y]) Q E _
 unfold assignInOrder
 refine wpAny_bind (wpAny_holding (as_name S' ha fun s₁ S₁ b₁ => ?_))
 unfold assignInOrder
 refine wpAny_bind (wpAny_holding (as_name (c := { c with m := upd c.m a x }) S₁ hb fun s₂ S₂ b₂ => ?_))
 unfold assignInOrder
 exact wpAny_pure (h s₂ x y rx ry S₂ (((But.of_sub (ext_sub e)).trans b₁).trans b₂))
theorem as_triple {a b d : Str} {pa pb pd : Pos} {kk : Nat} {v : Value} {da db dd : PyData} {Q : Unit → Shared → Prop} (hA : AOk k c.A) (ha : a ∈ c.S) (hb : b ∈ c.S) (hd : d ∈ c.S) (S : St c g s) (hv : Rd g v (.tuple [da, db, dd]))
  (h : ∀ s' x y z, Rd g x da → Rd g y db → Rd g z dd → St { c with m := upd (upd (upd c.m a x) b y) d z } g s' → But (foot c.env) s.heap s'.heap → Q () s') : wpAny (model PG c.w) c.A (assign (.Tuple [.Name a pa, .Name b pb, .Name d pd] kk pos) c.env v) Q E s := by
 obtain ⟨t, vs, rfl, ht, rl⟩ := hv.isTup
 obtain ⟨x, ws, rfl, rx, rl⟩ := rl.inv_cons
 obtain ⟨y, ws, rfl, ry, rl⟩ := rl.inv_cons
 obtain ⟨z, ws, rfl, rz, rl⟩ := rl.inv_cons
 rw [rl.inv_nil] at ht
 rw [arm_assign_Tuple]
 refine wpAny_bind (wpAny_standAt (unpack_tuple hA.1 (isTup_mono ht S.fz.sub) rfl rfl fun h' e => ?_))
 have S' : St c g { s with heap := h' } := S.step Sm.heap (ext_sub e)
 show wpAny _ _ (assignInOrder [fun v => assign (.Name a pa) c.env v, fun v => assign (.Name b pb) c.env v, fun v => assign (.Name d pd) c.env v] [x, y, z]) Q E _
 unfold assignInOrder
 refine wpAny_bind (wpAny_holding (as_name S' ha fun s₁ S₁ b₁ => ?_))
 unfold assignInOrder
 refine wpAny_bind (wpAny_holding (as_name (c := { c with m := upd c.m a x }) S₁ hb fun s₂ S₂ b₂ => ?_))
 unfold assignInOrder
 refine wpAny_bind (wpAny_holding (as_name (c := { c with m := upd (upd c.m a x) b y }) S₂ hd fun s₃ S₃ b₃ => ?_))
 unfold assignInOrder
 exact wpAny_pure (h s₃ x y z rx ry rz S₃ ((((But.of_sub (ext_sub e)).trans b₁).trans b₂).trans b₃))
theorem ex_assign {x : Str} {px : Pos} {e : Expr} {rest : List Stmt} (hx : x ∈ c.S) (he : Does c (eval e c.env) P g) (S : St c g s)
  (h : ∀ g' s' v, Sub g g' → P g' v → St { c with m := upd c.m x v } g' s' → wpAny (model PG c.w) c.A (execs rest c.env) Q E s')
  (hs : swapsWith e (some (.Name x px)) pos.line c.env = pure false := by rfl) : wpAny (model PG c.w) c.A (execs (.Assign [.Name x px] e pos :: rest) c.env) Q E s :=
 wpAny_execs_cons (wpAny_Assign_Name (he g s _ E Sub.refl S fun g' s' v S' sg sh p => st_store S' hx fun s₂ S₂ _ => h g' s₂ v sg p S₂) hs)
theorem ex_if {t : Expr} {b o : List Stmt} {rest : List Stmt} {x : Bool} (ht : Tst c t x g) (S : St c g s)
  (h : ∀ g' s', Sub g g' → St c g' s' → Sub s.heap s'.heap → wpAny (model PG c.w) c.A (if x = true then execs b c.env else execs o c.env) (fun f s' => match f with | .next => wpAny (model PG c.w) c.A (execs rest c.env) Q E s' | f => Q f s') E s') :
  wpAny (model PG c.w) c.A (execs (.If t b o pos :: rest) c.env) Q E s :=
 wpAny_execs_cons (wpAny_If (ht g s _ E Sub.refl S fun g' s' v S' sg sh p => by
  subst p
  have := h g' s' sg S' sh
  cases v with
  | true => rw [if_pos rfl] at this; exact this
  | false => rw [if_neg Bool.false_ne_true] at this; exact this))
theorem ex_return {e : Expr} {rest : List Stmt} (he : Does c (eval e c.env) P g) (S : St c g s)
  (h : ∀ g' s' v, Sub g g' → P g' v → St c g' s' → Sub s.heap s'.heap → Q (.ret v) s') : wpAny (model PG c.w) c.A (execs (.Return (some e) pos :: rest) c.env) Q E s :=
 wpAny_execs_cons (wpAny_Return_some (he g s _ E Sub.refl S fun g' s' v S' sg sh p => h g' s' v sg p S' sh))
theorem St.iter {fp : List Addr} {s' : Shared} (S : St c g s) (a : Sm s s') (b : But fp s.heap s'.heap) (hf : ∀ x ∈ fp, x ∈ c.W ∧ c.s₀.heap.get? x = none ∧ x ∉ foot c.env) : St c g s' :=
 ⟨S.sm.trans a, fun x o e => b.keep (fun q => by rw [(hf x q).2.1] at e; cases e) (S.kp x o e), S.fz.but (b.mono fun x n => (hf x n).1), fun x n => b.live (S.live x n), S.gl, S.vars.but b fun x n q => (hf x q).2.2 n, S.inW, S.own, S.loc, S.sto, S.eg, S.eb⟩
theorem St.addW {fp : List Addr} (S : St c g s) (hf : ∀ a ∈ fp, g.get? a = none ∧ ∃ o, s.heap.get? a = some o) : St { c with W := fp ++ c.W } g s :=
 ⟨S.sm, S.kp, ⟨S.fz.sub, fun a m => (List.mem_append.mp m).elim (fun m => (hf a m).1) (S.fz.off a)⟩, fun a m => (List.mem_append.mp m).elim (fun m => (hf a m).2) (S.live a), S.gl, S.vars, fun a m => List.mem_append_right _ (S.inW a m), fun a m => ⟨List.mem_append_right _ (S.own a m).1, (S.own a m).2⟩, S.loc, S.sto, S.eg, S.eb⟩
theorem St.dropW {c : Cx} {g : Heap} {s s' : Shared} {fp : List Addr} (S : St { c with W := fp ++ c.W } g s) (a : Sm s s') (b : Off fp s.heap s'.heap) (hf : ∀ x ∈ fp, x ∉ c.W ∧ c.s₀.heap.get? x = none) (hw : ∀ x ∈ foot c.env, x ∈ c.W) (ho : ∀ x ∈ c.O, x ∈ c.W) : St c g s' :=
 have off : ∀ x, x ∈ c.W → x ∉ fp := fun x m q => (hf x q).1 m
 ⟨S.sm.trans a, fun x o e => b x o (fun q => by rw [(hf x q).2] at e; cases e) (S.kp x o e), ⟨fun x o e => b x o (fun q => by rw [S.fz.off x (List.mem_append_left _ q)] at e; cases e) (S.fz.sub x o e), fun x m => S.fz.off x (List.mem_append_right _ m)⟩,
  fun x n => let ⟨o, e⟩ := S.live x (List.mem_append_right _ n); ⟨o, b x o (off x n) e⟩, S.gl, S.vars.at fun x n o e => b x o (off x (hw x n)) e, hw, fun x m => ⟨ho x m, (S.own x m).2⟩, S.loc, S.sto, S.eg, S.eb⟩
noncomputable def anchor (s : Shared) (O : List Addr) : Shared := { s with heap := hideAll s.heap O }
theorem St.anchored (S : St c g s) : St { c with s₀ := anchor s c.O } g s :=
 ⟨⟨s.heap, s.toks, rfl⟩, Sub.hide, S.fz, S.live, S.gl, S.vars, S.inW, fun a m => ⟨(S.own a m).1, hideAll_none _ m⟩, S.loc, S.sto, S.eg, S.eb⟩
theorem St.unanchor {c : Cx} {g g' : Heap} {s s' : Shared} {m' : Str → Option Value} (S : St c g s) (S' : St { c with m := m', s₀ := anchor s c.O } g' s') : St { c with m := m' } g' s' :=
 ⟨S.sm.trans (by obtain ⟨h, tk, e⟩ := S'.sm; exact ⟨h, tk, e⟩), fun x o e => S'.kp x o (hideAll_get _ (S.kp x o e) fun q => by rw [(S.own x q).2] at e; cases e), S'.fz, S'.live, S'.gl, S'.vars, S'.inW, S.own, S'.loc, S'.sto, S'.eg, S'.eb⟩
theorem turn_lt {i n : Nat} (h : i < n) : n + 1 - (i + 1) < n + 1 - i := by omega
theorem left_end {n i : Nat} (h : n - i = 0) (hi : i ≤ n) : i = n := Nat.le_antisymm hi (Nat.le_of_sub_eq_zero h)
theorem left_next {n i k : Nat} (h : n - i = k + 1) : n - (i + 1) = k := by rw [Nat.sub_succ, h]; rfl
theorem left_lt {n i k : Nat} (h : n - i = k + 1) : i < n := Nat.lt_of_sub_eq_succ h
theorem wp_for {target iter : Expr} {body : List Stmt} {n : Nat} {V : Nat → Heap → Value → Prop} (hP : Does c (eval iter c.env) P g) (hI : ∀ g' x, Sub g g' → P g' x → DoesIt c target (pyIter x) n V g') (S : St c g s)
  (Inv : Nat → (Str → Option Value) → Heap → Heap → Prop) (B : (Str → Option Value) → Heap → Heap → Prop) (h0 : Inv 0 c.m g s.heap)
  (stab : ∀ i m g h g' h', Inv i m g h → Sub g g' → (∀ a ∈ c.O, ∀ o, h.get? a = some o → h'.get? a = some o) → Inv i m g' h')
  (turn : ∀ W' s₀' i m g₁ s₁ v, (∀ a ∈ c.W, a ∈ W') → i < n → St { c with m := m, W := W', s₀ := s₀' } g₁ s₁ → Inv i m g₁ s₁.heap → V i g₁ v → Sub g g₁ →
   wpAny (model PG c.w) c.A (assign target c.env v) (fun _ s₂ => wpAny (model PG c.w) c.A (execs body c.env) (fun f s₃ => match f with
    | .next | .cont => ∃ m' g₂, St { c with m := m', W := W', s₀ := s₀' } g₂ s₃ ∧ Sub g₁ g₂ ∧ Inv (i + 1) m' g₂ s₃.heap
    | .brk => ∃ m' g₂, St { c with m := m', W := W', s₀ := s₀' } g₂ s₃ ∧ Sub g₁ g₂ ∧ B m' g₂ s₃.heap
    | .ret _ => False) (fun _ _ => False) s₂) (fun _ _ => False) s₁)
  (done : ∀ m g' s', St { c with m := m } g' s' → Sub g g' → (Inv n m g' s'.heap ∨ B m g' s'.heap) → Q .next s')
  (hs : ∀ x, foldedSetIterable iter c.env x = pure x := by intro _; rfl) :
  wpAny (model PG c.w) c.A (exec (.For target iter body [] pos) c.env) Q E s := by
 refine wpAny_For (hP g s _ E Sub.refl S fun g₁ s₁ x S₁ sg₁ sh₁ p => hI g₁ x sg₁ p g₁ s₁ _ E Sub.refl S₁ fun gI s₂ I fp J S₂ sg₂ sh₂ It0 j0 hf => ?_) hs
 have hfW : ∀ a ∈ fp, a ∉ c.W := fun a m q => by obtain ⟨o, e⟩ := S₁.live a q; rw [(hf a m).2.1] at e; cases e
 have hf0 : ∀ a ∈ fp, c.s₀.heap.get? a = none := fun a m => Sub.none S₁.kp (hf a m).2.1
 have hff : ∀ a ∈ fp, a ∉ foot c.env := fun a m q => hfW a m (S.inW a q)
 have hfO : ∀ a ∈ fp, a ∉ c.O := fun a m q => hfW a m (S.own a q).1
 refine codeAny_forLoop_any (fun k s' => ∃ i m g', k = n + 1 - i ∧ i ≤ n ∧ St { c with m := m, W := fp ++ c.W } g' s' ∧ Sub gI g' ∧ Inv i m g' s'.heap ∧ J i s'.heap) ?_ (n + 1)
  ⟨0, c.m, gI, rfl, Nat.zero_le _, S₂.addW fun a m => ⟨(hf a m).1, (hf a m).2.2⟩, Sub.refl, stab _ _ _ _ _ _ h0 (sg₁.trans sg₂) fun a _ o e => sh₂ _ _ (sh₁ _ _ e), j0⟩
 rintro k s₃ ⟨i, m, g₃, rfl, hi, S₃, sg₃, inv, j⟩
 by_cases hlt : i < n
 ·refine It0.item i s₃ _ _ hlt j (sg₃.trans S₃.fz.sub) fun v s₄ JM sm₄ b₄ j₄ own hV => ?_
  have S₄ : St { c with m := m, W := fp ++ c.W } g₃ s₄ := S₃.iter sm₄ b₄ fun a q => ⟨List.mem_append_left _ q, hf0 a q, hff a q⟩
  refine own s₄ _ _ j₄ fun s₅ sm₅ b₅ j₅ => ?_
  have S₅ : St { c with m := m, W := fp ++ c.W } g₃ s₅ := S₄.iter sm₅ b₅ fun a q => ⟨List.mem_append_left _ q, hf0 a q, hff a q⟩
  obtain ⟨S₆, sg₆⟩ := S₅.grow
  have kO : ∀ a ∈ c.O, ∀ o, s₃.heap.get? a = some o → s₅.heap.get? a = some o := fun a q o e => b₅.keep (fun z => hfO a z q) (b₄.keep (fun z => hfO a z q) e)
  have hv : V i (hideAll s₅.heap (fp ++ c.W)) v := hV _ (sg₃.trans sg₆) fun a o e e' => hideAll_get _ (b₅.keep (fun z => by obtain ⟨o', z'⟩ := S₃.live a (List.mem_append_left _ z); rw [e'] at z'; cases z') e) fun z => by obtain ⟨o', z'⟩ := S₃.live a z; rw [e'] at z'; cases z'
  have t := turn (fp ++ c.W) (anchor s₅ c.O) i m _ s₅ v (fun a q => List.mem_append_right _ q) hlt S₆.anchored (stab _ _ _ _ _ _ inv sg₆ kO) hv (((sg₁.trans sg₂).trans sg₃).trans sg₆)
  have fin : ∀ m' g₂ s₇, St { c with m := m', W := fp ++ c.W, s₀ := anchor s₅ c.O } g₂ s₇ → Sub (hideAll s₅.heap (fp ++ c.W)) g₂ → St { c with m := m', W := fp ++ c.W } g₂ s₇ ∧ Sub gI g₂ ∧ J (i + 1) s₇.heap := fun m' g₂ s₇ S₇ sg₇ =>
   ⟨St.unanchor (c := { c with m := m, W := fp ++ c.W }) S₆ S₇, (sg₃.trans sg₆).trans sg₇, It0.frame _ _ _ j₅ (fun a q o e => S₇.kp a o (hideAll_get _ e (hfO a q))) ((sg₃.trans sg₆).trans S₆.fz.sub) (((sg₃.trans sg₆).trans sg₇).trans S₇.fz.sub)⟩
  refine wpAny_mono t (fun _ s₆ h₆ => wpAny_mono h₆ (fun f s₇ h₇ => ?_) fun _ _ e => e.elim) fun _ _ e => e.elim
  cases f with
  | next =>
   obtain ⟨m', g₂, S₇, sg₇, i₇⟩ := h₇
   obtain ⟨x, y, z⟩ := fin m' g₂ s₇ S₇ sg₇
   exact ⟨n + 1 - (i + 1), turn_lt hlt, i + 1, m', g₂, rfl, hlt, x, y, i₇, z⟩
  | cont =>
   obtain ⟨m', g₂, S₇, sg₇, i₇⟩ := h₇
   obtain ⟨x, y, z⟩ := fin m' g₂ s₇ S₇ sg₇
   exact ⟨n + 1 - (i + 1), turn_lt hlt, i + 1, m', g₂, rfl, hlt, x, y, i₇, z⟩
  | brk =>
   obtain ⟨m', g₂, S₇, sg₇, i₇⟩ := h₇
   obtain ⟨x, y, z⟩ := fin m' g₂ s₇ S₇ sg₇
   exact done m' g₂ s₇ (St.dropW (c := { c with m := m' }) x Sm.refl (fun _ _ _ e => e) (fun a q => ⟨hfW a q, hf0 a q⟩) S.inW fun a q => (S.own a q).1) ((sg₁.trans sg₂).trans y) (.inr i₇)
  | ret v => exact h₇.elim
 ·have hin : i = n := by omega
  subst hin
  refine It0.done s₃ _ _ j (sg₃.trans S₃.fz.sub) fun s₄ sm₄ b₄ => ?_
  refine wpAny_execs_nil (done m g₃ s₄ (St.dropW (c := { c with m := m }) S₃ sm₄ b₄ (fun a q => ⟨hfW a q, hf0 a q⟩) S.inW fun a q => (S.own a q).1) ((sg₁.trans sg₂).trans sg₃) (.inl (stab _ _ _ _ _ _ inv Sub.refl fun a q o e => b₄ a o (fun z => hfO a z q) e)))
theorem wp_while {test : Expr} {body : List Stmt} (S : St c g s) (Inv : Nat → (Str → Option Value) → Heap → Heap → Prop) (k : Nat) (h0 : Inv k c.m g s.heap)
  (turn : ∀ i m g₁ s₁, St { c with m := m } g₁ s₁ → Inv i m g₁ s₁.heap → Sub g g₁ → ∃ b, Tst { c with m := m } test b g₁ ∧
   ∀ g₂ s₂, St { c with m := m } g₂ s₂ → Sub g₁ g₂ → Sub s₁.heap s₂.heap →
    if b = true then wpAny (model PG c.w) c.A (execs body c.env) (fun f s₃ => match f with
     | .next | .cont => ∃ j m' g₃, j < i ∧ St { c with m := m' } g₃ s₃ ∧ Sub g₂ g₃ ∧ Inv j m' g₃ s₃.heap
     | _ => False) (fun _ _ => False) s₂
    else Q .next s₂) :
  wpAny (model PG c.w) c.A (exec (.While test body [] pos) c.env) Q E s := by
 refine wpAny_While (codeAny_whileLoop (fun i s' => ∃ m g', St { c with m := m } g' s' ∧ Sub g g' ∧ Inv i m g' s'.heap) ?_ k ⟨c.m, g, S, Sub.refl, h0⟩)
 rintro i s₁ ⟨m, g₁, S₁, sg₁, inv⟩
 obtain ⟨b, ht, hb⟩ := turn i m g₁ s₁ S₁ inv sg₁
 refine ht g₁ s₁ _ _ Sub.refl S₁ fun g₂ s₂ v S₂ sg₂ sh₂ p => ?_
 subst p
 have := hb g₂ s₂ S₂ sg₂ sh₂
 cases v with
 | true =>
  simp only [if_true] at this ⊢
  refine wpAny_mono this (fun f s₃ h₃ => ?_) fun _ _ e => e.elim
  cases f with
  | next => obtain ⟨j, m', g₃, hj, S₃, sg₃, i₃⟩ := h₃; exact ⟨j, hj, m', g₃, S₃, (sg₁.trans sg₂).trans sg₃, i₃⟩
  | cont => obtain ⟨j, m', g₃, hj, S₃, sg₃, i₃⟩ := h₃; exact ⟨j, hj, m', g₃, S₃, (sg₁.trans sg₂).trans sg₃, i₃⟩
  | brk => exact h₃.elim
  | ret v => exact h₃.elim
 | false =>
  simp only [Bool.false_eq_true, if_false] at this ⊢
  exact wpAny_execs_nil this
end
noncomputable def closOf (scope : Scope) (env : Env) : List (Str × Addr) := scope.names.foldl (fun cs nk => if nk.2 == NameKind.free then (nk.1, (env.cells.lookup nk.1).getD 0) :: cs else cs) []
noncomputable def freeKeys (scope : Scope) : List Str := (scope.names.filter fun nk => nk.2 == NameKind.free).map (·.1)
noncomputable def ownKeys (scope : Scope) : List Str := (scope.names.filter fun nk => nk.2 == NameKind.cell).map (·.1)
noncomputable def compOk (scope : Scope) (env : Env) : Bool := scope.kind == .function && scope.names.all fun nk => scope.names.lookup nk.1 == some nk.2 &&
 (nk.2 != NameKind.free || ((env.cells.lookup nk.1).isSome && (env.kindOf nk.1 == some .cell || env.kindOf nk.1 == some .free)))
noncomputable def tgtOk (scope : Scope) (T : List Str) : Bool := T.all fun x =>
 (scope.names.lookup x == some .local && !(ownKeys scope).contains x && !(freeKeys scope).contains x) || (scope.names.lookup x == some .cell && (ownKeys scope).contains x && !(freeKeys scope).contains x)
noncomputable def compEnvX (env : Env) (scope : Scope) (C : Addr) : Env :=
 { scope := relabel scope env, locals := C, globals := env.globals, cells := cellsFrom (C + 1) scope.names (closOf scope env), qual := env.qual, func := none, code := env.code, frame := env.frame, builtins := env.builtins }
noncomputable def compM (scope : Scope) (m : Str → Option Value) : Str → Option Value := fun x => if (freeKeys scope).contains x then m x else none
theorem closOf_go (env : Env) (f : Str × NameKind → List (Str × Addr) → Sem (ForInStep (List (Str × Addr))))
  (hf : ∀ n k cs, f (n, k) cs = if k == NameKind.free then (cellOf env n >>= fun a => pure (ForInStep.yield ((n, a) :: cs))) else pure (ForInStep.yield cs)) :
  ∀ (names : List (Str × NameKind)) (acc : List (Str × Addr)), (∀ nk ∈ names, nk.2 = NameKind.free → (env.cells.lookup nk.1).isSome = true) →
  (forIn names acc f : Sem (List (Str × Addr))) = pure (names.foldl (fun cs nk => if nk.2 == NameKind.free then (nk.1, (env.cells.lookup nk.1).getD 0) :: cs else cs) acc)
 | [], acc, _ => rfl
 | (n, k) :: r, acc, h => by
  rw [List.forIn_cons, List.foldl_cons, hf]
  have hr := fun nk hm => h nk (List.mem_cons_of_mem _ hm)
  cases hk : (k == NameKind.free) with
  | true =>
   obtain ⟨a, ha⟩ := Option.isSome_iff_exists.mp (h (n, k) (.head _) (by simpa using hk))
   simp only [if_true, hk]
   unfold cellOf
   simp only [show List.lookup n env.cells = some a from ha]
   exact closOf_go env f hf r _ hr
  | false =>
   simp only [Bool.false_eq_true, if_false, hk]
   exact closOf_go env f hf r _ hr
theorem closureFor_eq {scope : Scope} {env : Env} (h : ∀ nk ∈ scope.names, nk.2 = NameKind.free → (env.cells.lookup nk.1).isSome = true) : closureFor scope env = pure (closOf scope env) := by
 unfold closureFor closOf
 dsimp only
 rw [closOf_go env _ (fun n k cs => by cases hk : (k == NameKind.free) <;> simp [hk]) scope.names [] h]
 rfl
theorem mem_closOf {scope : Scope} {env : Env} {x : Str} {a : Addr} (h : (x, a) ∈ closOf scope env) : (x, NameKind.free) ∈ scope.names ∧ a = (env.cells.lookup x).getD 0 := by
 have go : ∀ (names : List (Str × NameKind)) (acc : List (Str × Addr)), (x, a) ∈ names.foldl (fun cs nk => if nk.2 == NameKind.free then (nk.1, (env.cells.lookup nk.1).getD 0) :: cs else cs) acc →
   (x, a) ∈ acc ∨ ((x, NameKind.free) ∈ names ∧ a = (env.cells.lookup x).getD 0) := by
  intro names
  induction names with
  | nil => intro acc h; exact .inl h
  | cons nk r ih =>
   intro acc h
   obtain ⟨n, k⟩ := nk
   rw [List.foldl_cons] at h
   rcases ih _ h with h | ⟨h, e⟩
   ·cases hk : (k == NameKind.free) with
    | true =>
     simp only [hk, if_true] at h
     rcases List.mem_cons.mp h with h | h
     ·cases h
      have : k = NameKind.free := by simpa using hk
      subst this
      exact .inr ⟨.head _, rfl⟩
     ·exact .inl h
    | false =>
     simp only [hk, Bool.false_eq_true, if_false] at h
     exact .inl h
   ·exact .inr ⟨.tail _ h, e⟩
 rcases go scope.names [] h with h | h
 ·cases h
 ·exact h
theorem cellsFrom_append : ∀ (names : List (Str × NameKind)) (n : Nat) (acc : List (Str × Addr)), cellsFrom n names acc = cellsFrom n names [] ++ acc
 | [], _, _ => rfl
 | (x, k) :: r, n, acc => by
  unfold cellsFrom
  split
  ·rw [cellsFrom_append r (n + 1) ((x, n) :: acc), cellsFrom_append r (n + 1) [(x, n)], List.append_assoc]; rfl
  ·exact cellsFrom_append r n acc
theorem mem_cellsFrom {x : Str} {a : Addr} : ∀ {names : List (Str × NameKind)} {n : Nat}, (x, a) ∈ cellsFrom n names [] → (x, NameKind.cell) ∈ names
 | [], _, h => by cases h
 | (y, k) :: r, n, h => by
  unfold cellsFrom at h
  split at h
  ·rename_i hk
   rw [cellsFrom_append] at h
   rcases List.mem_append.mp h with h | h
   ·exact .tail _ (mem_cellsFrom h)
   ·cases List.mem_singleton.mp h
    have : k = NameKind.cell := by simpa using hk
    subst this; exact .head _
  ·exact .tail _ (mem_cellsFrom h)
theorem lookup_append {x : Str} {l r : List (Str × Addr)} : (l ++ r).lookup x = (l.lookup x).or (r.lookup x) := by
 induction l with
 | nil => simp
 | cons p l ih =>
  obtain ⟨y, b⟩ := p
  rw [List.cons_append, List.lookup_cons, List.lookup_cons]
  cases x == y with
  | true => simp
  | false => exact ih
theorem wpAny_compEnv {M : Model} {A : Around} {E : Value → Shared → Prop} {s : Shared} {scope : Scope} {env : Env} {cl : List (Str × Addr)} {Q : Env → Shared → Prop}
  (h : Q (newEnv scope s.heap.objs.size env.globals (cellsFrom (s.heap.objs.size + 1) scope.names cl) env.qual none .none (some env) builtinsNs) { s with heap := pushCells (s.heap.push { cls := .type "dict", data := .dict #[] }) scope.names }) :
  wpAny M A (newFunctionEnv scope env.globals cl [] env.qual none .none (some env)) Q E s := by
 simp only [newFunctionEnv, Option.isSome_some, if_true]
 refine wpAny_bind (wpAny_alloc ?_)
 refine wpAny_bind (wpAny_layCells _ (fun name kind cells => by cases hkc : kind == NameKind.cell <;> simp [hkc]) _ _ _ _ ?_)
 rw [show ({ s with heap := s.heap.push { cls := .type "dict", data := .dict #[] } } : Shared).heap.objs.size = s.heap.objs.size + 1 from Heap.size_push ..]
 refine wpAny_bind ?_
 rw [List.forIn_nil]
 exact wpAny_pure (wpAny_pure h)
noncomputable def compC (c : Cx) (scope : Scope) (T : List Str) (C : Addr) (W O : List Addr) (s₀ : Shared) (m : Str → Option Value) : Cx := { c with env := compEnvX c.env scope C, m := m, W := W, O := O, S := T, s₀ := s₀ }
theorem relabel_free {e : Env} {x : Str} : ∀ names : List (Str × NameKind), names.lookup x = some .free → (names.map fun (n, k) => if (k == NameKind.free && e.scope.kind == .function && e.kindOf n == some .cell) then (n, NameKind.cell) else (n, k)).lookup x ≠ some .local := by
 intro names
 induction names with
 | nil => intro h; cases h
 | cons p r ih =>
  obtain ⟨n, k⟩ := p
  intro h
  rw [List.lookup_cons] at h
  rw [List.map_cons]
  cases hxn : x == n with
  | true =>
   rw [hxn] at h
   cases h
   dsimp only
   split <;> simp [List.lookup_cons, hxn]
  | false =>
   rw [hxn] at h
   dsimp only
   split <;> (simp only [List.lookup_cons, hxn]; exact ih h)
theorem relabel_cell {e : Env} {x : Str} : ∀ names : List (Str × NameKind), names.lookup x = some .cell → (names.map fun (n, k) => if (k == NameKind.free && e.scope.kind == .function && e.kindOf n == some .cell) then (n, NameKind.cell) else (n, k)).lookup x = some .cell := by
 intro names
 induction names with
 | nil => intro h; cases h
 | cons p r ih =>
  obtain ⟨n, k⟩ := p
  intro h
  rw [List.lookup_cons] at h
  rw [List.map_cons]
  cases hxn : x == n with
  | true =>
   rw [hxn] at h
   cases h
   dsimp only
   split <;> simp [List.lookup_cons, hxn]
  | false =>
   rw [hxn] at h
   dsimp only
   split <;> (simp only [List.lookup_cons, hxn]; exact ih h)
theorem cellsFrom_has {x : Str} : ∀ (names : List (Str × NameKind)) (n : Nat), (x, NameKind.cell) ∈ names → ∃ b, (cellsFrom n names []).lookup x = some b := by
 intro names
 induction names with
 | nil => intro n h; cases h
 | cons p r ih =>
  obtain ⟨y, k⟩ := p
  intro n h
  unfold cellsFrom
  split
  ·rename_i hk
   rw [cellsFrom_append, lookup_append]
   rcases List.mem_cons.mp h with h | h
   ·cases h
    cases hq : (cellsFrom (n + 1) r []).lookup x with
    | some b => exact ⟨b, rfl⟩
    | none => exact ⟨n, by simp [List.lookup_cons]⟩
   ·obtain ⟨b, hb⟩ := ih (n + 1) h
    exact ⟨b, by rw [hb]; rfl⟩
  ·rename_i hk
   rcases List.mem_cons.mp h with h | h
   ·cases h; exact absurd rfl hk
   ·exact ih n h
theorem comp_St {c : Cx} {g gI : Heap} {s s₂ : Shared} {scope : Scope} {T : List Str} {o : Obj} (S : St c g s) (S₂ : St c gI s₂) (hs : Sub s.heap s₂.heap) (hc : compOk scope c.env = true) (hT : tgtOk scope T = true) (hf : o.isFreed = false) :
  let D := s₂.heap.objs.size
  let C := (s₂.heap.push o).objs.size
  let own := (cellsFrom (C + 1) scope.names []).map (·.2)
  St (compC c scope T C (D :: C :: own ++ c.W) (D :: C :: own) s (compM scope c.m)) gI { s₂ with heap := pushCells ((s₂.heap.push o).push { cls := .type "dict", data := .dict #[] }) scope.names } ∧
   (pushCells ((s₂.heap.push o).push { cls := .type "dict", data := .dict #[] }) scope.names).get? D = some o ∧ (∀ a ∈ D :: C :: own, s₂.heap.objs.size ≤ a) := by
 intro D C own
 have hCD : C = D + 1 := Heap.size_push ..
 have sub₂ : Sub s₂.heap (pushCells ((s₂.heap.push o).push { cls := .type "dict", data := .dict #[] }) scope.names) := fun b x e => pushCells_keeps _ _ b x (Heap.get?_push_of_some _ (Heap.get?_push_of_some _ e))
 have ok := cellsFrom_ok scope.names ((s₂.heap.push o).push { cls := .type "dict", data := .dict #[] }) (C + 1) [] ⟨fun _ _ hm => (nomatch hm), List.Pairwise.nil⟩ (by rw [Heap.size_push]; exact Nat.le_refl _)
 rw [show ((s₂.heap.push o).push { cls := .type "dict", data := .dict #[] }).objs.size = C + 1 from Heap.size_push ..] at ok
 have hk := Bool.and_eq_true_iff.mp hc
 have hnames := List.all_eq_true.mp hk.2
 have hfn : scope.kind = .function := by simpa using hk.1
 have lk : ∀ n k, (n, k) ∈ scope.names → scope.names.lookup n = some k := fun n k m => by
  have := (Bool.and_eq_true_iff.mp (hnames (n, k) m)).1
  simpa using this
 have fr : ∀ n, (n, NameKind.free) ∈ scope.names → ∃ a, c.env.cells.lookup n = some a ∧ (c.env.kindOf n = some .cell ∨ c.env.kindOf n = some .free) := fun n m => by
  have := (Bool.and_eq_true_iff.mp (hnames (n, .free) m)).2
  simp only [bne_self_eq_false, Bool.false_or, Bool.and_eq_true, Bool.or_eq_true, beq_iff_eq] at this
  obtain ⟨a, ha⟩ := Option.isSome_iff_exists.mp this.1
  exact ⟨a, ha, this.2⟩
 have clos : ∀ x a, (x, a) ∈ closOf scope c.env → (x, NameKind.free) ∈ scope.names ∧ c.env.cells.lookup x = some a ∧ (c.env.kindOf x = some .cell ∨ c.env.kindOf x = some .free) := fun x a m => by
  obtain ⟨m1, m2⟩ := mem_closOf m
  obtain ⟨b, hb, hk⟩ := fr x m1
  rw [hb] at m2
  exact ⟨m1, by rw [hb, m2]; rfl, hk⟩
 have cellsE : (compEnvX c.env scope C).cells = cellsFrom (C + 1) scope.names [] ++ closOf scope c.env := cellsFrom_append ..
 have footc : ∀ x a, c.env.cells.lookup x = some a → a ∈ foot c.env := fun x a l => .tail _ (List.mem_map.mpr ⟨(x, a), PySem.mem_of_lookup l, rfl⟩)
 have closLt : ∀ x a, (x, a) ∈ closOf scope c.env → a < D := fun x a m => S₂.lt (S₂.inW a (footc x a (clos x a m).2.1))
 have ownGe : ∀ x a, (x, a) ∈ cellsFrom (C + 1) scope.names [] → C + 1 ≤ a := fun x a m => (ok.empty x a m).2
 have keysFree : ∀ x, (x, NameKind.free) ∈ scope.names → (freeKeys scope).contains x = true := fun x m => List.contains_iff_mem.mpr (List.mem_map.mpr ⟨(x, .free), List.mem_filter.mpr ⟨m, by simp⟩, rfl⟩)
 have keysOwn : ∀ x, (x, NameKind.cell) ∈ scope.names → (ownKeys scope).contains x = true := fun x m => List.contains_iff_mem.mpr (List.mem_map.mpr ⟨(x, .cell), List.mem_filter.mpr ⟨m, by simp⟩, rfl⟩)
 have freeMem : ∀ x, (freeKeys scope).contains x = true → (x, NameKind.free) ∈ scope.names := fun x m => by
  obtain ⟨nk, hm, rfl⟩ := List.mem_map.mp (List.contains_iff_mem.mp m)
  obtain ⟨h1, h2⟩ := List.mem_filter.mp hm
  have : nk.2 = NameKind.free := by simpa using h2
  rw [← this]; exact h1
 have S' : St c gI { s₂ with heap := pushCells ((s₂.heap.push o).push { cls := .type "dict", data := .dict #[] }) scope.names } := S₂.step Sm.heap sub₂
 have hge : ∀ a ∈ D :: C :: own, s₂.heap.objs.size ≤ a := fun a m => by
  rcases List.mem_cons.mp m with rfl | m
  ·exact Nat.le_refl _
  ·rcases List.mem_cons.mp m with rfl | m
   ·exact Nat.le_of_lt (hCD ▸ Nat.lt_succ_self D)
   ·obtain ⟨⟨x, b⟩, hm, rfl⟩ := List.mem_map.mp m
    exact Nat.le_trans (Nat.le_of_lt (hCD ▸ Nat.lt_succ_self D)) (Nat.le_trans (Nat.le_succ C) (ownGe x b hm))
 have getD : (pushCells ((s₂.heap.push o).push { cls := .type "dict", data := .dict #[] }) scope.names).get? D = some o := pushCells_keeps _ _ _ _ (Heap.get?_push_of_some _ (Heap.get?_push_size _ hf))
 have getC : (pushCells ((s₂.heap.push o).push { cls := .type "dict", data := .dict #[] }) scope.names).get? C = some { cls := .type "dict", data := .dict #[] } := pushCells_keeps _ _ _ _ (Heap.get?_push_size _ rfl)
 refine ⟨⟨S'.sm |> fun x => ?_, hs.trans sub₂, ?_, ?_, S'.gl, ?_, ?_, ?_, ?_, ?_, S'.eg, S'.eb⟩, getD, hge⟩
 ·obtain ⟨h1, t1, e1⟩ := S.sm
  obtain ⟨h2, t2, e2⟩ := x
  refine ⟨h2, t2, e2.trans ?_⟩
  rw [show (compC c scope T C (D :: C :: own ++ c.W) (D :: C :: own) s (compM scope c.m)).s₀ = s from rfl, e1]
 ·refine ⟨S'.fz.sub, fun a m => ?_⟩
  rcases List.mem_append.mp m with m | m
  ·exact Sub.none S₂.fz.sub (none_of_ge (hge a m))
  ·exact S'.fz.off a m
 ·intro a m
  rcases List.mem_append.mp m with m | m
  ·rcases List.mem_cons.mp m with rfl | m
   ·exact ⟨_, getD⟩
   ·rcases List.mem_cons.mp m with rfl | m
    ·exact ⟨_, getC⟩
    ·obtain ⟨⟨x, b⟩, hm, rfl⟩ := List.mem_map.mp m
     obtain ⟨o', e', _⟩ := (ok.empty x b hm).1
     exact ⟨o', e'⟩
  ·exact S'.live a m
 ·refine ⟨hfn, ⟨fun _ => none, (Heap.Ns.new (s₂.heap.push o) (.type "dict")).keeps (pushCells_keeps _ _), fun x hx => ?_⟩, fun x hx a l => ?_, fun p hp => ?_⟩
  ·show none = compM scope c.m x
   unfold compM
   cases hfx : (freeKeys scope).contains x with
   | false => rfl
   | true =>
    exfalso
    have m := freeMem x hfx
    have l1 := lk x .free m
    have l2 : (relabel scope c.env).names.lookup x = some .local := hx
    exact relabel_free (e := c.env) _ l1 l2
  ·change List.lookup x (compEnvX c.env scope C).cells = some a at l
   rw [cellsE, lookup_append] at l
   cases hl : (cellsFrom (C + 1) scope.names []).lookup x with
   | some b =>
    rw [hl] at l
    cases l
    have m := PySem.mem_of_lookup hl
    have : compM scope c.m x = none := by
     unfold compM
     cases hfx : (freeKeys scope).contains x with
     | false => rfl
     | true =>
      have m1 := lk x .free (freeMem x hfx)
      rw [lk x .cell (mem_cellsFrom m)] at m1
      cases m1
    rw [show (compC c scope T C (D :: C :: own ++ c.W) (D :: C :: own) s (compM scope c.m)).m x = none from this]
    exact (ok.empty x a m).1
   | none =>
    rw [hl] at l
    have m := clos x a (PySem.mem_of_lookup l)
    have : compM scope c.m x = c.m x := by unfold compM; rw [keysFree x m.1]; rfl
    rw [show (compC c scope T C (D :: C :: own ++ c.W) (D :: C :: own) s (compM scope c.m)).m x = c.m x from this]
    exact S'.vars.cel x m.2.2 a m.2.1
  ·change p ∈ (compEnvX c.env scope C).cells at hp
   rw [cellsE] at hp
   rcases List.mem_append.mp hp with hp | hp
   ·have := ownGe p.1 p.2 hp
    show p.2 ≠ C
    exact fun h => by rw [h] at this; omega
   ·have := closLt p.1 p.2 hp
    show p.2 ≠ C
    exact fun h => by rw [h, hCD] at this; exact Nat.lt_irrefl _ (Nat.lt_of_succ_lt this)
 ·intro a m
  rcases List.mem_cons.mp m with rfl | m
  ·exact List.mem_append_left _ (.tail _ (.head _))
  ·obtain ⟨⟨x, b⟩, hm, rfl⟩ := List.mem_map.mp m
   change (x, b) ∈ (compEnvX c.env scope C).cells at hm
   rw [cellsE] at hm
   rcases List.mem_append.mp hm with hm | hm
   ·exact List.mem_append_left _ (.tail _ (.tail _ (List.mem_map.mpr ⟨(x, b), hm, rfl⟩)))
   ·exact List.mem_append_right _ (S₂.inW b (footc x b (clos x b hm).2.1))
 ·exact fun a m => ⟨List.mem_append_left _ m, Sub.none hs (none_of_ge (hge a m))⟩
 ·exact .tail _ (.head _)
 ·intro x hx
  have t := List.all_eq_true.mp hT x hx
  simp only [Bool.or_eq_true, Bool.and_eq_true, beq_iff_eq, Bool.not_eq_true'] at t
  have noClos : (freeKeys scope).contains x = false → ∀ b, (x, b) ∉ closOf scope c.env := fun hf b m => by rw [keysFree x (clos x b m).1] at hf; cases hf
  rcases t with ⟨⟨t1, t2⟩, t3⟩ | ⟨⟨t1, t2⟩, t3⟩
  ·refine ⟨?_, fun a l => ?_⟩
   ·show canStore (compEnvX c.env scope C) x = true
    unfold canStore
    rw [show (compEnvX c.env scope C).kindOf x = some .local from lookup_relabel_local t1]
   ·exfalso
    rw [show (compC c scope T C (D :: C :: own ++ c.W) (D :: C :: own) s (compM scope c.m)).env.cells = _ from cellsE] at l
    rcases List.mem_append.mp (PySem.mem_of_lookup l) with m | m
    ·rw [keysOwn x (mem_cellsFrom m)] at t2; cases t2
    ·exact noClos t3 a m
  ·have own' := cellsFrom_has scope.names (C + 1) (PySem.mem_of_lookup t1)
   obtain ⟨b, hb⟩ := own'
   have lx : (compEnvX c.env scope C).cells.lookup x = some b := by rw [cellsE, lookup_append, hb]; rfl
   refine ⟨?_, fun a l => ?_⟩
   ·show canStore (compEnvX c.env scope C) x = true
    unfold canStore
    rw [show (compEnvX c.env scope C).kindOf x = some .cell from relabel_cell (e := c.env) _ t1]
    show ((compEnvX c.env scope C).cells.lookup x).isSome = true
    rw [lx]; rfl
   ·rw [show (compC c scope T C (D :: C :: own ++ c.W) (D :: C :: own) s (compM scope c.m)).env.cells.lookup x = some b from lx] at l
    cases l
    have mb := PySem.mem_of_lookup hb
    refine ⟨.tail _ (.tail _ (List.mem_map.mpr ⟨(x, b), mb, rfl⟩)), fun y ly => ?_⟩
    rw [show (compC c scope T C (D :: C :: own ++ c.W) (D :: C :: own) s (compM scope c.m)).env.cells = _ from cellsE] at ly
    rcases List.mem_append.mp (PySem.mem_of_lookup ly) with m | m
    ·exact name_of_addr ok.apart m mb
    ·have h1 := closLt y b m
     have h2 := ownGe x b mb
     rw [hCD] at h2
     exact absurd (Nat.lt_of_lt_of_le h1 (Nat.le_trans (Nat.le_add_right D 2) h2)) (Nat.lt_irrefl _)
noncomputable def testsOf (ifs : List Expr) (env : Env) : Sem Bool := forIn ifs true fun c r => if r = true then isTrue c env (eval c env) >>= fun ok => pure (ForInStep.yield ok) else pure (ForInStep.yield r)
noncomputable def TstL (c : Cx) (ifs : List Expr) (b : Bool) (g : Heap) : Prop := Does c (testsOf ifs c.env) (fun _ x => x = b) g
section
variable {c : Cx} {g : Heap}
theorem tl_nil : TstL c [] true g := fun g₁ s Q E sg S k => wpAny_pure (k g₁ s true S Sub.refl Sub.refl rfl)
theorem tl_one {e : Expr} {b : Bool} (h : Tst c e b g) : TstL c [e] b g := fun g₁ s Q E sg S k => by
 unfold testsOf
 simp only [List.forIn_cons, List.forIn_nil, if_true]
 exact wpAny_bind (wpAny_bind (h g₁ s _ E sg S fun g' s' v S' sg' sh' p => wpAny_pure (wpAny_pure (k g' s' v S' sg' sh' p))))
end
section
variable {c : Cx} {g : Heap} {s : Shared}
theorem wp_level {e : Expr} {depth : Nat} {acc : Value} {p : Pos} {target : Expr} {ifs : List Expr} {inner : Sem Unit} {I : Addr} {fp : List Addr} {n : Nat} {J : Nat → Heap → Prop} {V : Nat → Heap → Value → Prop} {R : Result → Shared → Prop}
  (hq : (Code.compLoop e depth (.ref I) acc c.env).isFrame = false) (hu : c.A.under (Code.compLoop e depth (.ref I) acc c.env) = c.A)
  (hturn : compTurn e depth (.ref I) acc c.env = standAt p >>= fun _ => pyNext (.ref I) >>= fun r => match r with
   | none => pure (.done .next)
   | some v => letOwnedTupleGo target (.ref I) v >>= fun _ => assign target c.env v >>= fun _ => testsOf ifs c.env >>= fun ok =>
    if ok = true then inner >>= fun _ => again (.compLoop e depth (.ref I) acc c.env) else again (.compLoop e depth (.ref I) acc c.env))
  (It0 : It c.w c.A target I fp g n J V) (S : St c g s) (j0 : J 0 s.heap) (hf : ∀ a ∈ fp, g.get? a = none ∧ (∃ o, s.heap.get? a = some o) ∧ a ∉ c.W ∧ c.s₀.heap.get? a = none)
  (Inv : Nat → (Str → Option Value) → Heap → Heap → Prop) (h0 : Inv 0 c.m g s.heap)
  (stab : ∀ i m g h g' h', Inv i m g h → Sub g g' → (∀ a ∈ c.O, ∀ o, h.get? a = some o → h'.get? a = some o) → Inv i m g' h')
  (turn : ∀ W' s₀' i m g₁ s₁ v F, (∀ a ∈ c.W, a ∈ W') → i < n → St { c with m := m, W := W', s₀ := s₀' } g₁ s₁ → Inv i m g₁ s₁.heap → V i g₁ v → Sub g g₁ →
   wpAny (model PG c.w) c.A (assign target c.env v) (fun _ s₂ => wpAny (model PG c.w) c.A (testsOf ifs c.env) (fun ok s₃ =>
    if ok = true then wpAny (model PG c.w) c.A inner (fun _ s₄ => ∃ m' g₂, St { c with m := m', W := W', s₀ := s₀' } g₂ s₄ ∧ Sub g₁ g₂ ∧ Inv (i + 1) m' g₂ s₄.heap) F s₃
    else ∃ m' g₂, St { c with m := m', W := W', s₀ := s₀' } g₂ s₃ ∧ Sub g₁ g₂ ∧ Inv (i + 1) m' g₂ s₃.heap) F s₂) F s₁)
  (done : ∀ m g' s', St { c with m := m } g' s' → Sub g g' → Inv n m g' s'.heap → R (.ok .next) s') :
  codeAny (model PG c.w) c.A (.compLoop e depth (.ref I) acc c.env) R s := by
 have hfW : ∀ a ∈ fp, a ∉ c.W := fun a m => (hf a m).2.2.1
 have hf0 : ∀ a ∈ fp, c.s₀.heap.get? a = none := fun a m => (hf a m).2.2.2
 have hff : ∀ a ∈ fp, a ∉ foot c.env := fun a m q => hfW a m (S.inW a q)
 have hfO : ∀ a ∈ fp, a ∉ c.O := fun a m q => hfW a m (S.own a q).1
 refine codeAny_loop rfl (fun k s' => ∃ i m g', k = n + 1 - i ∧ i ≤ n ∧ St { c with m := m, W := fp ++ c.W } g' s' ∧ Sub g g' ∧ Inv i m g' s'.heap ∧ J i s'.heap) ?_ (n + 1)
  ⟨0, c.m, g, rfl, Nat.zero_le _, S.addW fun a m => ⟨(hf a m).1, (hf a m).2.1⟩, Sub.refl, h0, j0⟩
 rintro k s₃ ⟨i, m, g₃, rfl, hi, S₃, sg₃, inv, j⟩
 rw [hu]
 show wpAny _ c.A (if (Code.compLoop e depth (.ref I) acc c.env).isFrame then (compTurn e depth (.ref I) acc c.env).onRaise (leaving c.env) else (compTurn e depth (.ref I) acc c.env).onRaise (fun x => do noteFrame x c.env; theTreesLotGoes x)) _ _ s₃
 rw [hq]
 refine wpAny_noted ?_
 rw [hturn]
 refine wpAny_bind (wpAny_standAt (wpAny_bind ?_))
 by_cases hlt : i < n
 ·refine It0.item i s₃ _ _ hlt j (sg₃.trans S₃.fz.sub) fun v s₄ JM sm₄ b₄ j₄ own hV => ?_
  have S₄ : St { c with m := m, W := fp ++ c.W } g₃ s₄ := S₃.iter sm₄ b₄ fun a q => ⟨List.mem_append_left _ q, hf0 a q, hff a q⟩
  refine wpAny_bind (own s₄ _ _ j₄ fun s₅ sm₅ b₅ j₅ => ?_)
  have S₅ : St { c with m := m, W := fp ++ c.W } g₃ s₅ := S₄.iter sm₅ b₅ fun a q => ⟨List.mem_append_left _ q, hf0 a q, hff a q⟩
  obtain ⟨S₆, sg₆⟩ := S₅.grow
  have kO : ∀ a ∈ c.O, ∀ o, s₃.heap.get? a = some o → s₅.heap.get? a = some o := fun a q o e => b₅.keep (fun z => hfO a z q) (b₄.keep (fun z => hfO a z q) e)
  have hv : V i (hideAll s₅.heap (fp ++ c.W)) v := hV _ (sg₃.trans sg₆) fun a o e e' => hideAll_get _ (b₅.keep (fun z => by obtain ⟨o', z'⟩ := S₃.live a (List.mem_append_left _ z); rw [e'] at z'; cases z') e) fun z => by obtain ⟨o', z'⟩ := S₃.live a z; rw [e'] at z'; cases z'
  have t := turn (fp ++ c.W) (anchor s₅ c.O) i m _ s₅ v (notedBy (model PG c.w) c.A c.env fun e s' => R (.error e) s') (fun a q => List.mem_append_right _ q) hlt S₆.anchored (stab _ _ _ _ _ _ inv sg₆ kO) hv (sg₃.trans sg₆)
  have fin : ∀ s₇, (∃ m' g₂, St { c with m := m', W := fp ++ c.W, s₀ := anchor s₅ c.O } g₂ s₇ ∧ Sub (hideAll s₅.heap (fp ++ c.W)) g₂ ∧ Inv (i + 1) m' g₂ s₇.heap) →
    ∃ k, k < n + 1 - i ∧ ∃ i m g', k = n + 1 - i ∧ i ≤ n ∧ St { c with m := m, W := fp ++ c.W } g' s₇ ∧ Sub g g' ∧ Inv i m g' s₇.heap ∧ J i s₇.heap := fun s₇ ⟨m', g₂, S₇, sg₇, i₇⟩ =>
   ⟨n + 1 - (i + 1), turn_lt hlt, i + 1, m', g₂, rfl, hlt, St.unanchor (c := { c with m := m, W := fp ++ c.W }) S₆ S₇, (sg₃.trans sg₆).trans sg₇, i₇, It0.frame _ _ _ j₅ (fun a q o e => S₇.kp a o (hideAll_get _ e (hfO a q))) ((sg₃.trans sg₆).trans S₆.fz.sub) (((sg₃.trans sg₆).trans sg₇).trans S₇.fz.sub)⟩
  refine wpAny_bind (wpAny_mono t (fun _ s₆ h₆ => wpAny_bind (wpAny_mono h₆ (fun ok s₇ h₇ => ?_) fun _ _ e => e)) fun _ _ e => e)
  cases ok with
  | false =>
   simp only [Bool.false_eq_true, if_false] at h₇ ⊢
   exact wpAny_pure ⟨rfl, fin s₇ h₇⟩
  | true =>
   simp only [if_true] at h₇ ⊢
   exact wpAny_bind (wpAny_mono h₇ (fun _ s₈ h₈ => wpAny_pure ⟨rfl, fin s₈ h₈⟩) fun _ _ e => e)
 ·have hin : i = n := by omega
  subst hin
  refine It0.done s₃ _ _ j (sg₃.trans S₃.fz.sub) fun s₄ sm₄ b₄ => ?_
  exact wpAny_pure (done m g₃ s₄ (St.dropW (c := { c with m := m }) S₃ sm₄ b₄ (fun a q => ⟨hfW a q, hf0 a q⟩) S.inW fun a q => (S.own a q).1) sg₃ (stab _ _ _ _ _ _ inv Sub.refl fun a q o e => b₄ a o (fun z => hfO a z q) e))
end
section
variable {c : Cx} {g : Heap} {s : Shared} {E : Value → Shared → Prop}
theorem St.other {fp : List Addr} {s' : Shared} (S : St c g s) (a : Sm s s') (b : Off fp s.heap s'.heap) (hf : ∀ x ∈ fp, g.get? x = none ∧ c.s₀.heap.get? x = none ∧ x ∉ c.W) : St c g s' :=
 ⟨S.sm.trans a, fun x o e => b x o (fun q => by rw [(hf x q).2.1] at e; cases e) (S.kp x o e), ⟨fun x o e => b x o (fun q => by rw [(hf x q).1] at e; cases e) (S.fz.sub x o e), S.fz.off⟩,
  fun x n => let ⟨o, e⟩ := S.live x n; ⟨o, b x o (fun q => (hf x q).2.2 n) e⟩, S.gl, S.vars.at fun x n o e => b x o (fun q => (hf x q).2.2 (S.inW x n)) e, S.inW, S.own, S.loc, S.sto, S.eg, S.eb⟩
theorem St.gt3 (S : St c g s) : 3 < s.heap.objs.size := by
 obtain ⟨_, _, _, _, T⟩ := S.gl.top
 obtain ⟨o, _, _, ho, _⟩ := T.g
 exact S.fz.lt ho
noncomputable def DoesIt2 (c : Cx) (tg : Expr) (first : Sem Value) (n : Nat) (V : Nat → Heap → Value → Prop) (g : Heap) : Prop :=
 ∀ g₁ (s : Shared) (Q : Value → Shared → Prop) (E : Value → Shared → Prop), Sub g g₁ → St c g₁ s →
  (∀ g' s' I fp J, St c g' s' → Sub g₁ g' → Sub s.heap s'.heap → It c.w c.A tg I fp g' n J V → J 0 s'.heap → (∀ a ∈ fp, g'.get? a = none ∧ s.heap.get? a = none ∧ ∃ o, s'.heap.get? a = some o) → Q (.ref I) s') →
   wpAny (model PG c.w) c.A first (fun x s₁ => wpAny (model PG c.w) c.A (pyIter x) Q E s₁) E s
theorem DoesIt2.of {tg : Expr} {first : Sem Value} {P : Heap → Value → Prop} {n : Nat} {V : Nat → Heap → Value → Prop} (hP : Does c first P g) (hI : ∀ g' x, Sub g g' → P g' x → DoesIt c tg (pyIter x) n V g') : DoesIt2 c tg first n V g :=
 fun g₁ s Q E sg S q => hP g₁ s _ E sg S fun g₂ s₂ x S₂ sg₂ sh₂ p => hI g₂ x (sg.trans sg₂) p g₂ s₂ Q E Sub.refl S₂ fun g' s' I fp J S' sg' sh' it j hf => q g' s' I fp J S' (sg₂.trans sg') (sh₂.trans sh') it j fun a m =>
  ⟨(hf a m).1, Sub.none sh₂ (hf a m).2.1, (hf a m).2.2⟩
theorem DoesIt2.sub {tg : Expr} {first : Sem Value} {n : Nat} {V : Nat → Heap → Value → Prop} (h : DoesIt2 c tg first n V g) {g' : Heap} (s : Sub g g') : DoesIt2 c tg first n V g' := fun g₁ s₁ Q E sg S q => h g₁ s₁ Q E (s.trans sg) S q
noncomputable def Block (c : Cx) (e tg : Expr) (scope : Scope) (T : List Str) (o : Obj) (n : Nat) (V : Nat → Heap → Value → Prop) (Acc : Addr → Heap → Heap → Prop) (g : Heap) : Prop :=
 ∀ gI s₁ C W' O' s₀' I fp J D, St (compC c scope T C W' O' s₀' (compM scope c.m)) gI s₁ → Sub g gI → D ∈ O' → D ≠ C → 3 < D → (∀ a ∈ fp, gI.get? a = none ∧ (∃ o, s₁.heap.get? a = some o) ∧ a ∉ W' ∧ s₀'.heap.get? a = none) →
  It c.w c.A tg I fp gI n J V → J 0 s₁.heap → s₁.heap.get? D = some o → D ∉ foot (compEnvX c.env scope C) →
  codeAny (model PG c.w) c.A (.compStart e 0 (.ref I) (.ref D) (compEnvX c.env scope C)) (fun r s' => match r with
   | .ok _ => ∃ m' g'', St (compC c scope T C W' O' s₀' m') g'' s' ∧ Sub gI g'' ∧ Acc D g'' s'.heap
   | .error _ => False) s₁
theorem wp_comp {e : Expr} {scope : Scope} {T : List Str} {pos : Pos} {newAcc first : Sem Value} {G : Comprehension} {gs : List Comprehension} {use : Option (Value → Sem Unit)} {o : Obj} {n : Nat} {V : Nat → Heap → Value → Prop}
  {Acc : Addr → Heap → Heap → Prop} {Res : Heap → Value → Prop} {Q : Value → Shared → Prop}
  (hcl : clausesOf e = G :: gs) (hs : ∀ x, foldedSetIterable G.iter c.env x = pure x) (hc : compOk scope c.env = true) (hT : tgtOk scope T = true)
  (hI : DoesIt2 c G.target first n V g)
  (hacc : ∀ (s : Shared) (Q : Value → Shared → Prop), Q (.ref s.heap.objs.size) { s with heap := s.heap.push o } → wpAny (model PG c.w) c.A newAcc Q E s) (ho : o.isFreed = false)
  (hB : Block c e G.target scope T o n V Acc g) (hres : ∀ D g'' h g3, Acc D g'' h → Sub g'' g3 → (∀ o, h.get? D = some o → g3.get? D = some o) → Res g3 (.ref D))
  (S : St c g s)
  (h : ∀ g3 s' D C m, St { c with W := C :: c.W } g3 s' → Sub g g3 → Sub s.heap s'.heap → C ∉ c.W → c.s₀.heap.get? C = none → s.heap.get? C = none → Res g3 (.ref D) → s'.heap.Ns C m → compPost (model PG c.w) c.A E use Q (.ref D) C (.ok .next) s') :
  wpAny (model PG c.w) c.A (comprehension e scope c.env pos newAcc false first use) Q E s := by
 have hk := Bool.and_eq_true_iff.mp hc
 have hnames := List.all_eq_true.mp hk.2
 have hclos : closureFor scope c.env = pure (closOf scope c.env) := closureFor_eq fun nk m hf => by
  have := (Bool.and_eq_true_iff.mp (hnames nk m)).2
  rw [hf] at this
  simp only [bne_self_eq_false, Bool.false_or, Bool.and_eq_true] at this
  exact this.1
 refine wpAny_comprehension_free hcl hs hclos (by simpa using hk.1) (fun x m hl => by
  have := (Bool.and_eq_true_iff.mp (hnames x m)).1
  rw [hl] at this; simpa using this) (wpAny_mono (hI g s (fun it s₂ => wpAny (model PG c.w) c.A newAcc (fun acc s₃ => wpAny (model PG c.w) c.A (newFunctionEnv scope c.env.globals (closOf scope c.env) [] c.env.qual none .none (some c.env)) (fun cenv s₄ => codeAny (model PG c.w) c.A (.compStart e 0 it acc { cenv with scope := relabel scope c.env }) (compPost (model PG c.w) c.A E use Q acc cenv.locals) s₄) E s₃) E s₂) E Sub.refl S fun gI s₂ I fp J S₂ sg₂ sh₂ It0 j0 hf => hacc s₂ _ (wpAny_compEnv ?_)) (fun _ _ q => q) fun _ _ q => q)
 obtain ⟨S₃, hD, hge⟩ := comp_St (o := o) S S₂ sh₂ hc hT ho
 have hsz : (s₂.heap.push o).objs.size = s₂.heap.objs.size + 1 := Heap.size_push ..
 have sub₂ : Sub s₂.heap (pushCells ((s₂.heap.push o).push { cls := .type "dict", data := .dict #[] }) scope.names) := fun b x e => pushCells_keeps _ _ b x (Heap.get?_push_of_some _ (Heap.get?_push_of_some _ e))
 have fpLt : ∀ a ∈ fp, a < s₂.heap.objs.size := fun a m => let ⟨_, e⟩ := (hf a m).2.2; Heap.lt_size e
 refine codeAny_mono (hB gI _ (s₂.heap.push o).objs.size _ _ s I fp J s₂.heap.objs.size S₃ sg₂ (.head _) (by rw [hsz]; exact Nat.ne_of_lt (Nat.lt_succ_self _)) S₂.gt3 (fun a m => ⟨(hf a m).1, ?_, fun q => ?_, (hf a m).2.1⟩) It0 ?_ hD ?_) fun r s' hr => ?_
 ·obtain ⟨o', e'⟩ := (hf a m).2.2
  exact ⟨o', sub₂ _ _ e'⟩
 ·rcases List.mem_append.mp q with q | q
  ·exact absurd (fpLt a m) (Nat.not_lt.mpr (hge a q))
  ·obtain ⟨o', e'⟩ := S.live a q
   rw [(hf a m).2.1] at e'; cases e'
 ·exact It0.frame _ _ _ j0 (fun a _ o e => sub₂ _ _ e) S₂.fz.sub S₃.fz.sub
 ·intro q
  rcases List.mem_cons.mp q with q | q
  ·rw [show (compEnvX c.env scope (s₂.heap.push o).objs.size).locals = (s₂.heap.push o).objs.size from rfl, hsz] at q
   exact absurd q (Nat.ne_of_lt (Nat.lt_succ_self _))
  obtain ⟨⟨x, a⟩, hmem, q⟩ := List.mem_map.mp q
  have q : a = s₂.heap.objs.size := q
  have cellsE : (compEnvX c.env scope (s₂.heap.push o).objs.size).cells = cellsFrom ((s₂.heap.push o).objs.size + 1) scope.names [] ++ closOf scope c.env := cellsFrom_append ..
  rw [cellsE] at hmem
  rcases List.mem_append.mp hmem with m | m
  ·have ok := cellsFrom_ok scope.names ((s₂.heap.push o).push { cls := .type "dict", data := .dict #[] }) ((s₂.heap.push o).push { cls := .type "dict", data := .dict #[] }).objs.size [] ⟨fun _ _ hm => (nomatch hm), List.Pairwise.nil⟩ (Nat.le_refl _)
   have hs2 : ((s₂.heap.push o).push { cls := .type "dict", data := .dict #[] }).objs.size = (s₂.heap.push o).objs.size + 1 := Heap.size_push ..
   have h2 := (ok.empty x a (hs2 ▸ m)).2
   rw [q] at h2
   have hs3 := hs2.trans (congrArg (· + 1) hsz)
   rw [hs3] at h2
   exact absurd h2 (by omega)
  ·obtain ⟨m1, m2⟩ := mem_closOf m
   have hfr := (Bool.and_eq_true_iff.mp (hnames (x, .free) m1)).2
   simp only [bne_self_eq_false, Bool.false_or, Bool.and_eq_true] at hfr
   obtain ⟨b, hb⟩ := Option.isSome_iff_exists.mp hfr.1
   rw [hb] at m2
   have hlt := S₂.lt (S₂.inW b (.tail _ (List.mem_map.mpr ⟨(x, b), PySem.mem_of_lookup hb, rfl⟩)))
   rw [show b = a from m2.symm, q] at hlt
   exact Nat.lt_irrefl _ hlt
 ·cases r with
  | error x => exact hr.elim
  | ok f =>
   obtain ⟨m', g'', S₄, sg₄, ac⟩ := hr
   generalize hCe : (s₂.heap.push o).objs.size = C at S₄ hge
   have hCs : s₂.heap.get? C = none := none_of_ge (by rw [← hCe, hsz]; exact Nat.le_succ _)
   have hCW : C ∉ c.W := fun q => by obtain ⟨o', e'⟩ := S₂.live C q; rw [hCs] at e'; cases e'
   have hC0 : c.s₀.heap.get? C = none := Sub.none S₂.kp hCs
   have hCs' : s.heap.get? C = none := Sub.none sh₂ hCs
   have S₅ : St c g'' s' := S.back S₄ rfl (fun a m => List.mem_append_right _ m) Sm.refl Sub.refl
   obtain ⟨ml, hml, _⟩ := S₄.vars.loc
   have liveC : ∃ o, s'.heap.get? C = some o := S₄.live C (List.mem_append_left _ (.tail _ (.head _)))
   have S₆ : St { c with W := [C] ++ c.W } g'' s' := S₅.addW fun a m => by
    rw [List.mem_singleton.mp m]
    exact ⟨S₄.fz.off C (List.mem_append_left _ (.tail _ (.head _))), liveC⟩
   obtain ⟨S₇, sg₇⟩ := S₆.grow
   have hDW : s₂.heap.objs.size ∉ [C] ++ c.W := fun q => by
    rcases List.mem_append.mp q with q | q
    ·have := List.mem_singleton.mp q
     rw [← hCe, hsz] at this
     omega
    ·exact Nat.lt_irrefl _ (S₂.lt q)
   have hR := hres s₂.heap.objs.size g'' s'.heap _ ac sg₇ fun o e => hideAll_get _ e hDW
   have := h _ s' s₂.heap.objs.size C ml S₇ ((sg₂.trans sg₄).trans sg₇) S₄.kp hCW hC0 hCs' hR hml
   cases use <;> exact this
theorem wp_comp_val {e : Expr} {scope : Scope} {T : List Str} {pos : Pos} {newAcc first : Sem Value} {G : Comprehension} {gs : List Comprehension} {o : Obj} {n : Nat} {V : Nat → Heap → Value → Prop}
  {Acc : Addr → Heap → Heap → Prop} {Res : Heap → Value → Prop}
  (hcl : clausesOf e = G :: gs) (hs : ∀ x, foldedSetIterable G.iter c.env x = pure x) (hc : compOk scope c.env = true) (hT : tgtOk scope T = true)
  (hI : DoesIt2 c G.target first n V g)
  (hacc : ∀ (s : Shared) (Q : Value → Shared → Prop) (E : Value → Shared → Prop), Q (.ref s.heap.objs.size) { s with heap := s.heap.push o } → wpAny (model PG c.w) c.A newAcc Q E s) (ho : o.isFreed = false)
  (hB : ∀ g', Sub g g' → Block c e G.target scope T o n V Acc g') (hres : ∀ D g'' h g3, Acc D g'' h → Sub g'' g3 → (∀ o, h.get? D = some o → g3.get? D = some o) → Res g3 (.ref D)) :
  Does c (comprehension e scope c.env pos newAcc false first none) Res g := fun g₁ s Q E sg S k =>
 wp_comp hcl hs hc hT (hI.sub sg) (fun s Q q => hacc s Q E q) ho (hB g₁ sg) hres S fun g3 s' D C m S' sg' sh' hCW hC0 hCs hR hn => by
  refine ⟨m, hn, fun h' hs' => ?_⟩
  have off : Off [C] s'.heap h' := fun b o hb e => hs'.extBut b o (fun q => hb (q ▸ .head _)) e
  have S'' : St c g3 { s' with heap := h' } := St.dropW (fp := [C]) S' Sm.heap off (fun x q => by rw [List.mem_singleton.mp q]; exact ⟨hCW, hC0⟩) S.inW fun x m => (S.own x m).1
  exact k g3 _ _ S'' sg' (fun b o e => hs'.extBut b o (fun q => by rw [q, hCs] at e; cases e) (sh' b o e)) hR
theorem wp_comp_use {e : Expr} {scope : Scope} {T : List Str} {pos px : Pos} {x : Str} {newAcc first : Sem Value} {G : Comprehension} {gs : List Comprehension} {o : Obj} {n : Nat} {V : Nat → Heap → Value → Prop}
  {Acc : Addr → Heap → Heap → Prop} {Res : Heap → Value → Prop} {Q : Value → Shared → Prop}
  (hcl : clausesOf e = G :: gs) (hs : ∀ x, foldedSetIterable G.iter c.env x = pure x) (hc : compOk scope c.env = true) (hT : tgtOk scope T = true) (hx : x ∈ c.S)
  (hI : DoesIt2 c G.target first n V g)
  (hacc : ∀ (s : Shared) (Q : Value → Shared → Prop) (E : Value → Shared → Prop), Q (.ref s.heap.objs.size) { s with heap := s.heap.push o } → wpAny (model PG c.w) c.A newAcc Q E s) (ho : o.isFreed = false)
  (hB : Block c e G.target scope T o n V Acc g) (hres : ∀ D g'' h g3, Acc D g'' h → Sub g'' g3 → (∀ o, h.get? D = some o → g3.get? D = some o) → Res g3 (.ref D)) (S : St c g s)
  (h : ∀ g3 s' v, St { c with m := upd c.m x v } g3 s' → Sub g g3 → Res g3 v → Q .none s') :
  wpAny (model PG c.w) c.A (comprehension e scope c.env pos newAcc false first (some (assign (.Name x px) c.env))) Q E s :=
 wp_comp hcl hs hc hT hI (fun s Q q => hacc s Q E q) ho hB hres S fun g3 s' D C m S' sg' sh' hCW hC0 hCs hR hn => by
  show wpAny _ c.A (assign (.Name x px) c.env (.ref D)) _ E s'
  obtain ⟨oC, hoC⟩ := S'.live C (.head _)
  have hCO : C ∉ c.O := fun q => hCW (S.own C q).1
  refine wpAny_assign_Name (store_var S'.vars (S'.sto x hx).1 (fun a l => ((S'.sto x hx).2 a l).2) fun s'' sm v b => ?_)
  have bO := b c.O ⟨S.loc, fun a l => ((S.sto x hx).2 a l).1⟩
  have S'' := S'.turn sm bO v
  refine ⟨m, hn.at' fun o e => bO.keep hCO e, fun h' hs' => ?_⟩
  have off : Off [C] s''.heap h' := fun b o hb e => hs'.extBut b o (fun q => hb (q ▸ .head _)) e
  exact h g3 _ _ (St.dropW (c := { c with m := upd c.m x (.ref D) }) (fp := [C]) S'' Sm.heap off (fun x q => by rw [List.mem_singleton.mp q]; exact ⟨hCW, hC0⟩) S.inW fun x m => (S.own x m).1) sg' hR
end
noncomputable def AsTo (w : World) (A : Around) (target : Expr) (T : List Str) (n : Nat) (V : Nat → Heap → Value → Prop) (Tg : Nat → Heap → (Str → Option Value) → Prop) : Prop :=
 ∀ (c : Cx) (g : Heap) (s : Shared) (i : Nat) (v : Value) (Q : Unit → Shared → Prop) (E : Value → Shared → Prop), c.w = w → c.A = A → (∀ x ∈ T, x ∈ c.S) → i < n → St c g s → V i g v →
  (∀ s' m', Tg i g m' → (∀ y, T.contains y = false → m' y = c.m y) → St { c with m := m' } g s' → But (foot c.env) s.heap s'.heap → Q () s') → wpAny (model PG c.w) c.A (assign target c.env v) Q E s
noncomputable def TgN (x : Str) (V : Nat → Heap → Value → Prop) : Nat → Heap → (Str → Option Value) → Prop := fun i g m => ∃ v, m x = some v ∧ V i g v
noncomputable def TgT (xs : List Str) (ds : List (List PyData)) : Nat → Heap → (Str → Option Value) → Prop := fun i g m => ∃ vs, xs.map m = vs.map some ∧ Rds g vs (ds.getD i [])
section
variable {w : World} {A : Around} {n k : Nat} {V : Nat → Heap → Value → Prop} {pos : Pos}
theorem at_name {x : Str} : AsTo w A (.Name x pos) [x] n V (TgN x V) := fun c g s i v Q E ew eA eS hi S hv h =>
 as_name S (eS _ (.head _)) fun s' S' b => h s' _ ⟨v, by simp [upd], hv⟩ (fun y hy => by
  have : y ≠ x := fun q => by rw [q] at hy; simp at hy
  simp [upd, this]) S' b
theorem getD_of {α : Type} {l : List α} {i : Nat} {a b : α} (h : l[i]? = some a) : l.getD i b = a := by rw [List.getD_eq_getElem?_getD, h]; rfl
theorem at_pair {a b : Str} {pa pb : Pos} {kk : Nat} {ds : List (List PyData)} (hA : AOk k A) (hn : a ≠ b) (h2 : ∀ d ∈ ds, d.length = 2) : AsTo w A (.Tuple [.Name a pa, .Name b pb] kk pos) [a, b] n (VD (ds.map .tuple)) (TgT [a, b] ds) := fun c g s i v Q E ew eA eS hi S hv h => by
 obtain ⟨d, e, r⟩ := hv
 rw [List.getElem?_map] at e
 cases hd : ds[i]? with
 | none => rw [hd] at e; cases e
 | some l =>
  rw [hd] at e; cases e
  have hl := h2 l (List.mem_of_getElem? hd)
  match l, hl with
  | [da, db], _ =>
   subst eA
   refine as_pair hA (eS _ (.head _)) (eS _ (.tail _ (.head _))) S r fun s' x y rx ry S' bb => h s' _ ⟨[x, y], ?_, ?_⟩ (fun z hz => ?_) S' bb
   ·simp [upd, hn, Ne.symm hn]
   ·rw [getD_of hd]; exact .cons rx (.cons ry .nil)
   ·have : z ≠ a ∧ z ≠ b := ⟨fun q => by rw [q] at hz; simp at hz, fun q => by rw [q] at hz; simp at hz⟩
    simp [upd, this]
theorem at_triple {a b d : Str} {pa pb pd : Pos} {kk : Nat} {ds : List (List PyData)} (hA : AOk k A) (hn : a ≠ b ∧ a ≠ d ∧ b ≠ d) (h2 : ∀ d ∈ ds, d.length = 3) : AsTo w A (.Tuple [.Name a pa, .Name b pb, .Name d pd] kk pos) [a, b, d] n (VD (ds.map .tuple)) (TgT [a, b, d] ds) := fun c g s i v Q E ew eA eS hi S hv h => by
 obtain ⟨d', e, r⟩ := hv
 rw [List.getElem?_map] at e
 cases hd : ds[i]? with
 | none => rw [hd] at e; cases e
 | some l =>
  rw [hd] at e; cases e
  have hl := h2 l (List.mem_of_getElem? hd)
  match l, hl with
  | [da, db, dd], _ =>
   subst eA
   refine as_triple hA (eS _ (.head _)) (eS _ (.tail _ (.head _))) (eS _ (.tail _ (.tail _ (.head _)))) S r fun s' x y z rx ry rz S' bb => h s' _ ⟨[x, y, z], ?_, ?_⟩ (fun u hu => ?_) S' bb
   ·simp [upd, hn, Ne.symm hn.1, Ne.symm hn.2.1, Ne.symm hn.2.2]
   ·rw [getD_of hd]; exact .cons rx (.cons ry (.cons rz .nil))
   ·have : u ≠ a ∧ u ≠ b ∧ u ≠ d := ⟨fun q => by rw [q] at hu; simp at hu, fun q => by rw [q] at hu; simp at hu, fun q => by rw [q] at hu; simp at hu⟩
    simp [upd, this]
end
noncomputable def Lev (c : Cx) (T : List Str) (c' : Cx) : Prop := ∃ m W s₀, c' = { c with m := m, W := W, s₀ := s₀ } ∧ (∀ y, T.contains y = false → m y = c.m y)
noncomputable def TgMono (Tg : Nat → Heap → (Str → Option Value) → Prop) : Prop := ∀ i g g' m, Sub g g' → Tg i g m → Tg i g' m
section
variable {c : Cx} {g : Heap} {s : Shared} {k : Nat} {pos : Pos}
theorem compStart_any {e : Expr} {depth : Nat} {G : Comprehension} {it acc : Value} {env : Env} {w : World} {A : Around} {R : Result → Shared → Prop} {s : Shared} (hq : (Code.compStart e depth it acc env).isFrame = false) (hu : A.under (Code.compStart e depth it acc env) = A)
  (hG : (clausesOf e)[depth]? = some G) (ha : G.is_async = 0) (h0 : codeAny (model PG w) A (.compLoop e depth it acc env) R s)
  (h : wpAny (model PG w) A (pyIter it) (fun it' s' => codeAny (model PG w) A (.compLoop e depth it' acc env) R s') (notedBy (model PG w) A env fun x s' => R (.error x) s') s) :
  codeAny (model PG w) A (.compStart e depth it acc env) R s := by
 refine codeAny_of_tree ?_
 rw [hu]
 show wpAny _ A (if (Code.compStart e depth it acc env).isFrame then (compStart e depth it acc env).onRaise (leaving env) else (compStart e depth it acc env).onRaise (fun x => do noteFrame x env; standAt theWindowsPlace)) _ _ s
 rw [hq]
 refine wpAny_notedAt ?_
 unfold compStart
 rw [hG]
 simp only [Option.elim_some, ha, bne_self_eq_false, Bool.false_eq_true, if_false]
 show wpAny _ _ (ask >>= _) _ _ s
 refine wpAny_bind (wpAny_askSetting (wpAny_ite ?_))
 split
 ·first
   | exact wpAny_bind (wpAny_pure (wpAny_pure (And.intro rfl h0)))
   | exact wpAny_pure (And.intro rfl h0)
 ·first
   | exact wpAny_bind (wpAny_rule (wpAny_bind (wpAny_standAt (wpAny_bind (wpAny_mono h (fun it' s' h' => wpAny_pure (And.intro rfl h')) fun _ _ x => x)))))
   | (refine wpAny_bind (wpAny_rule ?_); show wpAny _ _ (standAt G.iter.pos >>= _) _ _ s; exact wpAny_bind (wpAny_standAt (wpAny_bind (wpAny_mono h (fun it' s' h' => wpAny_pure (And.intro rfl h')) fun _ _ x => x))))
theorem lv_acc {e : Expr} {depth : Nat} {D : Addr} {p : Pos} {target : Expr} {ifs : List Expr} {inner : Sem Unit} {I : Addr} {fp : List Addr} {n : Nat} {J : Nat → Heap → Prop} {V : Nat → Heap → Value → Prop} {T T₁ : List Str} {Tg : Nat → Heap → (Str → Option Value) → Prop}
  (hq : (Code.compLoop e depth (.ref I) (.ref D) c.env).isFrame = false) (hu : c.A.under (Code.compLoop e depth (.ref I) (.ref D) c.env) = c.A)
  (hturn : compTurn e depth (.ref I) (.ref D) c.env = standAt p >>= fun _ => pyNext (.ref I) >>= fun r => match r with
   | none => pure (.done .next)
   | some v => letOwnedTupleGo target (.ref I) v >>= fun _ => assign target c.env v >>= fun _ => testsOf ifs c.env >>= fun ok =>
    if ok = true then inner >>= fun _ => again (.compLoop e depth (.ref I) (.ref D) c.env) else again (.compLoop e depth (.ref I) (.ref D) c.env))
  (It0 : It c.w c.A target I fp g n J V) (S : St c g s) (j0 : J 0 s.heap) (hf : ∀ a ∈ fp, g.get? a = none ∧ (∃ o, s.heap.get? a = some o) ∧ a ∉ c.W ∧ c.s₀.heap.get? a = none)
  (hDO : D ∈ c.O) (hDf : D ∉ foot c.env) (Acc : Nat → Heap → Heap → Prop) (astab : ∀ i g h g' h', Acc i g h → Sub g g' → (∀ o, h.get? D = some o → h'.get? D = some o) → Acc i g' h') (h0 : Acc 0 g s.heap)
  (test : Nat → Bool) (skip : ∀ i g h, test i = false → Acc i g h → Acc (i + 1) g h) (hT : ∀ y, T.contains y = false → T₁.contains y = false) (ht : AsTo c.w c.A target T₁ n V Tg) (hTS : ∀ x ∈ T₁, x ∈ c.S)
  (body : ∀ i gB c', i < n → Sub g gB → Lev c T c' → Tg i gB c'.m → TstL c' ifs (test i) gB ∧ (test i = true → ∀ gC s F, Sub gB gC → St c' gC s → Acc i gC s.heap →
   wpAny (model PG c.w) c.A inner (fun _ s' => ∃ m' g₂, St { c' with m := m' } g₂ s' ∧ Sub gC g₂ ∧ Acc (i + 1) g₂ s'.heap ∧ ∀ y, T.contains y = false → m' y = c'.m y) F s)) :
  codeAny (model PG c.w) c.A (.compLoop e depth (.ref I) (.ref D) c.env) (fun r s' => match r with
   | .ok _ => ∃ m' g'', St { c with m := m' } g'' s' ∧ Sub g g'' ∧ Acc n g'' s'.heap ∧ ∀ y, T.contains y = false → m' y = c.m y
   | .error _ => False) s := by
 refine wp_level (p := p) (target := target) (ifs := ifs) (inner := inner) hq hu hturn It0 S j0 hf (fun i m g h => Acc i g h ∧ ∀ y, T.contains y = false → m y = c.m y) ⟨h0, fun _ _ => rfl⟩ (fun i m g h g' h' ⟨a, q⟩ s kp => ⟨astab _ _ _ _ _ a s (kp D hDO), q⟩) ?_ ?_
 ·intro W₂ s₂' i m g₁ s₂ v F hW hi S₂ inv hv sg₁
  obtain ⟨ac, hfree⟩ := inv
  refine ht { c with m := m, W := W₂, s₀ := s₂' } g₁ s₂ i v _ F rfl rfl hTS hi S₂ hv fun s₃ m' htg hother S₃ b₃ => ?_
  have ac₃ := astab _ _ _ g₁ s₃.heap ac Sub.refl fun o e => b₃.keep hDf e
  have hfree' : ∀ y, T.contains y = false → m' y = c.m y := fun y hy => (hother y (hT y hy)).trans (hfree y hy)
  obtain ⟨h1, h2⟩ := body i g₁ { c with m := m', W := W₂, s₀ := s₂' } hi sg₁ ⟨_, _, _, rfl, hfree'⟩ htg
  refine h1 g₁ s₃ _ F Sub.refl S₃ fun g₄ s₄ b S₄ sg₄ sh₄ pb => ?_
  subst pb
  have ac₄ := astab _ _ _ g₄ s₄.heap ac₃ sg₄ fun o e => sh₄ _ _ e
  cases hb : test i with
  | false =>
   simp only [hb, Bool.false_eq_true, if_false]
   exact ⟨m', g₄, S₄, sg₄, skip _ _ _ hb ac₄, hfree'⟩
  | true =>
   simp only [hb, if_true]
   exact wpAny_mono (h2 hb g₄ s₄ F sg₄ S₄ ac₄) (fun _ s' ⟨m₂, g₂, S₅, sg₅, ac₅, q⟩ => ⟨m₂, g₂, S₅, sg₄.trans sg₅, ac₅, fun y hy => (q y hy).trans (hfree' y hy)⟩) fun _ _ e => e
 ·intro m g' s' S' sg' inv
  exact ⟨m, g', S', sg', inv.1, inv.2⟩
theorem em_nest {e tg : Expr} {it1 : Expr} {depth : Nat} {D : Addr} {P : Heap → Value → Prop} {n : Nat} {V : Nat → Heap → Value → Prop} {F : Value → Shared → Prop} {Q : Unit → Shared → Prop} (hP : Does c (eval it1 c.env) P g) (hI : ∀ g' x, Sub g g' → P g' x → DoesIt c tg (pyIter x) n V g') (S : St c g s)
  (hs : ∀ x, foldedSetIterable it1 c.env x = pure x)
  (h : ∀ g' s' I fp J, St c g' s' → Sub g g' → Sub s.heap s'.heap → It c.w c.A tg I fp g' n J V → J 0 s'.heap → (∀ a ∈ fp, g'.get? a = none ∧ (∃ o, s'.heap.get? a = some o) ∧ a ∉ c.W ∧ c.s₀.heap.get? a = none) →
   codeAny (model PG c.w) c.A (.compStart e depth (.ref I) (.ref D) c.env) (fun r s' => match r with | .ok _ => Q () s' | .error _ => False) s') :
  wpAny (model PG c.w) c.A (eval it1 c.env >>= fun x => standAt it1.pos >>= fun _ => foldedSetIterable it1 c.env x >>= fun x => holding [x] (pyIter x) >>= fun i => runOwn (.compStart e depth i (.ref D) c.env) c.env >>= fun _ => pure ()) Q F s := by
 refine wpAny_bind (hP g s _ F Sub.refl S fun g₁ s₁ x S₁ sg₁ sh₁ p => wpAny_bind (wpAny_standAt (wpAny_bind (wpAny_of_eq (hs x) (wpAny_bind (wpAny_holding ?_))))))
 refine hI g₁ x sg₁ p g₁ s₁ _ F Sub.refl S₁ fun gI s₂ I fp J S₂ sg₂ sh₂ It0 j0 hf => wpAny_bind (wpAny_runOwn (codeAny_mono (h gI s₂ I fp J S₂ (sg₁.trans sg₂) (sh₁.trans sh₂) It0 j0 fun a m => ⟨(hf a m).1, (hf a m).2.2, fun q => ?_, Sub.none S₁.kp (hf a m).2.1⟩) fun r s' hr => ?_))
 ·obtain ⟨o, e⟩ := S₁.live a q
  rw [(hf a m).2.1] at e; cases e
 ·cases r with
  | ok f => exact wpAny_pure hr
  | error x => exact hr.elim
noncomputable def AccL (ds : List PyData) : Addr → Heap → Heap → Prop := fun D g h => ∃ vs, h.PlainList D vs.toArray ∧ Rds g vs ds
theorem AccL.res {ds : List PyData} : ∀ D g'' h g3, AccL ds D g'' h → Sub g'' g3 → (∀ o, h.get? D = some o → g3.get? D = some o) → RdP (.list ds) g3 (.ref D) := fun D g'' h g3 ⟨vs, ⟨n, ho⟩, r⟩ s k => Rd.list (k _ ho) rfl rfl (by simpa using r.mono s)
theorem isList_at {h h' : Heap} {a : Addr} {xs : Array Value} (x : h.IsList a xs) (k : ∀ o, h.get? a = some o → h'.get? a = some o) : h'.IsList a xs := let ⟨o, e, r⟩ := x; ⟨o, k o e, r⟩
theorem AccL.stab {ds : List PyData} {D : Addr} {g h g' h' : Heap} (x : AccL ds D g h) (s : Sub g g') (k : ∀ o, h.get? D = some o → h'.get? D = some o) : AccL ds D g' h' := let ⟨vs, l, r⟩ := x; ⟨vs, l.at k, r.mono s⟩
noncomputable def outs (n : Nat) (test : Nat → Bool) (out : Nat → PyData) : List PyData := ((List.range n).filter test).map out
theorem outs_succ {n : Nat} {test : Nat → Bool} {out : Nat → PyData} : outs (n + 1) test out = outs n test out ++ (if test n then [out n] else []) := by
 unfold outs
 rw [List.range_succ, List.filter_append, List.map_append]
 cases h : test n <;> simp [h]
theorem outs_len {n : Nat} {test : Nat → Bool} {out : Nat → PyData} : (outs n test out).length ≤ n := by
 unfold outs
 rw [List.length_map]
 exact Nat.le_trans (List.length_filter_le _ _) (by simp)
theorem em_list {elt : Expr} {D : Addr} {ds : List PyData} {d : PyData} {F : Value → Shared → Prop} (hDO : D ∈ c.O) (hDf : D ∉ foot c.env) (he : Does c (eval elt c.env) (RdP d) g) (S : St c g s) (ac : AccL ds D g s.heap) (hz : ds.length ≤ sizeLine) :
  wpAny (model PG c.w) c.A (eval elt c.env >>= fun x => call (.builtin "list.append") [.ref D, x] >>= fun _ => pure ()) (fun _ s' => ∃ g₂, St c g₂ s' ∧ Sub g g₂ ∧ AccL (ds ++ [d]) D g₂ s'.heap) F s := by
 refine wpAny_bind (he g s _ F Sub.refl S fun g₅ s₅ x S₅ sg₅ sh₅ rx => wpAny_bind ?_)
 obtain ⟨vs, hl, rl⟩ := ac
 have hvs : vs.toArray.size ≤ sizeLine := by
  have e1 := rl.length
  rw [List.size_toArray]; omega
 refine wpAny_list_append_plain (hsz := hvs) (hl.at fun o e => sh₅ _ _ e) fun h₆ hl₆ hs₆ => wpAny_pure ?_
 obtain ⟨nD, hoD⟩ := id hl₆
 exact ⟨g₅, S₅.turn Sm.heap (.of_same hs₆ hDO hoD) (S₅.vars.at fun a ha o e => hs₆.extBut a o (fun q => hDf (q ▸ ha)) e), sg₅, vs ++ [x], by simpa using hl₆, (rl.mono sg₅).append (.cons rx .nil)⟩
theorem new_list (s : Shared) (Q : Value → Shared → Prop) (E : Value → Shared → Prop) {w : World} {A : Around} (h : Q (.ref s.heap.objs.size) { s with heap := s.heap.push { cls := .type "list", dict := none, data := .seq ([] : List Value).toArray } }) : wpAny (model PG w) A (newList []) Q E s :=
 wpAny_newObj_type h
structure InC (c : Cx) (scope : Scope) (T : List Str) (c' : Cx) : Prop where
 ex : ∃ C W O s₀ m, c' = compC c scope T C W O s₀ m
 free : ∀ y, T.contains y = false → c'.m y = compM scope c.m y
 AA : c'.A = c.A
 ww : c'.w = c.w
theorem InC.of {c c₁ c' : Cx} {scope : Scope} {T : List Str} {C : Addr} {W O : List Addr} {s₀ : Shared} (h : Lev (compC c scope T C W O s₀ (compM scope c.m)) T c') : InC c scope T c' := by
 obtain ⟨m, W', s', rfl, q⟩ := h
 exact ⟨⟨_, _, _, _, _, rfl⟩, q, rfl, rfl⟩
theorem hu_list {elt : Expr} {gens : List Comprehension} {scope : Scope} {A : Around} {d : Nat} {it acc : Value} {env : Env} : A.under (Code.compLoop (.ListComp elt gens scope pos) d it acc env) = A := rfl
theorem hus_list {elt : Expr} {gens : List Comprehension} {scope : Scope} {A : Around} {d : Nat} {it acc : Value} {env : Env} : A.under (Code.compStart (.ListComp elt gens scope pos) d it acc env) = A := rfl
theorem hu_dict {kx vx : Expr} {gens : List Comprehension} {scope : Scope} {A : Around} {d : Nat} {it acc : Value} {env : Env} : A.under (Code.compLoop (.DictComp kx vx gens scope pos) d it acc env) = A := rfl
theorem hus_dict {kx vx : Expr} {gens : List Comprehension} {scope : Scope} {A : Around} {d : Nat} {it acc : Value} {env : Env} : A.under (Code.compStart (.DictComp kx vx gens scope pos) d it acc env) = A := rfl
theorem blk_list {elt target iter : Expr} {ifs : List Expr} {scope : Scope} {T : List Str} {n : Nat} {V : Nat → Heap → Value → Prop} {Tg : Nat → Heap → (Str → Option Value) → Prop} (test : Nat → Bool) (out : Nat → PyData)
  (hz : n ≤ sizeLine) (ht : AsTo c.w c.A target T n V Tg)
  (body : ∀ i gB c', i < n → Sub g gB → InC c scope T c' → Tg i gB c'.m → TstL c' ifs (test i) gB ∧ (test i = true → Does c' (eval elt c'.env) (RdP (out i)) gB)) :
  Block c (.ListComp elt [⟨target, iter, ifs, 0⟩] scope pos) target scope T { cls := .type "list", dict := none, data := .seq ([] : List Value).toArray } n V (AccL (outs n test out)) g := by
 intro gI s₁ C W' O' s₀' I fp J D S sg hDO hDC hD3 hf It0 j0 hD hDf
 have loop := lv_acc (c := compC c scope T C W' O' s₀' (compM scope c.m)) (T := T) (T₁ := T) (e := .ListComp elt [⟨target, iter, ifs, 0⟩] scope pos) (depth := 0) (D := D) (p := iter.pos) (target := target) (ifs := ifs) (inner := eval elt (compEnvX c.env scope C) >>= fun x => call (.builtin "list.append") [.ref D, x] >>= fun _ => pure ())
  rfl hu_list (by rfl) It0 S j0 hf hDO hDf (fun i g h => AccL (outs i test out) D g h) (fun i g h g' h' a s k => a.stab s k) ⟨[], ⟨_, hD⟩, .nil⟩ test (fun i g h hb a => by rw [outs_succ, hb]; simpa using a) (fun _ h => h) ht (fun _ h => h) fun i gB c' hi sg' lv tg => by
   obtain ⟨h1, h2⟩ := body i gB c' hi (sg.trans sg') (.of (c₁ := c) lv) tg
   refine ⟨h1, fun hb gC s F sC S' ac => ?_⟩
   obtain ⟨m', W₂, s₂, rfl, q⟩ := lv
   refine wpAny_mono (em_list (c := { compC c scope T C W' O' s₀' (compM scope c.m) with m := m', W := W₂, s₀ := s₂ }) hDO hDf ((h2 hb).sub sC) S' ac (Nat.le_trans outs_len (Nat.le_trans (Nat.le_of_lt hi) hz))) (fun _ s' ⟨g₂, S₂, sg₂, ac₂⟩ => ⟨m', g₂, S₂, sg₂, ?_, fun _ _ => rfl⟩) fun _ _ e => e
   rw [outs_succ, hb]; exact ac₂
 have loop' := codeAny_mono loop (R' := fun r s' => match r with
   | .ok _ => ∃ m' g'', St (compC c scope T C W' O' s₀' m') g'' s' ∧ Sub gI g'' ∧ AccL (outs n test out) D g'' s'.heap
   | .error _ => False) fun r s' hr => by
  cases r with
  | ok f => obtain ⟨m', g'', a, b, d, _⟩ := hr; exact ⟨m', g'', a, b, d⟩
  | error x => exact hr
 exact compStart_any rfl hus_list rfl rfl loop' (It0.self 0 _ _ _ j0 loop')
theorem gv_comp {e iter : Expr} {scope : Scope} {T : List Str} {p : Pos} {newAcc : Sem Value} {G : Comprehension} {gs : List Comprehension} {o : Obj} {n : Nat} {V : Nat → Heap → Value → Prop} {Acc : Addr → Heap → Heap → Prop} {Res : Heap → Value → Prop}
  (he : eval e c.env = comprehension e scope c.env p newAcc false (eval iter c.env) none)
  (hcl : clausesOf e = G :: gs) (hs : ∀ x, foldedSetIterable G.iter c.env x = pure x) (hc : compOk scope c.env = true) (hT : tgtOk scope T = true)
  (hI : DoesIt2 c G.target (eval iter c.env) n V g)
  (hacc : ∀ (s : Shared) (Q : Value → Shared → Prop) (E : Value → Shared → Prop), Q (.ref s.heap.objs.size) { s with heap := s.heap.push o } → wpAny (model PG c.w) c.A newAcc Q E s) (ho : o.isFreed = false)
  (hB : ∀ g', Sub g g' → Block c e G.target scope T o n V Acc g') (hres : ∀ D g'' h g3, Acc D g'' h → Sub g'' g3 → (∀ o, h.get? D = some o → g3.get? D = some o) → Res g3 (.ref D)) :
  Does c (eval e c.env) Res g := by
 rw [he]; exact wp_comp_val hcl hs hc hT hI hacc ho hB hres
theorem ex_comp {e iter : Expr} {x : Str} {px spos : Pos} {rest : List Stmt} {scope : Scope} {T : List Str} {p : Pos} {newAcc : Sem Value} {G : Comprehension} {gs : List Comprehension} {o : Obj} {n : Nat} {V : Nat → Heap → Value → Prop} {Acc : Addr → Heap → Heap → Prop} {Res : Heap → Value → Prop} {Q : Flow → Shared → Prop} {E : Value → Shared → Prop}
  (hsw : swapsWith e (some (.Name x px)) spos.line c.env = pure true)
  (he : evalThenUse e c.env (assign (.Name x px) c.env) = comprehension e scope c.env p newAcc false (eval iter c.env) (some (assign (.Name x px) c.env)) >>= fun _ => pure ())
  (hcl : clausesOf e = G :: gs) (hs : ∀ x, foldedSetIterable G.iter c.env x = pure x) (hc : compOk scope c.env = true) (hT : tgtOk scope T = true) (hx : x ∈ c.S)
  (hI : DoesIt2 c G.target (eval iter c.env) n V g)
  (hacc : ∀ (s : Shared) (Q : Value → Shared → Prop) (E : Value → Shared → Prop), Q (.ref s.heap.objs.size) { s with heap := s.heap.push o } → wpAny (model PG c.w) c.A newAcc Q E s) (ho : o.isFreed = false)
  (hB : Block c e G.target scope T o n V Acc g) (hres : ∀ D g'' h g3, Acc D g'' h → Sub g'' g3 → (∀ o, h.get? D = some o → g3.get? D = some o) → Res g3 (.ref D)) (S : St c g s)
  (h : ∀ g' s' v, Sub g g' → Res g' v → St { c with m := upd c.m x v } g' s' → wpAny (model PG c.w) c.A (execs rest c.env) Q E s') :
  wpAny (model PG c.w) c.A (execs (.Assign [.Name x px] e spos :: rest) c.env) Q E s := by
 refine wpAny_execs_cons ?_
 rw [exec_Assign_Name_used _ _ _ _ hsw]
 refine wpAny_bind (wpAny_standAt (wpAny_bind ?_))
 rw [he]
 refine wpAny_bind (wp_comp_use hcl hs hc hT hx hI hacc ho hB hres S fun g3 s' v S' sg' r => wpAny_pure (wpAny_pure ?_))
 exact h g3 s' v sg' r S'
theorem gv_listcomp {elt target iter : Expr} {ifs : List Expr} {scope : Scope} (T : List Str) {P : Heap → Value → Prop} {n : Nat} {V : Nat → Heap → Value → Prop} {Tg : Nat → Heap → (Str → Option Value) → Prop} (test : Nat → Bool) (out : Nat → PyData)
  (hc : compOk scope c.env = true) (hT : tgtOk scope T = true) (hP : Does c (eval iter c.env) P g) (hI : ∀ g' x, Sub g g' → P g' x → DoesIt c target (pyIter x) n V g')
  (hz : n ≤ sizeLine) (ht : AsTo c.w c.A target T n V Tg)
  (body : ∀ i gB c', i < n → Sub g gB → InC c scope T c' → Tg i gB c'.m → TstL c' ifs (test i) gB ∧ (test i = true → Does c' (eval elt c'.env) (RdP (out i)) gB))
  (hs : ∀ x, foldedSetIterable iter c.env x = pure x := by intro _; rfl) :
  Does c (eval (.ListComp elt [⟨target, iter, ifs, 0⟩] scope pos) c.env) (RdP (.list (outs n test out))) g :=
 gv_comp (G := ⟨target, iter, ifs, 0⟩) (gs := []) (eval_ListComp ..) rfl hs hc hT (.of hP hI) (fun s Q E q => new_list s Q E q) rfl (fun g' q => blk_list test out hz ht fun i gB c' hi s' => body i gB c' hi (q.trans s')) AccL.res
theorem ex_listcomp {elt target iter : Expr} {ifs : List Expr} {scope : Scope} {x : Str} {px spos : Pos} {rest : List Stmt} {Q : Flow → Shared → Prop} {E : Value → Shared → Prop} (T : List Str) {P : Heap → Value → Prop} {n : Nat} {V : Nat → Heap → Value → Prop} {Tg : Nat → Heap → (Str → Option Value) → Prop} (test : Nat → Bool) (out : Nat → PyData)
  (hsw : swapsWith (.ListComp elt [⟨target, iter, ifs, 0⟩] scope pos) (some (.Name x px)) spos.line c.env = pure true)
  (hx : x ∈ c.S) (hc : compOk scope c.env = true) (hT : tgtOk scope T = true) (hP : Does c (eval iter c.env) P g) (hI : ∀ g' x, Sub g g' → P g' x → DoesIt c target (pyIter x) n V g')
  (hz : n ≤ sizeLine) (ht : AsTo c.w c.A target T n V Tg)
  (body : ∀ i gB c', i < n → Sub g gB → InC c scope T c' → Tg i gB c'.m → TstL c' ifs (test i) gB ∧ (test i = true → Does c' (eval elt c'.env) (RdP (out i)) gB)) (S : St c g s)
  (h : ∀ g' s' v, Sub g g' → Rd g' v (.list (outs n test out)) → St { c with m := upd c.m x v } g' s' → wpAny (model PG c.w) c.A (execs rest c.env) Q E s')
  (hs : ∀ x, foldedSetIterable iter c.env x = pure x := by intro _; rfl) :
  wpAny (model PG c.w) c.A (execs (.Assign [.Name x px] (.ListComp elt [⟨target, iter, ifs, 0⟩] scope pos) spos :: rest) c.env) Q E s :=
 ex_comp (iter := iter) (G := ⟨target, iter, ifs, 0⟩) (gs := []) hsw rfl rfl hs hc hT hx (.of hP hI) (fun s Q E q => new_list s Q E q) rfl (blk_list test out hz ht body) AccL.res S h
end
inductive KvR (h : Heap) : List (Str × Value) → List (Str × PyData) → Prop
 | nil : KvR h [] []
 | cons {k v d xs kvs} : Rd h v d → KvR h xs kvs → KvR h ((k, v) :: xs) ((k, d) :: kvs)
noncomputable def at? {α : Type} (kvs : List (Str × α)) (k : Str) : Option α := (kvs.find? fun kv => kv.1 = k).map (·.2)
noncomputable def put {α : Type} (kvs : List (Str × α)) (k : Str) (v : α) : List (Str × α) := if kvs.any (fun kv => kv.1 = k) then kvs.map (fun kv => if kv.1 = k then (kv.1, v) else kv) else kvs ++ [(k, v)]
theorem KvR.mono {g h : Heap} {xs kvs} (x : KvR g xs kvs) (s : Sub g h) : KvR h xs kvs := by
 induction x with
 | nil => exact .nil
 | cons r _ ih => exact .cons (r.mono s) ih
theorem KvR.length {h : Heap} {xs kvs} (x : KvR h xs kvs) : xs.length = kvs.length := by
 induction x with
 | nil => rfl
 | cons r _ ih => simp [ih]
theorem KvR.is {h : Heap} {xs kvs} (x : KvR h xs kvs) {k : Str} {d : PyData} (e : at? kvs k = some d) : ∃ v, valueAt xs k = some v ∧ Rd h v d := by
 induction x with
 | nil => cases e
 | @cons k' v' d' xs kvs r _ ih =>
  unfold at? at e
  unfold valueAt
  rw [List.find?_cons] at e ⊢
  by_cases hk : k' = k
  ·simp only [hk, decide_true, Option.map_some] at e ⊢
   cases e
   exact ⟨v', rfl, r⟩
  ·simp only [hk, decide_false] at e ⊢
   exact ih e
theorem KvR.not {h : Heap} {xs kvs} (x : KvR h xs kvs) {k : Str} (e : at? kvs k = none) : valueAt xs k = none := by
 induction x with
 | nil => rfl
 | @cons k' v' d' xs kvs r _ ih =>
  unfold at? at e
  unfold valueAt
  rw [List.find?_cons] at e ⊢
  by_cases hk : k' = k
  ·simp [hk] at e
  ·simp only [hk, decide_false] at e ⊢
   exact ih e
theorem KvR.any {h : Heap} {xs kvs} (x : KvR h xs kvs) (k : Str) : xs.any (fun kv => kv.1 = k) = kvs.any (fun kv => kv.1 = k) := by
 induction x with
 | nil => rfl
 | cons r _ ih => simp only [List.any_cons, ih]
theorem KvR.map {h : Heap} {xs kvs} (x : KvR h xs kvs) (k : Str) {v : Value} {d : PyData} (r : Rd h v d) : KvR h (xs.map (fun kv => if kv.1 = k then (kv.1, v) else kv)) (kvs.map (fun kv => if kv.1 = k then (kv.1, d) else kv)) := by
 induction x with
 | nil => exact .nil
 | @cons k' v' d' xs kvs r' _ ih =>
  simp only [List.map_cons]
  by_cases hk : k' = k
  ·simp only [hk, if_true] at ih ⊢; exact .cons r ih
  ·simp only [hk, if_false] at ih ⊢; exact .cons r' ih
theorem KvR.append {h : Heap} {xs kvs ys es} (x : KvR h xs kvs) (y : KvR h ys es) : KvR h (xs ++ ys) (kvs ++ es) := by
 induction x with
 | nil => exact y
 | cons r _ ih => exact .cons r ih
theorem KvR.put {h : Heap} {xs kvs} (x : KvR h xs kvs) (k : Str) {v : Value} {d : PyData} (r : Rd h v d) : KvR h (stored xs k v) (put kvs k d) := by
 unfold stored Mine.put
 rw [x.any k]
 split
 ·exact x.map k r
 ·exact x.append (.cons r .nil)
theorem KvR.get {h : Heap} {xs kvs} (x : KvR h xs kvs) {i : Nat} {k : Str} {d : PyData} (e : kvs[i]? = some (k, d)) : ∃ v, xs[i]? = some (k, v) ∧ Rd h v d := by
 induction x generalizing i with
 | nil => simp at e
 | @cons k' v' d' xs kvs r' _ ih =>
  cases i with
  | zero => simp at e; obtain ⟨rfl, rfl⟩ := e; exact ⟨v', rfl, r'⟩
  | succ i => simp at e; simpa using ih e
theorem KvR.get' {h : Heap} {xs kvs} (x : KvR h xs kvs) {i : Nat} {k : Str} {v : Value} (e : xs[i]? = some (k, v)) : ∃ d, kvs[i]? = some (k, d) ∧ Rd h v d := by
 induction x generalizing i with
 | nil => simp at e
 | @cons k' v' d' xs kvs r' _ ih =>
  cases i with
  | zero => simp at e; obtain ⟨rfl, rfl⟩ := e; exact ⟨d', rfl, r'⟩
  | succ i => simp at e; simpa using ih e
theorem put_len (kvs : List (Str × PyData)) (k : Str) (v : PyData) : (put kvs k v).length ≤ kvs.length + 1 := by
 unfold put; split <;> simp
noncomputable def DcP (w : World) (kvs : List (Str × PyData)) : Heap → Value → Prop := fun h v => ∃ a xs, v = .ref a ∧ (a == sysModules) = false ∧ h.DictOf (strKind PG w) a xs ∧ KvR h xs kvs
theorem DcP.mono {w : World} {kvs : List (Str × PyData)} : Mono (DcP w kvs) := fun _ _ _ s ⟨a, xs, e, l, d, r⟩ => ⟨a, xs, e, l, d.keep s, r.mono s⟩
section
variable {c : Cx} {g : Heap} {pos : Pos} {k : Nat} {kvs : List (Str × PyData)}
theorem gv_dict_item {v i : Expr} {x : Str} {d : PyData} (hx : at? kvs x = some d) (hv : Does c (eval v c.env) (DcP c.w kvs) g) (hi : Does c (eval i c.env) (RdP (.str x)) g)
  (hs : ∀ o j, subscripted i false o j = operate [o, j] (getItem o j) := by intro _ _; with_unfolding_all rfl) : Does c (eval (.Subscript v i pos) c.env) (RdP d) g :=
 gv_item DcP.mono hv hi slot_dict_getitem.lookup (fun _ _ _ ⟨a, xs, e, l, d, r⟩ s => e ▸ (d.keep s).typeIs) (fun g₁ o i _ p q => fun g₂ s Q E sg S k => by
  obtain ⟨a, xs, rfl, _, D, r⟩ := p
  obtain ⟨t, rfl⟩ := Rd.inv_str q
  obtain ⟨v', hv', rv⟩ := r.is hx
  exact wpAny_getItem_of (strKind_is PG c.w x t) (D.keep (sg.trans S.fz.sub)).mapOf hv' (k g₂ _ v' S.toks Sub.refl Sub.refl (rv.mono sg))) hs
theorem op_in_dict {a b : Value} {x : Str} (hx : Rd g a (.str x)) (hd : DcP c.w kvs g b) : Does c (compareOp .In a b) (RdP (.bool (at? kvs x).isSome)) g := fun g₁ s Q E sg S k => by
 obtain ⟨t, rfl⟩ := hx.inv_str
 obtain ⟨a, xs, rfl, l, D, r⟩ := hd
 refine wpAny_in_of (strKind_is PG c.w x t) l (D.keep (sg.trans S.fz.sub)).mapOf (k g₁ _ _ S.toks Sub.refl Sub.refl ?_)
 have : (valueAt xs x).isSome = (at? kvs x).isSome := by
  cases e : at? kvs x with
  | none => rw [r.not e]; rfl
  | some d => obtain ⟨v, h, _⟩ := r.is e; rw [h]; rfl
 rw [this]; exact Rd.bool
theorem gv_dict_get {o e₁ e₂ : Expr} {apos : Pos} {x : Str} {d : PyData} (ho : Does c (eval o c.env) (DcP c.w kvs) g) (h1 : Does c (eval e₁ c.env) (RdP (.str x)) g) (h2 : Does c (eval e₂ c.env) (RdP d) g) (hA : AOk k c.A)
  (hbase : attributeBase o "get" c.env (eval o c.env) = eval o c.env := by rfl)
  (hfew : ((backTo pos (starEach [e₁, e₂] c.env)).all (fun x => !x.1) && (backToKw pos (keywordEach [] c.env)).all (fun x => x.1.isSome) && decide (([e₁, e₂] : List Expr).length + ([] : List Keyword).length + (if ([] : List Keyword).isEmpty then 0 else 1) < 30)) = true := by rfl)
  (hline : (apos.endLine == pos.line) = true := by rfl) (hs : starEach [e₁, e₂] c.env = (false, eval e₁ c.env) :: starEach [e₂] c.env := by rfl) (hs2 : starEach [e₂] c.env = (false, eval e₂ c.env) :: starEach [] c.env := by rfl) (hp : (backTo pos (starEach [e₂] c.env)).any (·.1) = false := by rfl) :
  Does c (eval (.Call (.Attribute o "get" apos) [e₁, e₂] [] pos) c.env) (RdP ((at? kvs x).getD d)) g :=
 gv_method1 PySem.F.plainAttrs_dict PySem.F.slot_dict_get PySem.F.type_dict_get DcP.mono ho (fun g₁ v s ⟨a, xs, e, l, D, r⟩ sg => ⟨e ▸ (D.keep sg).typeIs, fun b hb => (D.keep sg).mapOf.noDict b (e ▸ hb)⟩)
  (ar_d h1 (ar_d h2 ar_nil hs2) hs) (fun g₁ v vs _ p q => fun g₂ s Q E sg S kk => by
   obtain ⟨a, xs, rfl, l, D, r⟩ := p
   obtain ⟨u, _, rfl, pu, v2, _, rfl, p2, rfl⟩ := q
   obtain ⟨t, rfl⟩ := Rd.inv_str pu
   have D' := D.keep (sg.trans S.fz.sub)
   refine call_meetsIn PySem.F.slot_dict_get D'.typeIs PySem.F.entry_dict_get (PySem.F.args_dict_get_3 _ _ _) (meets_dict_get_default (strKind PG c.w) a (strKind_is PG c.w x t) l v2) ⟨_, D'.mapOf, kk g₂ _ _ S.toks Sub.refl Sub.refl ?_⟩
   cases e : at? kvs x with
   | none => rw [r.not e]; exact Rd.mono p2 sg
   | some d => obtain ⟨v, h, rv⟩ := r.is e; rw [h]; exact rv.mono sg) hbase hfew hline hs hp
theorem sysNe {a : Addr} (h : 3 < a) : (a == sysModules) = false := by
 simp only [beq_eq_false_iff_ne, ne_eq]
 intro q; rw [q] at h; exact absurd h (by decide)
theorem it_dict_keys {tg : Expr} {v : Value} (hA : AOk k c.A) (h : DcP c.w kvs g v) : DoesIt c tg (pyIter v) kvs.length (VD (kvs.map fun kv => .str kv.1)) g := fun g₁ s Q E sg S q => by
 obtain ⟨d, xs, rfl, l, D, r⟩ := h
 have D₁ := D.keep sg
 obtain ⟨ep, DA⟩ := D₁.dictAt
 have Ds := DA.keep S.fz.sub
 have hlt : d < s.heap.objs.size := by obtain ⟨o, _, _, ho, _⟩ := D₁; exact S.fz.lt ho
 refine wpAny_pyIter_dict l Ds ?_
 have S' : St c g₁ { s with heap := s.heap.push { cls := .type "dict_keyiterator", data := .fields #[.ref d, .int 0 0, .int xs.length 0, .int ep 0] } } := S.step ⟨_, _, rfl⟩ Sub.push
 have W := Walks.dictKeys (prog := PG) (w := c.w) (knd := strKind PG c.w) hA.1 s.heap.objs.size d (Nat.ne_of_lt hlt) xs ep
 rw [show xs.length = kvs.length from r.length] at W
 refine q g₁ _ s.heap.objs.size [s.heap.objs.size] _ S' Sub.refl Sub.push (It.of_walks (T := "dict_keyiterator") W (fun i h j => ?_) ?_ rfl (fun i u e g' s' => ?_) fun i u g₁ g₂ s₁ ⟨d, e, r⟩ => ⟨d, e, r.mono s₁⟩) ⟨⟨_, Heap.get?_push_size _ rfl, rfl, by rw [r.length]; rfl⟩, Ds.push _⟩ fun a m => ?_
 ·obtain ⟨o', e1, e2, _⟩ := j.1
  exact ⟨fun a m => by rw [List.mem_singleton.mp m]; exact ⟨o', e1⟩, o', e1, e2⟩
 ·intro b hb
  rcases List.mem_cons.mp hb with rfl | hb
  ·exact .inl (.head _)
  ·rw [List.mem_singleton.mp hb]; obtain ⟨o, _, _, ho, _⟩ := D₁; exact .inr ⟨o, ho⟩
 ·obtain ⟨key, x, e1, e2⟩ := e
  obtain ⟨t, rfl⟩ := Value.isStrOf_shape e2
  obtain ⟨dd, e3, _⟩ := r.get' e1
  exact ⟨.str key, by rw [List.getElem?_map, e3]; rfl, Rd.str⟩
 ·rw [List.mem_singleton.mp m]
  exact ⟨off_size S, none_of_ge (Nat.le_refl _), _, Heap.get?_push_size _ rfl⟩
noncomputable def VwP (w : World) (kvs : List (Str × PyData)) : Heap → Value → Prop := fun h v => ∃ u a xs, v = .ref u ∧ h.IsValuesView u a ∧ h.DictOf (strKind PG w) a xs ∧ KvR h xs kvs
theorem it_dict_values {tg : Expr} {v : Value} (hA : AOk k c.A) (h : VwP c.w kvs g v) : DoesIt c tg (pyIter v) kvs.length (VD (kvs.map (·.2))) g := fun g₁ s Q E sg S q => by
 obtain ⟨u, d, xs, rfl, ⟨ou, hou, cu, du⟩, D, r⟩ := h
 have D₁ := D.keep sg
 obtain ⟨ep, DA⟩ := D₁.dictAt
 have Ds := DA.keep S.fz.sub
 have hlt : d < s.heap.objs.size := by obtain ⟨o, _, _, ho, _⟩ := D₁; exact S.fz.lt ho
 refine wpAny_pyIter_values (v := u) ⟨ou, S.fz.sub _ _ (sg _ _ hou), cu, du⟩ Ds ?_
 have S' : St c g₁ { s with heap := s.heap.push { cls := .type "dict_valueiterator", data := .fields #[.ref d, .int 0 0, .int xs.length 0, .int ep 0] } } := S.step ⟨_, _, rfl⟩ Sub.push
 have W := Walks.dictValues (prog := PG) (w := c.w) (knd := strKind PG c.w) hA.1 s.heap.objs.size d (Nat.ne_of_lt hlt) xs ep
 rw [show xs.length = kvs.length from r.length] at W
 refine q g₁ _ s.heap.objs.size [s.heap.objs.size] _ S' Sub.refl Sub.push (It.of_walks (T := "dict_valueiterator") W (fun i h j => ?_) ?_ rfl (fun i u e g' s' => ?_) fun i u g₁ g₂ s₁ ⟨d, e, r⟩ => ⟨d, e, r.mono s₁⟩) ⟨⟨_, Heap.get?_push_size _ rfl, rfl, by rw [r.length]; rfl⟩, Ds.push _⟩ fun a m => ?_
 ·obtain ⟨o', e1, e2, _⟩ := j.1
  exact ⟨fun a m => by rw [List.mem_singleton.mp m]; exact ⟨o', e1⟩, o', e1, e2⟩
 ·intro b hb
  rcases List.mem_cons.mp hb with rfl | hb
  ·exact .inl (.head _)
  ·rw [List.mem_singleton.mp hb]; obtain ⟨o, _, _, ho, _⟩ := D₁; exact .inr ⟨o, ho⟩
 ·obtain ⟨key, e1⟩ := e
  obtain ⟨dd, e3, r3⟩ := r.get' e1
  exact ⟨dd, by rw [List.getElem?_map, e3]; rfl, r3.mono (sg.trans s')⟩
 ·rw [List.mem_singleton.mp m]
  exact ⟨off_size S, none_of_ge (Nat.le_refl _), _, Heap.get?_push_size _ rfl⟩
theorem gv_values {o : Expr} {apos : Pos} (ho : Does c (eval o c.env) (DcP c.w kvs) g)
  (hbase : attributeBase o "values" c.env (eval o c.env) = eval o c.env := by rfl) (hline : (apos.endLine == pos.line) = true := by rfl) :
  Does c (eval (.Call (.Attribute o "values" apos) [] [] pos) c.env) (VwP c.w kvs) g :=
 gv_method0 PySem.F.plainAttrs_dict PySem.F.slot_dict_values PySem.F.type_dict_values ho (fun g₁ v s ⟨a, xs, e, l, D, r⟩ sg => ⟨e ▸ (D.keep sg).typeIs, fun b hb => (D.keep sg).mapOf.noDict b (e ▸ hb)⟩)
  (fun g₁ v _ p => fun g₂ s Q E sg S kk => by
   obtain ⟨a, xs, rfl, l, D, r⟩ := p
   have D' := D.keep (sg.trans S.fz.sub)
   refine call_meetsIn PySem.F.slot_dict_values D'.typeIs PySem.F.entry_dict_values (PySem.F.args_dict_values_1 _) (meets_dict_values (strKind PG c.w) a l) ⟨⟨_, D'⟩, ?_⟩
   obtain ⟨g₃, S₃, sg₃, e⟩ := S.new (o := { cls := .type "dict_values", data := .fields #[.ref a] }) (tk := s.toks) rfl
   exact kk g₃ _ _ S₃ sg₃ Sub.push ⟨_, a, xs, rfl, ⟨_, e, rfl, rfl⟩, D.keep (sg.trans sg₃), r.mono (sg.trans sg₃)⟩) hbase hline
noncomputable def AccD (w : World) (kvs : List (Str × PyData)) : Addr → Heap → Heap → Prop := fun D g h => 3 < D ∧ ∃ xs, h.DictOf (strKind PG w) D xs ∧ KvR g xs kvs
theorem AccD.res {w : World} {kvs : List (Str × PyData)} : ∀ D g'' h g3, AccD w kvs D g'' h → Sub g'' g3 → (∀ o, h.get? D = some o → g3.get? D = some o) → DcP w kvs g3 (.ref D) := fun D g'' h g3 ⟨l, xs, d, r⟩ s k => ⟨D, xs, rfl, sysNe l, d.at k, r.mono s⟩
noncomputable def puts (key : Nat → Str) (val : Nat → PyData) (n : Nat) : List (Str × PyData) := (List.range n).foldl (fun kvs i => put kvs (key i) (val i)) []
theorem puts_succ {key : Nat → Str} {val : Nat → PyData} {n : Nat} : puts key val (n + 1) = put (puts key val n) (key n) (val n) := by
 unfold puts; rw [List.range_succ, List.foldl_append]; rfl
theorem puts_len {key : Nat → Str} {val : Nat → PyData} {n : Nat} : (puts key val n).length ≤ n := by
 induction n with
 | zero => exact Nat.le_refl _
 | succ n ih => rw [puts_succ]; exact Nat.le_trans (put_len _ _ _) (Nat.succ_le_succ ih)
theorem AccD.stab {w : World} {kvs : List (Str × PyData)} {D : Addr} {g h g' h' : Heap} (x : AccD w kvs D g h) (s : Sub g g') (k : ∀ o, h.get? D = some o → h'.get? D = some o) : AccD w kvs D g' h' := let ⟨l, xs, d, r⟩ := x; ⟨l, xs, d.at k, r.mono s⟩
theorem em_dict {s : Shared} {kx vx : Expr} {p : Pos} {D : Addr} {kvs : List (Str × PyData)} {key : Str} {d : PyData} {F : Value → Shared → Prop} (hDO : D ∈ c.O) (hDf : D ∉ foot c.env) (hk : Does c (eval kx c.env) (RdP (.str key)) g) (hv : Does c (eval vx c.env) (RdP d) g) (S : St c g s) (ac : AccD c.w kvs D g s.heap) (hz : kvs.length ≤ sizeLine) :
  wpAny (model PG c.w) c.A (eval kx c.env >>= fun kv => holding [kv] (eval vx c.env) >>= fun vv => standAt p >>= fun _ => holding [kv, vv] (dictSet D kv vv)) (fun _ s' => ∃ g₂, St c g₂ s' ∧ Sub g g₂ ∧ AccD c.w (put kvs key d) D g₂ s'.heap) F s := by
 refine wpAny_bind (hk g s _ F Sub.refl S fun g₅ s₅ x S₅ sg₅ sh₅ rx => wpAny_bind (wpAny_holding (hv g₅ s₅ _ F sg₅ S₅ fun g₆ s₆ y S₆ sg₆ sh₆ ry => wpAny_bind (wpAny_standAt (wpAny_holding ?_)))))
 obtain ⟨h3, xs, hl, rl⟩ := ac
 obtain ⟨t, rfl⟩ := Rd.inv_str rx
 have hxs : xs.length ≤ sizeLine := by
  have e1 := rl.length
  omega
 refine wpAny_dictSet_pairs (hsz := hxs) (strKind_is PG c.w key t) ((hl.keep sh₅).keep sh₆) fun h₇ hl₇ hs₇ => ?_
 obtain ⟨oD, _, _, hoD, _⟩ := id hl₇
 exact ⟨g₆, S₆.turn ⟨_, _, rfl⟩ (.of_same hs₇ hDO hoD) (S₆.vars.at fun a ha o e => hs₇.extBut a o (fun q => hDf (q ▸ ha)) e), sg₅.trans sg₆, h3, _, hl₇, (rl.mono (sg₅.trans sg₆)).put key ry⟩
theorem blk_dict {kx vx target iter : Expr} {scope : Scope} {T : List Str} {n : Nat} {V : Nat → Heap → Value → Prop} {Tg : Nat → Heap → (Str → Option Value) → Prop} (key : Nat → Str) (val : Nat → PyData)
  (hz : n ≤ sizeLine) (ht : AsTo c.w c.A target T n V Tg)
  (body : ∀ i gB c', i < n → Sub g gB → InC c scope T c' → Tg i gB c'.m → Does c' (eval kx c'.env) (RdP (.str (key i))) gB ∧ Does c' (eval vx c'.env) (RdP (val i)) gB) :
  Block c (.DictComp kx vx [⟨target, iter, [], 0⟩] scope pos) target scope T { cls := .type "dict", data := .dict #[] } n V (AccD c.w (puts key val n)) g := by
 intro gI s₁ C W' O' s₀' I fp J D S sg hDO hDC hD3 hf It0 j0 hD hDf
 have loop := lv_acc (c := compC c scope T C W' O' s₀' (compM scope c.m)) (T := T) (T₁ := T) (e := .DictComp kx vx [⟨target, iter, [], 0⟩] scope pos) (depth := 0) (D := D) (p := iter.pos) (target := target) (ifs := []) (inner := eval kx (compEnvX c.env scope C) >>= fun kv => holding [kv] (eval vx (compEnvX c.env scope C)) >>= fun vv => standAt { kx.pos with endLine := vx.pos.endLine, endCol := vx.pos.endCol } >>= fun _ => holding [kv, vv] (dictSet D kv vv))
  rfl hu_dict (by rfl) It0 S j0 hf hDO hDf (fun i g h => AccD c.w (puts key val i) D g h) (fun i g h g' h' a s k => a.stab s k) ⟨hD3, [], ⟨_, #[], 0, hD, ⟨rfl, rfl, rfl⟩, rfl, fun _ h => by simp at h, .nil, List.nodup_nil⟩, .nil⟩ (fun _ => true) (fun i g h hb a => by cases hb) (fun _ h => h) ht (fun _ h => h) fun i gB c' hi sg' lv tg => by
   obtain ⟨h1, h2⟩ := body i gB c' hi (sg.trans sg') (.of (c₁ := c) lv) tg
   refine ⟨tl_nil, fun hb gC s F sC S' ac => ?_⟩
   obtain ⟨m', W₂, s₂, rfl, q⟩ := lv
   refine wpAny_mono (em_dict (c := { compC c scope T C W' O' s₀' (compM scope c.m) with m := m', W := W₂, s₀ := s₂ }) hDO hDf (h1.sub sC) (h2.sub sC) S' ac (Nat.le_trans puts_len (Nat.le_trans (Nat.le_of_lt hi) hz))) (fun _ s' ⟨g₂, S₂, sg₂, ac₂⟩ => ⟨m', g₂, S₂, sg₂, ?_, fun _ _ => rfl⟩) fun _ _ e => e
   rw [puts_succ]; exact ac₂
 have loop' := codeAny_mono loop (R' := fun r s' => match r with
   | .ok _ => ∃ m' g'', St (compC c scope T C W' O' s₀' m') g'' s' ∧ Sub gI g'' ∧ AccD c.w (puts key val n) D g'' s'.heap
   | .error _ => False) fun r s' hr => by
  cases r with
  | ok f => obtain ⟨m', g'', a, b, d, _⟩ := hr; exact ⟨m', g'', a, b, d⟩
  | error x => exact hr
 exact compStart_any rfl hus_dict rfl rfl loop' (It0.self 0 _ _ _ j0 loop')
theorem new_dict (s : Shared) (Q : Value → Shared → Prop) (E : Value → Shared → Prop) {w : World} {A : Around} (h : Q (.ref s.heap.objs.size) { s with heap := s.heap.push { cls := .type "dict", data := .dict #[] } }) : wpAny (model PG w) A newDict Q E s :=
 wpAny_newObj_type h
theorem gv_dictcomp {kx vx target iter : Expr} {scope : Scope} (T : List Str) {P : Heap → Value → Prop} {n : Nat} {V : Nat → Heap → Value → Prop} {Tg : Nat → Heap → (Str → Option Value) → Prop} (key : Nat → Str) (val : Nat → PyData)
  (hc : compOk scope c.env = true) (hT : tgtOk scope T = true) (hP : Does c (eval iter c.env) P g) (hI : ∀ g' x, Sub g g' → P g' x → DoesIt c target (pyIter x) n V g')
  (hz : n ≤ sizeLine) (ht : AsTo c.w c.A target T n V Tg)
  (body : ∀ i gB c', i < n → Sub g gB → InC c scope T c' → Tg i gB c'.m → Does c' (eval kx c'.env) (RdP (.str (key i))) gB ∧ Does c' (eval vx c'.env) (RdP (val i)) gB)
  (hs : ∀ x, foldedSetIterable iter c.env x = pure x := by intro _; rfl) :
  Does c (eval (.DictComp kx vx [⟨target, iter, [], 0⟩] scope pos) c.env) (DcP c.w (puts key val n)) g :=
 gv_comp (G := ⟨target, iter, [], 0⟩) (gs := []) (arm_eval_DictComp ..) rfl hs hc hT (.of hP hI) (fun s Q E q => new_dict s Q E q) rfl (fun g' q => blk_dict key val hz ht fun i gB c' hi s' => body i gB c' hi (q.trans s')) AccD.res
theorem ex_dictcomp {s : Shared} {kx vx target iter : Expr} {scope : Scope} {x : Str} {px spos : Pos} {rest : List Stmt} {Q : Flow → Shared → Prop} {E : Value → Shared → Prop} (T : List Str) {P : Heap → Value → Prop} {n : Nat} {V : Nat → Heap → Value → Prop} {Tg : Nat → Heap → (Str → Option Value) → Prop} (key : Nat → Str) (val : Nat → PyData)
  (hsw : swapsWith (.DictComp kx vx [⟨target, iter, [], 0⟩] scope pos) (some (.Name x px)) spos.line c.env = pure true)
  (hx : x ∈ c.S) (hc : compOk scope c.env = true) (hT : tgtOk scope T = true) (hP : Does c (eval iter c.env) P g) (hI : ∀ g' x, Sub g g' → P g' x → DoesIt c target (pyIter x) n V g')
  (hz : n ≤ sizeLine) (ht : AsTo c.w c.A target T n V Tg)
  (body : ∀ i gB c', i < n → Sub g gB → InC c scope T c' → Tg i gB c'.m → Does c' (eval kx c'.env) (RdP (.str (key i))) gB ∧ Does c' (eval vx c'.env) (RdP (val i)) gB) (S : St c g s)
  (h : ∀ g' s' v, Sub g g' → DcP c.w (puts key val n) g' v → St { c with m := upd c.m x v } g' s' → wpAny (model PG c.w) c.A (execs rest c.env) Q E s')
  (hs : ∀ x, foldedSetIterable iter c.env x = pure x := by intro _; rfl) :
  wpAny (model PG c.w) c.A (execs (.Assign [.Name x px] (.DictComp kx vx [⟨target, iter, [], 0⟩] scope pos) spos :: rest) c.env) Q E s :=
 ex_comp (iter := iter) (G := ⟨target, iter, [], 0⟩) (gs := []) hsw rfl rfl hs hc hT hx (.of hP hI) (fun s Q E q => new_dict s Q E q) rfl (blk_dict key val hz ht body) AccD.res S h
end
noncomputable def flat (n : Nat) (n₁ : Nat → Nat) (test : Nat → Nat → Bool) (out : Nat → Nat → PyData) : List PyData := (List.range n).flatMap fun i => outs (n₁ i) (test i) (out i)
theorem flat_succ {n : Nat} {n₁ : Nat → Nat} {test : Nat → Nat → Bool} {out : Nat → Nat → PyData} : flat (n + 1) n₁ test out = flat n n₁ test out ++ outs (n₁ n) (test n) (out n) := by
 unfold flat; rw [List.range_succ, List.flatMap_append]; simp
noncomputable def puts2 (n : Nat) (n₁ : Nat → Nat) (key : Nat → Nat → Str) (val : Nat → Nat → PyData) : List (Str × PyData) := (List.range n).foldl (fun kvs i => (List.range (n₁ i)).foldl (fun kvs j => put kvs (key i j) (val i j)) kvs) []
noncomputable def putsF (kvs : List (Str × PyData)) (key : Nat → Str) (val : Nat → PyData) (n : Nat) : List (Str × PyData) := (List.range n).foldl (fun kvs i => put kvs (key i) (val i)) kvs
theorem putsF_succ {kvs : List (Str × PyData)} {key : Nat → Str} {val : Nat → PyData} {n : Nat} : putsF kvs key val (n + 1) = put (putsF kvs key val n) (key n) (val n) := by
 unfold putsF; rw [List.range_succ, List.foldl_append]; rfl
theorem puts2_succ {n : Nat} {n₁ : Nat → Nat} {key : Nat → Nat → Str} {val : Nat → Nat → PyData} : puts2 (n + 1) n₁ key val = putsF (puts2 n n₁ key val) (key n) (val n) (n₁ n) := by
 unfold puts2; rw [List.range_succ, List.foldl_append]; rfl
section
variable {c : Cx} {g : Heap} {s : Shared} {k : Nat} {pos : Pos}
theorem InC.deeper {c c' c'' : Cx} {scope : Scope} {T T₁ : List Str} (h : InC c scope T c') (hl : Lev c' T₁ c'') (hT : ∀ y, T.contains y = false → T₁.contains y = false) : InC c scope T c'' := by
 obtain ⟨⟨C, W, O, s₀, m, rfl⟩, f, _, _⟩ := h
 obtain ⟨m', W', s', rfl, q⟩ := hl
 exact ⟨⟨_, _, _, _, _, rfl⟩, fun y hy => (q y (hT y hy)).trans (f y hy), rfl, rfl⟩
theorem turn2_list (elt t0 t1 i0 i1 : Expr) (ifs : List Expr) (scope : Scope) (pos : Pos) (I D : Value) (env : Env) : compTurn (.ListComp elt [⟨t0, i0, [], 0⟩, ⟨t1, i1, ifs, 0⟩] scope pos) 0 I D env = (standAt i0.pos >>= fun _ => pyNext I >>= fun r => match r with
   | none => pure (.done .next)
   | some v => letOwnedTupleGo t0 I v >>= fun _ => assign t0 env v >>= fun _ => testsOf [] env >>= fun ok =>
    if ok = true then (eval i1 env >>= fun x => standAt i1.pos >>= fun _ => foldedSetIterable i1 env x >>= fun x => holding [x] (pyIter x) >>= fun i => runOwn (.compStart (.ListComp elt [⟨t0, i0, [], 0⟩, ⟨t1, i1, ifs, 0⟩] scope pos) 1 i D env) env >>= fun _ => pure ()) >>= fun _ => again (.compLoop (.ListComp elt [⟨t0, i0, [], 0⟩, ⟨t1, i1, ifs, 0⟩] scope pos) 0 I D env) else again (.compLoop (.ListComp elt [⟨t0, i0, [], 0⟩, ⟨t1, i1, ifs, 0⟩] scope pos) 0 I D env)) := by
 have h : compTurn (.ListComp elt [⟨t0, i0, [], 0⟩, ⟨t1, i1, ifs, 0⟩] scope pos) 0 I D env = (standAt i0.pos >>= fun _ => pyNext I >>= fun r => match r with
   | none => pure (.done .next)
   | some v => letOwnedTupleGo t0 I v >>= fun _ => assign t0 env v >>= fun _ => testsOf [] env >>= fun ok =>
    if ok = true then (eval i1 env >>= fun x => standAt i1.pos >>= fun _ => foldedSetIterable i1 env x >>= fun x => holding [x] (pyIter x) >>= fun i => runOwn (.compStart (.ListComp elt [⟨t0, i0, [], 0⟩, ⟨t1, i1, ifs, 0⟩] scope pos) 1 i D env) env >>= fun _ => again (.compLoop (.ListComp elt [⟨t0, i0, [], 0⟩, ⟨t1, i1, ifs, 0⟩] scope pos) 0 I D env)) else again (.compLoop (.ListComp elt [⟨t0, i0, [], 0⟩, ⟨t1, i1, ifs, 0⟩] scope pos) 0 I D env)) := by rfl
 rw [h]
 simp only [bind_assoc, pure_bind]
theorem turn2_dict (kx vx t0 t1 i0 i1 : Expr) (scope : Scope) (pos : Pos) (I D : Value) (env : Env) : compTurn (.DictComp kx vx [⟨t0, i0, [], 0⟩, ⟨t1, i1, [], 0⟩] scope pos) 0 I D env = (standAt i0.pos >>= fun _ => pyNext I >>= fun r => match r with
   | none => pure (.done .next)
   | some v => letOwnedTupleGo t0 I v >>= fun _ => assign t0 env v >>= fun _ => testsOf [] env >>= fun ok =>
    if ok = true then (eval i1 env >>= fun x => standAt i1.pos >>= fun _ => foldedSetIterable i1 env x >>= fun x => holding [x] (pyIter x) >>= fun i => runOwn (.compStart (.DictComp kx vx [⟨t0, i0, [], 0⟩, ⟨t1, i1, [], 0⟩] scope pos) 1 i D env) env >>= fun _ => pure ()) >>= fun _ => again (.compLoop (.DictComp kx vx [⟨t0, i0, [], 0⟩, ⟨t1, i1, [], 0⟩] scope pos) 0 I D env) else again (.compLoop (.DictComp kx vx [⟨t0, i0, [], 0⟩, ⟨t1, i1, [], 0⟩] scope pos) 0 I D env)) := by
 have h : compTurn (.DictComp kx vx [⟨t0, i0, [], 0⟩, ⟨t1, i1, [], 0⟩] scope pos) 0 I D env = (standAt i0.pos >>= fun _ => pyNext I >>= fun r => match r with
   | none => pure (.done .next)
   | some v => letOwnedTupleGo t0 I v >>= fun _ => assign t0 env v >>= fun _ => testsOf [] env >>= fun ok =>
    if ok = true then (eval i1 env >>= fun x => standAt i1.pos >>= fun _ => foldedSetIterable i1 env x >>= fun x => holding [x] (pyIter x) >>= fun i => runOwn (.compStart (.DictComp kx vx [⟨t0, i0, [], 0⟩, ⟨t1, i1, [], 0⟩] scope pos) 1 i D env) env >>= fun _ => again (.compLoop (.DictComp kx vx [⟨t0, i0, [], 0⟩, ⟨t1, i1, [], 0⟩] scope pos) 0 I D env)) else again (.compLoop (.DictComp kx vx [⟨t0, i0, [], 0⟩, ⟨t1, i1, [], 0⟩] scope pos) 0 I D env)) := by rfl
 rw [h]
 simp only [bind_assoc, pure_bind]
theorem blk_list2 {elt t0 t1 i0 i1 : Expr} {ifs : List Expr} {scope : Scope} {T T₀ T₁ : List Str} {n : Nat} {V : Nat → Heap → Value → Prop} {Tg : Nat → Heap → (Str → Option Value) → Prop} {P₁ : Nat → Heap → Value → Prop} {n₁ : Nat → Nat} {V₁ : Nat → Nat → Heap → Value → Prop}
  {Tg₁ : Nat → Nat → Heap → (Str → Option Value) → Prop} (test : Nat → Nat → Bool) (out : Nat → Nat → PyData)
  (hz : ∀ i j, i < n → j < n₁ i → (flat i n₁ test out ++ outs j (test i) (out i)).length ≤ sizeLine) (hT0 : ∀ y, T.contains y = false → T₀.contains y = false) (hT1 : ∀ y, T.contains y = false → T₁.contains y = false) (hTS : ∀ x, x ∈ T₀ ∨ x ∈ T₁ → x ∈ T)
  (ht : AsTo c.w c.A t0 T₀ n V Tg) (ht1 : ∀ i, i < n → AsTo c.w c.A t1 T₁ (n₁ i) (V₁ i) (Tg₁ i)) (hst : ∀ i g g' m m', Sub g g' → (∀ y, T₁.contains y = false → m' y = m y) → Tg i g m → Tg i g' m')
  (body0 : ∀ i gB c', i < n → Sub g gB → InC c scope T c' → Tg i gB c'.m → Does c' (eval i1 c'.env) (P₁ i) gB ∧ ∀ g' x, Sub gB g' → P₁ i g' x → DoesIt c' t1 (pyIter x) (n₁ i) (V₁ i) g')
  (body : ∀ i j gB c', i < n → j < n₁ i → Sub g gB → InC c scope T c' → Tg i gB c'.m → Tg₁ i j gB c'.m → TstL c' ifs (test i j) gB ∧ (test i j = true → Does c' (eval elt c'.env) (RdP (out i j)) gB))
  (hs1 : ∀ env x, foldedSetIterable i1 env x = pure x) :
  Block c (.ListComp elt [⟨t0, i0, [], 0⟩, ⟨t1, i1, ifs, 0⟩] scope pos) t0 scope T { cls := .type "list", dict := none, data := .seq ([] : List Value).toArray } n V (AccL (flat n n₁ test out)) g := by
 intro gI s₁ C W' O' s₀' I fp J D S sg hDO hDC hD3 hf It0 j0 hD hDf
 have loop := lv_acc (c := compC c scope T C W' O' s₀' (compM scope c.m)) (T := T) (T₁ := T₀) (e := .ListComp elt [⟨t0, i0, [], 0⟩, ⟨t1, i1, ifs, 0⟩] scope pos) (depth := 0) (D := D) (p := i0.pos) (target := t0) (ifs := []) (inner := eval i1 (compEnvX c.env scope C) >>= fun x => standAt i1.pos >>= fun _ => foldedSetIterable i1 (compEnvX c.env scope C) x >>= fun x => holding [x] (pyIter x) >>= fun i => runOwn (.compStart (.ListComp elt [⟨t0, i0, [], 0⟩, ⟨t1, i1, ifs, 0⟩] scope pos) 1 i (.ref D) (compEnvX c.env scope C)) (compEnvX c.env scope C) >>= fun _ => pure ())
  rfl hu_list (turn2_list ..) It0 S j0 hf hDO hDf (fun i g h => AccL (flat i n₁ test out) D g h) (fun i g h g' h' a s k => a.stab s k) ⟨[], ⟨_, hD⟩, .nil⟩ (fun _ => true) (fun i g h hb a => by cases hb) hT0 ht (fun x h => hTS x (.inl h)) fun i gB c' hi sg' lv tg => by
   refine ⟨tl_nil, fun hb gC s F sC S' ac => ?_⟩
   have inC : InC c scope T c' := .of (c₁ := c) lv
   obtain ⟨m', W₂, s₂, rfl, q⟩ := lv
   have tgC := hst i gB gC m' m' sC (fun _ _ => rfl) tg
   obtain ⟨h1, h2⟩ := body0 i gC _ hi ((sg.trans sg').trans sC) inC tgC
   refine em_nest (c := { compC c scope T C W' O' s₀' (compM scope c.m) with m := m', W := W₂, s₀ := s₂ }) h1 h2 S' (hs1 _) fun g₃ s₃ I₁ fp₁ J₁ S₃ sg₃ sh₃ It1 j1 hf1 => ?_
   have loop1 := lv_acc (c := { compC c scope T C W' O' s₀' (compM scope c.m) with m := m', W := W₂, s₀ := s₂ }) (T := T₁) (T₁ := T₁) (e := .ListComp elt [⟨t0, i0, [], 0⟩, ⟨t1, i1, ifs, 0⟩] scope pos) (depth := 1) (D := D) (p := i1.pos) (target := t1) (ifs := ifs) (inner := eval elt (compEnvX c.env scope C) >>= fun x => call (.builtin "list.append") [.ref D, x] >>= fun _ => pure ())
    rfl hu_list (by rfl) It1 S₃ j1 hf1 hDO hDf (fun j g h => AccL (flat i n₁ test out ++ outs j (test i) (out i)) D g h) (fun i g h g' h' a s k => a.stab s k) (by
     have := ac.stab sg₃ (h' := s₃.heap) fun o e => sh₃ _ _ e
     simpa [outs] using this) (test i) (fun j g h hb a => by rw [outs_succ, hb]; simpa using a) (fun _ h => h) (ht1 i hi) (fun x h => hTS x (.inr h)) fun j gD c'' hj sD lv1 tg1 => by
     have inC' := inC.deeper lv1 hT1
     obtain ⟨m'', W₃, s₃, rfl, q1⟩ := lv1
     obtain ⟨b1, b2⟩ := body i j gD _ hi hj (((sg.trans sg').trans sC).trans (sg₃.trans sD)) inC' (hst i gC gD m' m'' (sg₃.trans sD) q1 tgC) tg1
     refine ⟨b1, fun hb gE s F sE S'' ac'' => ?_⟩
     refine wpAny_mono (em_list (c := { compC c scope T C W' O' s₀' (compM scope c.m) with m := m'', W := W₃, s₀ := s₃ }) hDO hDf ((b2 hb).sub sE) S'' ac'' (hz i j hi hj)) (fun _ s' ⟨g₂, S₂, sg₂, ac₂⟩ => ⟨m'', g₂, S₂, sg₂, ?_, fun _ _ => rfl⟩) fun _ _ e => e
     rw [outs_succ, hb]
     simpa [List.append_assoc] using ac₂
   have loop1' := codeAny_mono loop1 (R' := fun r s' => match r with
     | .ok _ => ∃ m'' g₂, St { compC c scope T C W' O' s₀' (compM scope c.m) with m := m'', W := W₂, s₀ := s₂ } g₂ s' ∧ Sub gC g₂ ∧ AccL (flat (i + 1) n₁ test out) D g₂ s'.heap ∧ ∀ y, T.contains y = false → m'' y = m' y
     | .error _ => False) fun r s' hr => by
    cases r with
    | ok f => obtain ⟨m'', g'', a, b, d, q2⟩ := hr; exact ⟨m'', g'', a, sg₃.trans b, by rw [flat_succ]; exact d, fun y hy => q2 y (hT1 y hy)⟩
    | error x => exact hr
   exact compStart_any rfl hus_list rfl rfl loop1' (It1.self 0 _ _ _ j1 loop1')
 have loop' := codeAny_mono loop (R' := fun r s' => match r with
   | .ok _ => ∃ m' g'', St (compC c scope T C W' O' s₀' m') g'' s' ∧ Sub gI g'' ∧ AccL (flat n n₁ test out) D g'' s'.heap
   | .error _ => False) fun r s' hr => by
  cases r with
  | ok f => obtain ⟨m', g'', a, b, d, _⟩ := hr; exact ⟨m', g'', a, b, d⟩
  | error x => exact hr
 exact compStart_any rfl hus_list rfl rfl loop' (It0.self 0 _ _ _ j0 loop')
theorem blk_dict2 {kx vx t0 t1 i0 i1 : Expr} {scope : Scope} {T T₀ T₁ : List Str} {n : Nat} {V : Nat → Heap → Value → Prop} {Tg : Nat → Heap → (Str → Option Value) → Prop} {P₁ : Nat → Heap → Value → Prop} {n₁ : Nat → Nat} {V₁ : Nat → Nat → Heap → Value → Prop}
  {Tg₁ : Nat → Nat → Heap → (Str → Option Value) → Prop} (key : Nat → Nat → Str) (val : Nat → Nat → PyData)
  (hz : ∀ i j, i < n → j < n₁ i → (putsF (puts2 i n₁ key val) (key i) (val i) j).length ≤ sizeLine) (hT0 : ∀ y, T.contains y = false → T₀.contains y = false) (hT1 : ∀ y, T.contains y = false → T₁.contains y = false) (hTS : ∀ x, x ∈ T₀ ∨ x ∈ T₁ → x ∈ T)
  (ht : AsTo c.w c.A t0 T₀ n V Tg) (ht1 : ∀ i, i < n → AsTo c.w c.A t1 T₁ (n₁ i) (V₁ i) (Tg₁ i)) (hst : ∀ i g g' m m', Sub g g' → (∀ y, T₁.contains y = false → m' y = m y) → Tg i g m → Tg i g' m')
  (body0 : ∀ i gB c', i < n → Sub g gB → InC c scope T c' → Tg i gB c'.m → Does c' (eval i1 c'.env) (P₁ i) gB ∧ ∀ g' x, Sub gB g' → P₁ i g' x → DoesIt c' t1 (pyIter x) (n₁ i) (V₁ i) g')
  (body : ∀ i j gB c', i < n → j < n₁ i → Sub g gB → InC c scope T c' → Tg i gB c'.m → Tg₁ i j gB c'.m → Does c' (eval kx c'.env) (RdP (.str (key i j))) gB ∧ Does c' (eval vx c'.env) (RdP (val i j)) gB)
  (hs1 : ∀ env x, foldedSetIterable i1 env x = pure x) :
  Block c (.DictComp kx vx [⟨t0, i0, [], 0⟩, ⟨t1, i1, [], 0⟩] scope pos) t0 scope T { cls := .type "dict", data := .dict #[] } n V (AccD c.w (puts2 n n₁ key val)) g := by
 intro gI s₁ C W' O' s₀' I fp J D S sg hDO hDC hD3 hf It0 j0 hD hDf
 have loop := lv_acc (c := compC c scope T C W' O' s₀' (compM scope c.m)) (T := T) (T₁ := T₀) (e := .DictComp kx vx [⟨t0, i0, [], 0⟩, ⟨t1, i1, [], 0⟩] scope pos) (depth := 0) (D := D) (p := i0.pos) (target := t0) (ifs := []) (inner := eval i1 (compEnvX c.env scope C) >>= fun x => standAt i1.pos >>= fun _ => foldedSetIterable i1 (compEnvX c.env scope C) x >>= fun x => holding [x] (pyIter x) >>= fun i => runOwn (.compStart (.DictComp kx vx [⟨t0, i0, [], 0⟩, ⟨t1, i1, [], 0⟩] scope pos) 1 i (.ref D) (compEnvX c.env scope C)) (compEnvX c.env scope C) >>= fun _ => pure ())
  rfl hu_dict (turn2_dict ..) It0 S j0 hf hDO hDf (fun i g h => AccD c.w (puts2 i n₁ key val) D g h) (fun i g h g' h' a s k => a.stab s k) ⟨hD3, [], ⟨_, #[], 0, hD, ⟨rfl, rfl, rfl⟩, rfl, fun _ h => by simp at h, .nil, List.nodup_nil⟩, .nil⟩ (fun _ => true) (fun i g h hb a => by cases hb) hT0 ht (fun x h => hTS x (.inl h)) fun i gB c' hi sg' lv tg => by
   refine ⟨tl_nil, fun hb gC s F sC S' ac => ?_⟩
   have inC : InC c scope T c' := .of (c₁ := c) lv
   obtain ⟨m', W₂, s₂, rfl, q⟩ := lv
   have tgC := hst i gB gC m' m' sC (fun _ _ => rfl) tg
   obtain ⟨h1, h2⟩ := body0 i gC _ hi ((sg.trans sg').trans sC) inC tgC
   refine em_nest (c := { compC c scope T C W' O' s₀' (compM scope c.m) with m := m', W := W₂, s₀ := s₂ }) h1 h2 S' (hs1 _) fun g₃ s₃ I₁ fp₁ J₁ S₃ sg₃ sh₃ It1 j1 hf1 => ?_
   have loop1 := lv_acc (c := { compC c scope T C W' O' s₀' (compM scope c.m) with m := m', W := W₂, s₀ := s₂ }) (T := T₁) (T₁ := T₁) (e := .DictComp kx vx [⟨t0, i0, [], 0⟩, ⟨t1, i1, [], 0⟩] scope pos) (depth := 1) (D := D) (p := i1.pos) (target := t1) (ifs := []) (inner := eval kx (compEnvX c.env scope C) >>= fun kv => holding [kv] (eval vx (compEnvX c.env scope C)) >>= fun vv => standAt { kx.pos with endLine := vx.pos.endLine, endCol := vx.pos.endCol } >>= fun _ => holding [kv, vv] (dictSet D kv vv))
    rfl hu_dict (by rfl) It1 S₃ j1 hf1 hDO hDf (fun j g h => AccD c.w (putsF (puts2 i n₁ key val) (key i) (val i) j) D g h) (fun i g h g' h' a s k => a.stab s k) (ac.stab sg₃ (h' := s₃.heap) fun o e => sh₃ _ _ e) (fun _ => true) (fun j g h hb a => by cases hb) (fun _ h => h) (ht1 i hi) (fun x h => hTS x (.inr h)) fun j gD c'' hj sD lv1 tg1 => by
     have inC' := inC.deeper lv1 hT1
     obtain ⟨m'', W₃, s₃, rfl, q1⟩ := lv1
     obtain ⟨b1, b2⟩ := body i j gD _ hi hj (((sg.trans sg').trans sC).trans (sg₃.trans sD)) inC' (hst i gC gD m' m'' (sg₃.trans sD) q1 tgC) tg1
     refine ⟨tl_nil, fun hb gE s F sE S'' ac'' => ?_⟩
     refine wpAny_mono (em_dict (c := { compC c scope T C W' O' s₀' (compM scope c.m) with m := m'', W := W₃, s₀ := s₃ }) hDO hDf (b1.sub sE) (b2.sub sE) S'' ac'' (hz i j hi hj)) (fun _ s' ⟨g₂, S₂, sg₂, ac₂⟩ => ⟨m'', g₂, S₂, sg₂, ?_, fun _ _ => rfl⟩) fun _ _ e => e
     rw [putsF_succ]; exact ac₂
   have loop1' := codeAny_mono loop1 (R' := fun r s' => match r with
     | .ok _ => ∃ m'' g₂, St { compC c scope T C W' O' s₀' (compM scope c.m) with m := m'', W := W₂, s₀ := s₂ } g₂ s' ∧ Sub gC g₂ ∧ AccD c.w (puts2 (i + 1) n₁ key val) D g₂ s'.heap ∧ ∀ y, T.contains y = false → m'' y = m' y
     | .error _ => False) fun r s' hr => by
    cases r with
    | ok f => obtain ⟨m'', g'', a, b, d, q2⟩ := hr; exact ⟨m'', g'', a, sg₃.trans b, by rw [puts2_succ]; exact d, fun y hy => q2 y (hT1 y hy)⟩
    | error x => exact hr
   exact compStart_any rfl hus_dict rfl rfl loop1' (It1.self 0 _ _ _ j1 loop1')
 have loop' := codeAny_mono loop (R' := fun r s' => match r with
   | .ok _ => ∃ m' g'', St (compC c scope T C W' O' s₀' m') g'' s' ∧ Sub gI g'' ∧ AccD c.w (puts2 n n₁ key val) D g'' s'.heap
   | .error _ => False) fun r s' hr => by
  cases r with
  | ok f => obtain ⟨m', g'', a, b, d, _⟩ := hr; exact ⟨m', g'', a, b, d⟩
  | error x => exact hr
 exact compStart_any rfl hus_dict rfl rfl loop' (It0.self 0 _ _ _ j0 loop')
end
section
variable {c : Cx} {g : Heap} {s : Shared} {k : Nat} {pos : Pos}
theorem zip_keep {W V : List Addr} {h h' : Heap} {b : Addr} {o : Obj} (e : h.get? b = some o) (kp : b ∉ W → h'.get? b = some o) (at_ : b ∈ W → ∃ o, h'.get? b = some o) (hV : ∀ b ∈ W, b ∈ V) : ∃ o', h'.get? b = some o' ∧ (b ∉ V → o' = o) := by
 by_cases hb : b ∈ W
 ·obtain ⟨o', q⟩ := at_ hb
  exact ⟨o', q, fun n => absurd (hV b hb) n⟩
 ·exact ⟨o, kp hb, fun _ => rfl⟩
theorem it_walks {w : World} {A : Around} {g : Heap} {elts : List Expr} {kk : Nat} {tp : Pos} {I : Addr} {fp fp' wr : List Addr} {n : Nat} {Pt : Nat → Array Value → Prop} {J : Nat → Heap → Prop} {Mid : Nat → Addr → Heap → Prop} {V : Nat → Heap → Value → Prop}
  (W : WalksT PG w A I fp wr n Pt J Mid) (h1 : ∀ b ∈ fp, b ∈ fp' ∨ ∃ o, g.get? b = some o) (h2 : ∀ b ∈ wr, b ∈ fp') (h3 : ∀ i h, J i h → ∀ b ∈ wr, ∃ o, h.get? b = some o) (h4 : ∀ i T h, Mid i T h → ∀ b ∈ wr, ∃ o, h.get? b = some o)
  (h5 : ∀ i T vals (h h' g' : Heap), i < n → Pt i vals → h.objs.size ≤ T → h'.IsTuple T vals → Sub g g' → NewIn h h' g' → V i g' (.ref T)) (h6 : ∀ i v g₁ g₂, Sub g₁ g₂ → V i g₁ v → V i g₂ v) : It w A (.Tuple elts kk tp) I fp' g n J V :=
 ⟨fun i h h' j kp s s' => W.frame i h h' j fun b hb o e => (h1 b hb).elim (fun m => kp b m o e) fun ⟨o', e'⟩ => s' _ _ (e'.trans ((s _ _ e').symm.trans e)),
  fun i s Q E hi j sg q => W.item i s Q E hi j fun T vals h' tk p hT ht hm kp => q (.ref T) _ (Mid i T) ⟨_, _, rfl⟩ (fun b o e => zip_keep e (fun m => kp b o m e) (h4 i T h' hm b) h2) hm
   (fun s Q E jm q => W.go elts kk tp i T s Q E jm fun h'' j'' kp'' => q _ ⟨_, _, rfl⟩ (fun b o e => zip_keep e (fun m => kp'' b o m e) (h3 _ _ j'' b) h2) j'') fun g' sg' nw => h5 i T vals _ _ g' hi p hT ht sg' nw,
  fun s Q E j sg q => W.done s Q E j fun h' tk kp => q _ ⟨_, _, rfl⟩ fun b o h e => kp b o (fun m => h (h2 b m)) e, fun i s Q E j q => W.self i s Q E j q, h6⟩
theorem zip_at {h : Heap} {z TI TO i1 i2 l1 l2 : Addr} {v : Value} {i j : Nat} (a1 : IsZip h z TI TO v) (a3 : ∃ a b, IsPair h TO a b) (a4 : h.IsListIter i1 l1 i) (a5 : h.IsListIter i2 l2 j) (b : Addr) (hb : b ∈ ([z, TO, i1, i2] : List Addr)) : ∃ o, h.get? b = some o := by
 obtain ⟨_, _, a3⟩ := a3
 obtain ⟨_, a4, _⟩ := a4
 obtain ⟨_, a5, _⟩ := a5
 rcases List.mem_cons.mp hb with rfl | hb
 ·exact ⟨_, a1⟩
 rcases List.mem_cons.mp hb with rfl | hb
 ·exact ⟨_, a3⟩
 rcases List.mem_cons.mp hb with rfl | hb
 ·exact ⟨_, a4⟩
 ·rw [List.mem_singleton.mp hb]; exact ⟨_, a5⟩
theorem zip_out {ds es : List PyData} {vs ws : List Value} {g g' h h' : Heap} {T : Addr} {i : Nat} {vals : Array Value} (rv : Rds g vs ds) (rw' : Rds g ws es) (hi : i < min ds.length es.length) (p : ∃ x y, vs.toArray[i]? = some x ∧ ws.toArray[i]? = some y ∧ vals = #[x, y]) (hT : h.objs.size ≤ T) (ht : h'.IsTuple T vals) (sg' : Sub g g') (nw : NewIn h h' g') :
  VD ((ds.zip es).map fun p => .tuple [p.1, p.2]) i g' (.ref T) := by
 obtain ⟨x, y, hx, hy, rfl⟩ := p
 have hi1 : i < ds.length := Nat.lt_of_lt_of_le hi (Nat.min_le_left _ _)
 have hi2 : i < es.length := Nat.lt_of_lt_of_le hi (Nat.min_le_right _ _)
 obtain ⟨x', ex, rx⟩ := rv.get (List.getElem?_eq_getElem hi1)
 obtain ⟨y', ey, ry⟩ := rw'.get (List.getElem?_eq_getElem hi2)
 rw [List.getElem?_toArray, ex] at hx
 rw [List.getElem?_toArray, ey] at hy
 cases hx; cases hy
 obtain ⟨o, ho, hc, n', hd⟩ := ht
 refine ⟨.tuple [ds[i], es[i]], ?_, Rd.tuple (nw T o ho (none_of_ge hT)) hc hd (.cons (rx.mono sg') (.cons (ry.mono sg') .nil))⟩
 rw [List.getElem?_map, List.getElem?_eq_getElem (by rw [List.length_zip]; exact hi), List.getElem_zip]
 rfl
theorem it_zip {w : World} {A : Around} {g : Heap} {elts : List Expr} {kk : Nat} {tp : Pos} {z TI TO i1 i2 l1 l2 : Addr} {vs ws : List Value} {ds es : List PyData} (hh : A.handled = none) (D : ZipApart z TI TO i1 i2 l1 l2)
  (hl1 : g.IsList l1 vs.toArray) (hl2 : g.IsList l2 ws.toArray) (rv : Rds g vs ds) (rw' : Rds g ws es) :
  It w A (.Tuple elts kk tp) z [z, TI, TO, i1, i2] g (min ds.length es.length) (fun i h => IsZip h z TI TO .none ∧ IsPair h TI (.ref i1) (.ref i2) ∧ (∃ a b, IsPair h TO a b) ∧ h.IsListIter i1 l1 i ∧ h.IsListIter i2 l2 i ∧ h.IsList l1 vs.toArray ∧ h.IsList l2 ws.toArray) (VD ((ds.zip es).map fun p => .tuple [p.1, p.2])) := by
 have hn : min vs.toArray.size ws.toArray.size = min ds.length es.length := by rw [List.size_toArray, List.size_toArray, rv.length, rw'.length]
 rw [← hn]
 refine it_walks (WalksT.zip2 (prog := PG) (w := w) hh z TI TO i1 i2 l1 l2 D vs.toArray ws.toArray) (fun b hb => ?_) (fun b h => (List.mem_cons.mp h).elim (fun q => q ▸ .head _) fun q => .tail _ (.tail _ q)) (fun i h j => zip_at j.1 j.2.2.1 j.2.2.2.1 j.2.2.2.2.1) (fun i T h j => zip_at j.1 j.2.2.1 j.2.2.2.1 j.2.2.2.2.1)
  (fun i T vals h h' g' hi p hT ht sg' nw => zip_out rv rw' (hn ▸ hi) p hT ht sg' nw) fun i v g₁ g₂ s ⟨d, e, r⟩ => ⟨d, e, r.mono s⟩
 have hb : b ∈ [z, TI, TO, i1, i2] ++ [l1, l2] := hb
 refine (List.mem_append.mp hb).imp id fun hb => ?_
 rcases List.mem_cons.mp hb with rfl | hb
 ·exact hl1.imp fun _ q => q.1
 ·rw [List.mem_singleton.mp hb]; exact hl2.imp fun _ q => q.1
theorem it2_zip {f a b : Expr} {elts : List Expr} {kk : Nat} {tp : Pos} {ds es : List PyData} (hA : AOk k c.A) (hf : Does c (eval f c.env) (fun _ v => v = .type "zip") g) (ha : Does c (eval a c.env) (RdP (.list ds)) g) (hb : Does c (eval b c.env) (RdP (.list es)) g)
  (he : eval (.Call f [a, b] [] pos) c.env = (do callWith pos (← eval f c.env) [] (backTo pos (starEach [a, b] c.env)) (backToKw pos (keywordEach [] c.env))) := by rfl)
  (hs : starEach [a, b] c.env = (false, eval a c.env) :: starEach [b] c.env := by rfl) (hs2 : starEach [b] c.env = (false, eval b c.env) :: starEach [] c.env := by rfl) (hp : (backTo pos (starEach [b] c.env)).any (·.1) = false := by rfl) :
  DoesIt2 c (.Tuple elts kk tp) (eval (.Call f [a, b] [] pos) c.env) (min ds.length es.length) (VD ((ds.zip es).map fun p => .tuple [p.1, p.2])) g := fun g₁ s Q E sg S q => by
 refine Call_ (hf g₁ s _ E sg S fun g₂ s₂ v S₂ sg₂ sh₂ p => ?_) he
 subst p
 refine PyProof.Rows.callWith_type1 ((ar_d ha (ar_d hb ar_nil hs2) hs : DoesA c pos [a, b] _ g) g₂ s₂ _ E (sg.trans sg₂) S₂ fun g₃ s₃ us S₃ sg₃ sh₃ r => ?_) hs hp
 obtain ⟨u, _, rfl, pu, v, _, rfl, pv, rfl⟩ := r
 obtain ⟨l1, vs, rfl, hl1, rv⟩ := Rd.isList pu
 obtain ⟨l2, ws, rfl, hl2, rw'⟩ := Rd.isList pv
 obtain ⟨o1, e1, _⟩ := id hl1
 obtain ⟨o2, e2, _⟩ := id hl2
 have lt1 : @LT.lt Nat _ l1 s₃.heap.objs.size := S₃.fz.lt e1
 have lt2 : @LT.lt Nat _ l2 s₃.heap.objs.size := S₃.fz.lt e2
 refine call_zip_2 (isList_mono hl1 S₃.fz.sub) (isList_mono hl2 S₃.fz.sub) fun h' a1 a2 a3 a4 a5 a6 a7 => ?_
 refine wpAny_pyIter_zip a1 ?_
 have S₄ : St c g₃ { s₃ with heap := h' } := S₃.step Sm.heap a7
 have D : ZipApart (s₃.heap.objs.size + 4) (s₃.heap.objs.size + 2) (s₃.heap.objs.size + 3) s₃.heap.objs.size (s₃.heap.objs.size + 1) l1 l2 := by
  have e1 : ∀ n m : Nat, n < m → s₃.heap.objs.size + n ≠ s₃.heap.objs.size + m := fun n m h => by omega
  have e2 : ∀ n m : Nat, m < n → s₃.heap.objs.size + n ≠ s₃.heap.objs.size + m := fun n m h => by omega
  have f1 : ∀ n : Nat, l1 ≠ s₃.heap.objs.size + n := fun n => Nat.ne_of_lt (Nat.lt_of_lt_of_le lt1 (Nat.le_add_right _ _))
  have f2 : ∀ n : Nat, l2 ≠ s₃.heap.objs.size + n := fun n => Nat.ne_of_lt (Nat.lt_of_lt_of_le lt2 (Nat.le_add_right _ _))
  constructor <;> first | exact e1 _ _ (by decide) | exact e2 _ _ (by decide) | exact e1 0 _ (by decide) | exact e2 _ 0 (by decide) | exact f1 _ | exact f2 _ | exact f1 0 | exact f2 0
 refine q g₃ _ _ _ _ S₄ (sg₂.trans sg₃) ((sh₂.trans sh₃).trans a7) (it_zip hA.1 D hl1 hl2 rv rw') ⟨a1, a2, ⟨_, _, a3⟩, a4, a5, isList_mono hl1 S₄.fz.sub, isList_mono hl2 S₄.fz.sub⟩ fun b hb => ?_
 have hge : s₃.heap.objs.size ≤ b ∧ ∃ o, h'.get? b = some o := by
  simp at hb
  obtain ⟨_, a4', _⟩ := a4
  obtain ⟨_, a5', _⟩ := a5
  rcases hb with rfl | rfl | rfl | rfl | rfl
  ·exact ⟨Nat.le_add_right _ _, _, a1⟩
  ·exact ⟨Nat.le_add_right _ _, _, a2⟩
  ·exact ⟨Nat.le_add_right _ _, _, a3⟩
  ·exact ⟨Nat.le_refl _, _, a4'⟩
  ·exact ⟨Nat.le_add_right _ _, _, a5'⟩
 have hno := none_of_ge hge.1
 exact ⟨Sub.none S₃.fz.sub hno, Sub.none (sh₂.trans sh₃) hno, hge.2⟩
end
noncomputable def pairGt (p q : Int × Int) : Bool := if p.1 = q.1 then decide (p.2 > q.2) else decide (p.1 > q.1)
theorem tuple_gt2 (l b : Addr) (n n2 : Nat) (dd dd2 : Option Addr) (sl sl2 : Array (Option Value)) (x1 x2 y1 y2 : Int) (t1 t2 u1 u2 : Tok) :
  Meets (Builtin.«tuple.__gt__» ⟨[.ref l, .ref b], []⟩)
   (fun A R s => s.heap.get? l = some { cls := .type "tuple", dict := dd, data := .seq #[.int x1 t1, .int x2 t2] n, slots := sl } ∧ s.heap.get? b = some { cls := .type "tuple", dict := dd2, data := .seq #[.int y1 u1, .int y2 u2] n2, slots := sl2 } ∧
    R (.ok (.ret (.bool (pairGt (x1, x2) (y1, y2))))) s) :=
 .of_wp fun prog w A R s h => by
  obtain ⟨hp, g, d, tk, os⟩ := s; obtain ⟨hl, hb, h⟩ := h
  have f2 := PySem.AutoSeq1.sub_tuple_tuple
  have hz : (#[Value.int x1 t1, Value.int x2 t2].toList.zip #[Value.int y1 u1, Value.int y2 u2].toList) = [(.int x1 t1, .int y1 u1), (.int x2 t2, .int y2 u2)] := rfl
  have step : ∀ (a b : Int) (ta tb : Tok) (Q : Bool → Shared → Prop) (E : Value → Shared → Prop), Q (a == b) ⟨hp, g, d, tk, os⟩ → wpAny (model prog w) A.in1 (eqBool (.int a ta) (.int b tb)) Q E ⟨hp, g, d, tk, os⟩ := fun a b ta tb Q E q => SeqAt.EqAt.int_int a ta b tb prog w E Q q
  have gt : ∀ (a b : Int) (ta tb : Tok) (Q : Value → Shared → Prop) (E : Value → Shared → Prop), Q (.bool (decide (a > b))) ⟨hp, g, d, tk, os⟩ → wpAny (model prog w) A.in1 (richCompare .Gt (.int a ta) (.int b tb)) Q E ⟨hp, g, d, tk, os⟩ := fun a b ta tb Q E q =>
   CmpOf.ints_gt (P := fun i v => if i = 0 then v = .int a ta else v = .int b tb) (fun i => if i = 0 then a else b) (fun i v hv => by
    by_cases h0 : i = 0
    ·simp only [h0, if_true] at hv ⊢; exact ⟨_, hv⟩
    ·simp only [h0, if_false] at hv ⊢; exact ⟨_, hv⟩) 0 1 _ _ _ Q E rfl rfl (by simpa using q)
  wp_walk using PySem.AutoSeq1.wpAny_loadPart' hl, PySem.AutoSeq1.wpAny_loadPart' hb, wpAny_forIn_list _ (fun rest b s' => b.1 = none ∧ s' = ⟨hp, g, d, tk, os⟩ ∧ (rest = [(.int x1 t1, .int y1 u1), (.int x2 t2, .int y2 u2)] ∨ (rest = [(.int x2 t2, .int y2 u2)] ∧ x1 = y1) ∨ (rest = [] ∧ x1 = y1 ∧ x2 = y2))) _
  case turn =>
   rintro ⟨y, x⟩ rest b s' ⟨hb', rfl, hr⟩
   rcases hr with hr | ⟨hr, e1⟩ | ⟨hr, _⟩
   ·injection hr with h1 h2
    injection h1 with h1 h3
    subst h1 h3 h2
    refine wpAny_bind (step x1 y1 t1 u1 _ _ ?_)
    by_cases e1 : x1 = y1
    ·have : (x1 == y1) = true := by simpa using e1
     rw [this]
     exact wpAny_pure ⟨rfl, rfl, .inr (.inl ⟨rfl, e1⟩)⟩
    ·have : (x1 == y1) = false := by simpa using e1
     rw [this]
     refine wpAny_bind (wpAny_rule (wpAny_bind (gt x1 y1 t1 u1 _ _ (wpAny_bind (wpAny_pure (wpAny_pure (wpAny_pure ⟨_, rfl, ?_⟩)))))))
     have e : pairGt (x1, x2) (y1, y2) = decide (x1 > y1) := by simp [pairGt, e1]
     rw [← e]; exact h
   ·injection hr with h1 h2
    injection h1 with h1 h3
    subst h1 h3 h2
    refine wpAny_bind (step x2 y2 t2 u2 _ _ ?_)
    by_cases e2 : x2 = y2
    ·have : (x2 == y2) = true := by simpa using e2
     rw [this]
     exact wpAny_pure ⟨rfl, rfl, .inr (.inr ⟨rfl, e1, e2⟩)⟩
    ·have : (x2 == y2) = false := by simpa using e2
     rw [this]
     refine wpAny_bind (wpAny_rule (wpAny_bind (gt x2 y2 t2 u2 _ _ (wpAny_bind (wpAny_pure (wpAny_pure (wpAny_pure ⟨_, rfl, ?_⟩)))))))
     have e : pairGt (x1, x2) (y1, y2) = decide (x2 > y2) := by simp [pairGt, e1]
     rw [← e]; exact h
   ·cases hr
  case fin =>
   rintro ⟨b1, b2⟩ s' ⟨hb', rfl, hr⟩
   simp only at hb'
   subst hb'
   rcases hr with hr | ⟨hr, e1⟩ | ⟨_, e1, e2⟩
   ·cases hr
   ·cases hr
   ·refine wpAny_pure ⟨_, rfl, ?_⟩
    have e : pairGt (x1, x2) (y1, y2) = false := by simp [pairGt, e1, e2]
    rw [e] at h
    exact h
  case h => exact ⟨rfl, rfl, .inl rfl⟩
noncomputable def bestOf (bt : Nat → Nat → Bool) : Nat → Nat
 | 0 => 0
 | k + 1 => if bt (k + 1) (bestOf bt k) then k + 1 else bestOf bt k
section
variable {w : World} {A : Around} {R : Result → Shared → Prop} {I S : Addr} {fp wr : List Addr} {n : Nat} {P : Nat → Value → Prop} {J : Nat → Heap → Prop} {g : Heap}
theorem max_name : (toString "max" ++ toString ".loop" : String) = "max.loop" := by decide
theorem max_go (W : Walks PG w A.in1 I fp wr n P J) (bt : Nat → Nat → Bool) (hSf : S ∉ fp) (hg : ∀ b ∈ wr, g.get? b = none) (hgS : g.get? S = none)
  (hcmp : ∀ i j vi vj (s : Shared) (Q : Value → Shared → Prop) (E : Value → Shared → Prop), Sub g s.heap → P i vi → P j vj → Q (.bool (bt i j)) s → wpAny (model PG w) A.in1 (richCompare .Gt vi vj) Q E s)
  (left : Nat) : ∀ (j : Nat) (s : Shared) (best : Value) (c : Nat), n - (j + 1) = left → j + 1 ≤ n → Sub g s.heap → J (j + 1) s.heap → P (bestOf bt j) best →
   s.heap.get? S = some { cls := .type "list", dict := none, data := .seq #[best, best] c, slots := #[] } →
   (∀ v s', P (bestOf bt (n - 1)) v → Sm s s' → Off (S :: wr) s.heap s'.heap → R (.ok (.ret v)) s') →
   codeAny (model PG w) A (.builtin "max.loop" ⟨[.ref I, .none, .ref S], []⟩) R s := by
 have hSw : S ∉ wr := fun h => hSf (W.sub _ h)
 have keep : ∀ {h h' : Heap}, Sub g h → (∀ b o, b ∉ wr → h.get? b = some o → h'.get? b = some o) → Sub g h' := fun sg k b o e => k b o (fun q => by rw [hg b q] at e; cases e) (sg b o e)
 have upd : ∀ {h : Heap} {f : Obj → Obj}, Sub g h → Sub g (h.update S f) := fun sg b o e => (Heap.get?_update_other _ _ (fun q : S = b => by rw [← q, hgS] at e; cases e)).trans (sg b o e)
 induction left with
 | zero =>
  intro j s best c hl hj sg hJ hb hS hR
  have hn := left_end hl hj
  subst hn
  refine codeAny_builtin PySem.F.entry_max_loop ?_
  rw [Around.under_plainId PySem.F.plain_max_loop _]
  show wpAny _ A.in1 (seqItems? (.ref S) >>= _) _ _ s
  refine wpAny_bind (wpAny_seqItems hS rfl ?_)
  show wpAny _ A.in1 (tryCatch (pyNext (.ref I)) _ >>= _) _ _ s
  refine wpAny_bind (wpAny_tryCatch (W.done s _ _ hJ fun h' tk k => ?_))
  show wpAny _ A.in1 (updateSeq S (fun _ => #[]) >>= _) _ _ _
  refine wpAny_bind (wpAny_updateSeq (k S _ hSw hS) rfl (wpAny_bind (wpAny_letGo (wpAny_pure ?_))))
  exact hR best _ hb ⟨_, _, rfl⟩ fun b o hbm e => (Heap.get?_update_other _ _ (fun q : S = b => hbm (q ▸ .head _))).trans (k b o (fun q => hbm (.tail _ q)) e)
 | succ left ih =>
  intro j s best c hl hj sg hJ hb hS hR
  have hlt := left_lt hl
  refine codeAny_builtin PySem.F.entry_max_loop ?_
  rw [Around.under_plainId PySem.F.plain_max_loop _]
  show wpAny _ A.in1 (seqItems? (.ref S) >>= _) _ _ s
  refine wpAny_bind (wpAny_seqItems hS rfl ?_)
  show wpAny _ A.in1 (tryCatch (pyNext (.ref I)) _ >>= _) _ _ s
  refine wpAny_bind (wpAny_tryCatch (W.item (j + 1) s _ _ hlt hJ fun v h' tk hP hJ' k => ?_))
  have hS' := k S _ hSw hS
  show wpAny _ A.in1 (tryCatch (holding [v, v] (richCompare .Gt v best >>= _)) _ >>= _) _ _ _
  refine wpAny_bind (wpAny_tryCatch (wpAny_holding (wpAny_bind (hcmp (j + 1) (bestOf bt j) v best _ _ _ (keep sg k) hP hb ?_))))
  refine wpAny_bind (wpAny_holding (wpAny_truthy_bool (wpAny_bind (wpAny_letGo (wpAny_pure ?_)))))
  cases hbt : bt (j + 1) (bestOf bt j) with
  | true =>
   simp only [if_true]
   refine wpAny_bind (wpAny_updateSeq hS' rfl (wpAny_bind (wpAny_letGo ?_)))
   rw [max_name]
   refine wpAny_pure ⟨plainId_quiet PySem.F.plain_max_loop _, ih (j + 1) _ v _ (left_next hl) hlt (upd (keep sg k)) (W.frame _ _ _ hJ' fun b hbf o e => (Heap.get?_update_other _ _ (fun q : S = b => hSf (q ▸ hbf))).trans e)
    (by simp only [bestOf, hbt, if_true]; exact hP) (Heap.get?_update_self _ hS' rfl) fun v' s' hP' sm off => hR v' s' hP' (Sm.trans ⟨_, _, rfl⟩ sm) fun b o hbm e => off b o hbm ?_⟩
   exact (Heap.get?_update_other _ _ (fun q : S = b => hbm (q ▸ .head _))).trans (k b o (fun q => hbm (.tail _ q)) e)
  | false =>
   simp only [Bool.false_eq_true, if_false]
   refine wpAny_bind (wpAny_letGo ?_)
   rw [max_name]
   exact wpAny_pure ⟨plainId_quiet PySem.F.plain_max_loop _, ih (j + 1) _ best c (left_next hl) hlt (keep sg k) hJ' (by simp only [bestOf, hbt, Bool.false_eq_true, if_false]; exact hb) hS'
    fun v' s' hP' sm off => hR v' s' hP' (Sm.trans ⟨_, _, rfl⟩ sm) fun b o hbm e => off b o hbm (k b o (fun q => hbm (.tail _ q)) e)⟩
end
section
variable {c : Cx} {g : Heap} {pos : Pos} {k : Nat}
theorem op_max {v : Value} {ds : List PyData} (bt : Nat → Nat → Bool) (hA : AOk (k + 1) c.A) (hv : Rd g v (.list ds)) (hne : 0 < ds.length)
  (hcmp : ∀ i j di dj vi vj (s : Shared) (Q : Value → Shared → Prop) (E : Value → Shared → Prop), ds[i]? = some di → ds[j]? = some dj → Rd s.heap vi di → Rd s.heap vj dj → Q (.bool (bt i j)) s → wpAny (model PG c.w) c.A.in1 (richCompare .Gt vi vj) Q E s) :
  Does c (call (.builtin "max") [v]) (fun h x => ∃ d, ds[bestOf bt (ds.length - 1)]? = some d ∧ Rd h x d) g := fun g₁ s Q E sg S q => by
 obtain ⟨l, vs, rfl, hl, rl⟩ := hv.isList
 have hl₁ := isList_mono hl sg
 have hls := isList_mono hl₁ S.fz.sub
 obtain ⟨o, ho, _⟩ := id hl₁
 have hlt : l < s.heap.objs.size := S.fz.lt ho
 have hn : vs.toArray.size = ds.length := by rw [List.size_toArray]; exact rl.length
 refine call_function_tree PySem.F.kind_max PySem.F.plain_max PySem.F.entry_max (PySem.F.args_max1 _) ?_
 show wpAny _ c.A.in1 (Builtin.Builtins.bindParams "max" ["key", "default"] 0 ⟨[], []⟩ >>= _) _ _ s
 refine wpAny_bind (wpAny_of_eq (show Builtin.Builtins.bindParams "max" ["key", "default"] 0 ⟨[], []⟩ = pure [none, none] from rfl) (wpAny_bind (wpAny_pure (wpAny_bind ?_))))
 refine wpAny_pyIter_list hls ?_
 refine wpAny_bind (wpAny_newObj_type ?_)
 rw [max_name]
 have W := Walks.list (prog := PG) (w := c.w) (A := c.A.in1) hA.in1.1 s.heap.objs.size l (Nat.ne_of_lt hlt) vs.toArray
 rw [hn] at W
 have hz : (s.heap.push { cls := .type "list_iterator", data := .fields #[.ref l, .int 0 0] }).objs.size = s.heap.objs.size + 1 := Heap.size_push ..
 have gN : ∀ a, s.heap.objs.size ≤ a → g₁.get? a = none := fun a h => Sub.none S.fz.sub (none_of_ge h)
 have P' : ∀ i u h, (vs.toArray[i]? = some u) → Sub g₁ h → ∃ d, ds[i]? = some d ∧ Rd h u d := fun i u h e sh => by
  have hi : i < ds.length := by
   have := (Array.getElem?_eq_some_iff.mp e).1
   rw [hn] at this; exact this
  obtain ⟨x, ex, rx⟩ := rl.get (List.getElem?_eq_getElem hi)
  rw [List.getElem?_toArray, ex] at e
  cases e
  exact ⟨_, List.getElem?_eq_getElem hi, rx.mono (sg.trans sh)⟩
 have sub₂ : Sub s.heap ((s.heap.push { cls := .type "list_iterator", data := .fields #[.ref l, .int 0 0] }).push { cls := .type "list", dict := none, data := .seq #[] }) := Sub.push.trans Sub.push
 refine wpAny_pure ⟨plainId_quiet PySem.F.plain_max_loop _, ?_⟩
 have hS0 : ((s.heap.push { cls := .type "list_iterator", data := .fields #[.ref l, .int 0 0] }).push { cls := .type "list", dict := none, data := .seq #[] }).get? (s.heap.objs.size + 1) = some { cls := .type "list", dict := none, data := .seq #[] } := by rw [← hz]; exact Heap.get?_push_size _ rfl
 rw [hz]
 have hSf : s.heap.objs.size + 1 ∉ [s.heap.objs.size, l] := by
  have hlt' : @LT.lt Nat _ l s.heap.objs.size := hlt
  intro q
  rcases List.mem_cons.mp q with q | q
  ·exact absurd q (by omega)
  ·have := List.mem_singleton.mp q
   rw [← this] at hlt'
   exact absurd hlt' (by omega)
 refine codeAny_builtin PySem.F.entry_max_loop ?_
 rw [Around.under_plainId PySem.F.plain_max_loop _]
 show wpAny _ c.A.in1 (seqItems? (.ref (s.heap.objs.size + 1)) >>= _) _ _ _
 refine wpAny_bind (wpAny_seqItems hS0 rfl ?_)
 show wpAny _ c.A.in1 (tryCatch (pyNext (.ref s.heap.objs.size)) _ >>= _) _ _ _
 refine wpAny_bind (wpAny_tryCatch (W.item 0 _ _ _ hne ⟨⟨_, Heap.get?_push_of_some _ (Heap.get?_push_size _ rfl), rfl, rfl⟩, isList_mono hls sub₂⟩ fun v h' tk hP hJ' kk => ?_))
 have hSw : s.heap.objs.size + 1 ∉ [s.heap.objs.size] := fun q => hSf (by rcases List.mem_singleton.mp q with q; simp at q)
 have hS' := kk _ _ hSw hS0
 show wpAny _ c.A.in1 (updateSeq (s.heap.objs.size + 1) (fun _ => #[v, v]) >>= _) _ _ _
 refine wpAny_bind (wpAny_updateSeq hS' rfl ?_)
 rw [max_name]
 have offg : ∀ b o, g₁.get? b = some o → b ≠ s.heap.objs.size ∧ b ≠ s.heap.objs.size + 1 := fun b o e => ⟨fun q => (by rw [q, gN _ (Nat.le_refl _)] at e; cases e), fun q => (by rw [q, gN _ (Nat.le_succ _)] at e; cases e)⟩
 have sg' : Sub g₁ h' := fun b o e => kk b o (fun q => (offg b o e).1 (List.mem_singleton.mp q)) (sub₂ _ _ (S.fz.sub _ _ e))
 refine wpAny_pure ⟨plainId_quiet PySem.F.plain_max_loop _, max_go (g := g₁) W bt hSf (fun b hb => by rw [List.mem_singleton.mp hb]; exact gN _ (Nat.le_refl _)) (gN _ (Nat.le_succ _)) (fun i j vi vj s Q E sg hi hj q => ?_) _ 0 _ v _ rfl hne
  (fun b o e => (Heap.get?_update_other _ _ (fun q => (offg b o e).2 q.symm)).trans (sg' b o e)) (W.frame _ _ _ hJ' fun b hbf o e => (Heap.get?_update_other _ _ (fun q => hSf (by rw [q]; exact hbf))).trans e) hP (Heap.get?_update_self _ hS' rfl) fun v' s' hP' sm off => ?_⟩
 ·obtain ⟨di, e1, r1⟩ := P' i vi s.heap hi sg
  obtain ⟨dj, e2, r2⟩ := P' j vj s.heap hj sg
  exact hcmp i j di dj vi vj s Q E e1 e2 r1 r2 q
 ·have k2 : Sub s.heap s'.heap := fun b o e => by
   have h1 : b ≠ s.heap.objs.size := Nat.ne_of_lt (Heap.lt_size e)
   have h2 : b ≠ s.heap.objs.size + 1 := Nat.ne_of_lt (Nat.lt_succ_of_lt (Heap.lt_size e))
   refine off b o (fun q => ?_) ((Heap.get?_update_other _ _ (fun q => h2 q.symm)).trans (kk b o (fun q => h1 (List.mem_singleton.mp q)) (sub₂ _ _ e)))
   rcases List.mem_cons.mp q with q | q
   ·exact h2 q
   ·exact h1 (List.mem_singleton.mp q)
  obtain ⟨d, e, r⟩ := P' _ v' g₁ hP' Sub.refl
  exact q g₁ s' v' (S.step (Sm.trans ⟨_, _, rfl⟩ sm) k2) Sub.refl k2 ⟨d, e, r⟩
end
open PySem.Builtin.Str (occurrences partsBetween spaceWords)
noncomputable def dStrs (ys : List Str) : List PyData := ys.map PyData.str
theorem rds_strs {h : Heap} : ∀ (l : List (Str × Tok)), Rds h (strValues l) (dStrs (l.map (·.1)))
 | [] => .nil
 | (x, t) :: r => .cons Rd.str (rds_strs r)
theorem strsAre_of {h : Heap} : ∀ {ys : List Str} {vs : List Value}, Rds h vs (dStrs ys) → StrsAre vs ys
 | [], vs, r => by rw [r.inv_nil]; exact .nil
 | y :: ys, vs, r => by
  obtain ⟨v, ws, rfl, p, q⟩ := r.inv_cons
  obtain ⟨t, rfl⟩ := p.inv_str
  exact .cons _ _ (strsAre_of q)
section
variable {c : Cx} {g : Heap} {pos : Pos} {k : Nat} {x y : Str}
theorem str_ok (g₁ : Heap) (v : Value) (s : Shared) (r : Rd g₁ v (.str x)) (_ : Sub g₁ s.heap) : s.TypeIs v "str" ∧ (∀ a, v = .ref a → ∃ ob, s.heap.get? a = some ob ∧ ob.dict = none) := by
 obtain ⟨t, rfl⟩ := r.inv_str
 exact ⟨typeIs_str _ _ _, fun a q => by cases q⟩
theorem gv_rstrip {o e : Expr} {apos : Pos} (hz : x.length ≤ sizeLine) (ho : Does c (eval o c.env) (RdP (.str x)) g) (he : Does c (eval e c.env) (RdP (.str y)) g)
  (hbase : attributeBase o "rstrip" c.env (eval o c.env) = eval o c.env := by rfl)
  (hfew : ((backTo pos (starEach [e] c.env)).all (fun x => !x.1) && (backToKw pos (keywordEach [] c.env)).all (fun x => x.1.isSome) && decide (([e] : List Expr).length + ([] : List Keyword).length + (if ([] : List Keyword).isEmpty then 0 else 1) < 30)) = true := by rfl)
  (hline : (apos.endLine == pos.line) = true := by rfl) (hs : starEach [e] c.env = (false, eval e c.env) :: starEach [] c.env := by rfl) :
  Does c (eval (.Call (.Attribute o "rstrip" apos) [e] [] pos) c.env) (RdP (.str (Txt.rstripChars x y))) g :=
 gv_method1 PySem.F.plainAttrs_str PySem.F.slot_str_rstrip PySem.F.type_str_rstrip RdP.mono ho str_ok (ar_d he ar_nil hs) (fun g₁ v vs _ p q => fun g₂ s Q E sg S kk => by
  obtain ⟨u, _, rfl, pu, rfl⟩ := q
  obtain ⟨t, rfl⟩ := Rd.inv_str p
  obtain ⟨t', rfl⟩ := Rd.inv_str pu
  exact SC.rstripChars (hsz := hz) fun t' tk => kk g₂ _ _ S.toks Sub.refl Sub.refl Rd.str) hbase hfew hline hs rfl
theorem gv_split_ws {o : Expr} {apos : Pos} (hz : x.length + 2 ≤ sizeLine) (ho : Does c (eval o c.env) (RdP (.str x)) g)
  (hbase : attributeBase o "split" c.env (eval o c.env) = eval o c.env := by rfl) (hline : (apos.endLine == pos.line) = true := by rfl) :
  Does c (eval (.Call (.Attribute o "split" apos) [] [] pos) c.env) (RdP (.list (dStrs (Txt.words x)))) g :=
 gv_method0 PySem.F.plainAttrs_str PySem.F.slot_str_split PySem.F.type_str_split ho str_ok (fun g₁ v _ p => fun g₂ s Q E sg S kk => by
  obtain ⟨t, rfl⟩ := Rd.inv_str p
  have hn : (spaceWords x (x.length + 1)).length ≤ sizeLine := by
   have e1 := (StrLaws.sw_weight x).1
   have e2 := StrLaws.len_le_wsum (spaceWords x (x.length + 1))
   omega
  have out : ∀ (l : List (Str × Tok)) tk, l.map (·.1) = Txt.words x → Q (.ref s.heap.objs.size) { s with heap := s.heap.push { cls := .type "list", data := .seq (strValues l).toArray }, toks := tk } := fun l tk e => by
   obtain ⟨g', S', sg', e'⟩ := S.new (o := { cls := .type "list", data := .seq (strValues l).toArray }) (tk := tk) rfl
   exact kk g' _ _ S' sg' Sub.push (Rd.list e' rfl rfl (by rw [← e]; exact rds_strs l))
  refine call_meets PySem.F.slot_str_split (typeIs_str _ _ _) PySem.F.entry_str_split (PySem.F.args_str_split_1 _) (meets_str_split_space x t (by omega) hn) ?_
  cases hw : spaceWords x (x.length + 1) == [(0, x.length)] with
  | false =>
   simp only [Bool.false_eq_true, if_false]
   rw [strsFrom_eq]
   exact out (numbered s.toks (PySem.wordsOf x)) _ ((numbered_texts _ _).trans (if_neg (ne_true_of_eq_false hw)).symm)
  | true =>
   simp only [if_true]
   exact out [(x, t)] s.toks (if_pos hw).symm) hbase hline
theorem gv_split_max {o e n : Expr} {apos : Pos} {i : Int} (hi : (decide (i < -(2 ^ 63 : Int)) || decide (i ≥ 2 ^ 63)) = false) (hy : (y.length == 0) = false) (hz : x.length + 2 ≤ sizeLine) (ho : Does c (eval o c.env) (RdP (.str x)) g) (he : Does c (eval e c.env) (RdP (.str y)) g) (hn' : Does c (eval n c.env) (RdP (.int i)) g)
  (hbase : attributeBase o "split" c.env (eval o c.env) = eval o c.env := by rfl)
  (hfew : ((backTo pos (starEach [e, n] c.env)).all (fun x => !x.1) && (backToKw pos (keywordEach [] c.env)).all (fun x => x.1.isSome) && decide (([e, n] : List Expr).length + ([] : List Keyword).length + (if ([] : List Keyword).isEmpty then 0 else 1) < 30)) = true := by rfl)
  (hline : (apos.endLine == pos.line) = true := by rfl) (hs : starEach [e, n] c.env = (false, eval e c.env) :: starEach [n] c.env := by rfl) (hs2 : starEach [n] c.env = (false, eval n c.env) :: starEach [] c.env := by rfl) (hp : (backTo pos (starEach [n] c.env)).any (·.1) = false := by rfl) :
  Does c (eval (.Call (.Attribute o "split" apos) [e, n] [] pos) c.env) (RdP (.list (dStrs (Txt.splitMax x y i)))) g :=
 gv_method1 PySem.F.plainAttrs_str PySem.F.slot_str_split PySem.F.type_str_split RdP.mono ho str_ok (ar_d he (ar_d hn' ar_nil hs2) hs) (fun g₁ v vs _ p q => fun g₂ s Q E sg S kk => by
  obtain ⟨t, rfl⟩ := Rd.inv_str p
  obtain ⟨u, _, rfl, pu, u2, _, rfl, p2, rfl⟩ := q
  obtain ⟨t', rfl⟩ := Rd.inv_str pu
  obtain ⟨t2, rfl⟩ := Rd.inv_int p2
  have hn : (partsBetween x (occurrences x y 0 x.length (limitOf x i)) y.length).length ≤ sizeLine := by
   have e1 := StrLaws.occ_length_le_len x y 0 x.length (limitOf x i)
   rw [length_partsBetween]; omega
  have out : ∀ (l : List (Str × Tok)) tk, l.map (·.1) = Txt.splitMax x y i → Q (.ref s.heap.objs.size) { s with heap := s.heap.push { cls := .type "list", data := .seq (strValues l).toArray }, toks := tk } := fun l tk e => by
   obtain ⟨g', S', sg', e'⟩ := S.new (o := { cls := .type "list", data := .seq (strValues l).toArray }) (tk := tk) rfl
   exact kk g' _ _ S' sg' Sub.push (Rd.list e' rfl rfl (by rw [← e]; exact rds_strs l))
  cases h1 : (decide (x.length < y.length) || decide (PySem.Builtin.Str.strKind x < PySem.Builtin.Str.strKind y)) with
  | false =>
   cases hf : (occurrences x y 0 x.length (limitOf x i)).isEmpty with
   | false =>
    refine call_meets PySem.F.slot_str_split (typeIs_str _ _ _) PySem.F.entry_str_split (PySem.F.args_str_split_3 _ _ _) (meets_str_split_sep_max x y i t t' t2 hi h1 hy hf (by omega) hn) ?_
    show wants Q E _ { s with toks := _, heap := s.heap.push { cls := .type "list", data := .seq (strsFrom s.toks (partsBetween x (occurrences x y 0 x.length (limitOf x i)) y.length)).toArray } }
    rw [strsFrom_eq]
    exact out (numbered s.toks _) _ ((numbered_texts _ _).trans ((if_neg (ne_true_of_eq_false h1)).trans (if_neg (ne_true_of_eq_false hf))).symm)
   | true =>
    exact call_meets PySem.F.slot_str_split (typeIs_str _ _ _) PySem.F.entry_str_split (PySem.F.args_str_split_3 _ _ _) (meets_str_split_max_not_found x y i t t' t2 hi h1 hy hf)
     (out [(x, t)] s.toks ((if_neg (ne_true_of_eq_false h1)).trans (if_pos hf)).symm)
  | true =>
   exact call_meets PySem.F.slot_str_split (typeIs_str _ _ _) PySem.F.entry_str_split (PySem.F.args_str_split_3 _ _ _) (meets_str_split_max_cannot_occur x y i t t' t2 hi h1)
    (out [(x, t)] s.toks (if_pos h1).symm)) hbase hfew hline hs hp
theorem gv_join {o e : Expr} {apos : Pos} {ys : List Str} (hok : (ys.map (·.length)).sum + ys.length * x.length ≤ 16777216) (ho : Does c (eval o c.env) (RdP (.str x)) g) (he : Does c (eval e c.env) (RdP (.list (dStrs ys))) g)
  (hbase : attributeBase o "join" c.env (eval o c.env) = eval o c.env := by rfl)
  (hfew : ((backTo pos (starEach [e] c.env)).all (fun x => !x.1) && (backToKw pos (keywordEach [] c.env)).all (fun x => x.1.isSome) && decide (([e] : List Expr).length + ([] : List Keyword).length + (if ([] : List Keyword).isEmpty then 0 else 1) < 30)) = true := by rfl)
  (hline : (apos.endLine == pos.line) = true := by rfl) (hs : starEach [e] c.env = (false, eval e c.env) :: starEach [] c.env := by rfl) :
  Does c (eval (.Call (.Attribute o "join" apos) [e] [] pos) c.env) (RdP (.str (Txt.join x ys))) g :=
 gv_method1 PySem.F.plainAttrs_str PySem.F.slot_str_join PySem.F.type_str_join RdP.mono ho str_ok (ar_d he ar_nil hs) (fun g₁ v vs _ p q => fun g₂ s Q E sg S kk => by
  obtain ⟨u, _, rfl, pu, rfl⟩ := q
  obtain ⟨t, rfl⟩ := Rd.inv_str p
  obtain ⟨l, us, rfl, hl, rl⟩ := Rd.isList pu
  exact join_list (isList_mono hl (sg.trans S.fz.sub)) (strsAre_of rl) hok fun t' tk => kk g₂ _ _ S.toks Sub.refl Sub.refl Rd.str) hbase hfew hline hs rfl
theorem op_strip {v : Value} (hz : x.length ≤ sizeLine) (hv : Rd g v (.str x)) : Does c (call (.builtin "str.strip") [v]) (RdP (.str (Txt.strip x))) g := fun g₁ s Q E sg S kk => by
 obtain ⟨t, rfl⟩ := hv.inv_str
 exact SC.strip (hsz := hz) fun t' tk => kk g₁ _ _ S.toks Sub.refl Sub.refl Rd.str
noncomputable def dInts (ns : List Int) : List PyData := ns.map PyData.int
theorem dInts_get {h : Heap} : ∀ {ns : List Int} {vs : List Value}, Rds h vs (dInts ns) → ∀ (i : Nat) (v : Value), vs[i]? = some v → ∃ t, v = .int (ns.getD i 0) t
 | [], vs, r, i, v, e => by rw [r.inv_nil] at e; simp at e
 | n :: ns, vs, r, i, v, e => by
  obtain ⟨u, ws, rfl, p, q⟩ := r.inv_cons
  obtain ⟨t, rfl⟩ := p.inv_int
  cases i with
  | zero => simp at e; exact ⟨t, e.symm⟩
  | succ i => simp at e; simpa using dInts_get q i v e
theorem preSum_eq (ns : List Int) : ∀ j, j ≤ ns.length → preSum (fun i => ns.getD i 0) j = (ns.take j).sum
 | 0, _ => by simp [preSum]
 | j + 1, h => by
  have ih := preSum_eq ns j (Nat.le_of_succ_le h)
  have e1 : preSum (fun i => ns.getD i 0) (j + 1) = preSum (fun i => ns.getD i 0) j + ns.getD j 0 := rfl
  rw [e1, ih, List.take_add_one, List.sum_append, List.getD_eq_getElem?_getD]
  cases hj : ns[j]? <;> simp
theorem op_sum {v : Value} {ns : List Int} (hA : AOk (k + 1) c.A) (hv : Rd g v (.list (dInts ns))) : Does c (call (.builtin "sum") [v]) (RdP (.int ns.sum)) g := fun g₁ s Q E sg S kk => by
 obtain ⟨l, vs, rfl, hl, rl⟩ := hv.isList
 have hl₁ := isList_mono hl sg
 have hls := isList_mono hl₁ S.fz.sub
 obtain ⟨o, ho, _⟩ := id hl₁
 have hlt : l < s.heap.objs.size := S.fz.lt ho
 have hn : vs.toArray.size = ns.length := by rw [List.size_toArray, rl.length]; exact List.length_map ..
 refine call_sum_walkG (wpAny_pyIter_list hls ?_)
 have W := Walks.list (prog := PG) (w := c.w) (A := c.A.in1) hA.in1.1 s.heap.objs.size l (Nat.ne_of_lt hlt) vs.toArray
 refine ⟨s.heap.objs.size, _, _, _, _, _, fun i => ns.getD i 0, rfl, W, ⟨⟨_, Heap.get?_push_size _ rfl, rfl, rfl⟩, isList_mono hls Sub.push⟩, fun b hb => ?_, fun i u e => dInts_get rl i u (by simpa using e), fun h' tk t' kp => ?_⟩
 ·rw [Heap.size_push]
  rcases List.mem_cons.mp hb with rfl | hb
  ·exact Nat.lt_succ_self _
  ·rw [List.mem_singleton.mp hb]; exact Nat.lt_succ_of_lt hlt
 ·have sh : Sub s.heap h' := fun b o e => kp b o (fun q => Nat.lt_irrefl _ (by rw [List.mem_singleton.mp q] at e; exact Heap.lt_size e)) (Sub.push _ _ e)
  rw [hn, preSum_eq ns _ (Nat.le_refl _), List.take_length]
  exact kk g₁ _ _ (S.step ⟨_, _, rfl⟩ sh) Sub.refl sh Rd.int
noncomputable def RgP (n : Nat) : Heap → Value → Prop := fun h v => ∃ r t u w, v = .ref r ∧ IsRange h r 0 n 1 t u w
theorem gv_range {f e : Expr} {n : Nat} (hf : Does c (eval f c.env) (fun _ v => v = .type "range") g) (h : Does c (eval e c.env) (RdP (.int (n : Nat))) g)
  (he : eval (.Call f [e] [] pos) c.env = (do callWith pos (← eval f c.env) [] (backTo pos (starEach [e] c.env)) (backToKw pos (keywordEach [] c.env))) := by rfl)
  (hs : starEach [e] c.env = (false, eval e c.env) :: starEach [] c.env := by rfl) : Does c (eval (.Call f [e] [] pos) c.env) (RgP n) g :=
 gv_call_t hf (ar_d h ar_nil hs) (fun g₁ vs _ r => fun g₂ s Q E sg S kk => by
  obtain ⟨v, _, rfl, p, rfl⟩ := r
  obtain ⟨t, rfl⟩ := Rd.inv_int p
  refine call_range_1 ?_
  obtain ⟨g', S', sg', e'⟩ := S.new (o := { cls := .type "range", data := .fields #[.int 0 s.toks, .int n t, .int 1 (s.toks + 1)] }) (tk := s.toks + 1 + 1) rfl
  exact kk g' _ _ S' sg' Sub.push ⟨_, _, _, _, rfl, e'⟩) he hs
end
end Mine
namespace Mine
open PySem PySem.W PySem.Calls PySem.Spec PyProof.Rows
noncomputable def stOk (scope : Scope) (S : List Str) : Bool := decide ((cellsFrom 0 scope.names []).map (·.1)).Nodup && S.all fun x => scope.names.lookup x == some .local || scope.names.lookup x == some .cell
noncomputable def bindM (binds : List (Str × Value)) : Str → Option Value := fun y => binds.reverse.lookup y
noncomputable def fnCx (c : Cx) (env : Env) (m : Str → Option Value) (W O : List Addr) (S : List Str) (s₀ : Shared) : Cx := { c with A := c.A.deeper env, env := env, m := m, W := W, O := O, S := S, s₀ := s₀ }
theorem bindL_at {kindOf : Str → Option NameKind} {x : Str} (hx : kindOf x = some .local) : ∀ (binds : List (Str × Value)) (m : Str → Option Value), bindL kindOf binds m x = (binds.reverse.lookup x).or (m x)
 | [], m => by simp [bindL]
 | (n, v) :: r, m => by
  unfold bindL
  rw [bindL_at hx r, List.reverse_cons]
  have la : ∀ (l r : List (Str × Value)), (l ++ r).lookup x = (l.lookup x).or (r.lookup x) := fun l r => by
   induction l with
   | nil => simp
   | cons p l ih =>
    obtain ⟨y, b⟩ := p
    rw [List.cons_append, List.lookup_cons, List.lookup_cons]
    cases x == y with
    | true => simp
    | false => exact ih
  rw [la]
  cases h1 : r.reverse.lookup x with
  | some b => simp
  | none =>
   simp only [Option.none_or]
   by_cases hn : x = n
   ·subst hn; simp [hx, List.lookup_cons]
   ·have hb : (x == n) = false := by simpa using hn
    by_cases hk : kindOf n = some .local
    ·simp [hk, List.lookup_cons, hb, hn]
    ·simp [hk, List.lookup_cons, hb]
theorem bindC_at {kindOf : Str → Option NameKind} {x : Str} (hx : kindOf x ≠ some .local) : ∀ (binds : List (Str × Value)) (m : Str → Option Value), bindC kindOf binds m x = (binds.reverse.lookup x).or (m x)
 | [], m => by simp [bindC]
 | (n, v) :: r, m => by
  unfold bindC
  rw [bindC_at hx r, List.reverse_cons]
  have la : ∀ (l r : List (Str × Value)), (l ++ r).lookup x = (l.lookup x).or (r.lookup x) := fun l r => by
   induction l with
   | nil => simp
   | cons p l ih =>
    obtain ⟨y, b⟩ := p
    rw [List.cons_append, List.lookup_cons, List.lookup_cons]
    cases x == y with
    | true => simp
    | false => exact ih
  rw [la]
  cases h1 : r.reverse.lookup x with
  | some b => simp
  | none =>
   simp only [Option.none_or]
   by_cases hn : x = n
   ·subst hn; simp [hx, List.lookup_cons]
   ·have hb : (x == n) = false := by simpa using hn
    by_cases hk : kindOf n = some .local
    ·simp [hk, List.lookup_cons, hb, hn]
    ·simp [hk, List.lookup_cons, hb, hn]
noncomputable def Gives (c : Cx) (s₀ : Shared) (g : Heap) (P : Heap → Value → Prop) (f : Flow) (s' : Shared) : Prop :=
 ∃ v c' g'', f = .ret v ∧ c'.K = c.K ∧ (∀ a ∈ c.W, a ∈ c'.W) ∧ c'.s₀ = s₀ ∧ St c' g'' s' ∧ Sub g g'' ∧ P g'' v
section
variable {c : Cx} {g : Heap} {k : Nat} {s : Shared}
theorem fn_St {fd : FuncData} {a : Addr} {binds : List (Str × Value)} {S : List Str} {s₁ : Shared} (S₀ : St c g s) (hk : fd.scope.kind = .function) (hS : stOk fd.scope S = true) (hg : fd.globals = mainGlobals) (hb : fd.builtins = builtinsNs)
  (x : InCallC s (callEnvC fd s.heap.objs.size a).locals (bindL (callEnvC fd s.heap.objs.size a).kindOf binds fun _ => none) (callEnvC fd s.heap.objs.size a).cells (bindC (callEnvC fd s.heap.objs.size a).kindOf binds fun _ => none) s₁) :
  St (fnCx c (callEnvC fd s.heap.objs.size a) (bindM binds) (foot (callEnvC fd s.heap.objs.size a) ++ c.W) (foot (callEnvC fd s.heap.objs.size a)) S s) g s₁ := by
 have hk2 := Bool.and_eq_true_iff.mp hS
 have hnd : ((cellsFrom 0 fd.scope.names []).map (·.1)).Nodup := of_decide_eq_true hk2.1
 obtain ⟨h₁, tk, rfl, keep⟩ := x.done
 have keep' : Sub s.heap h₁ := keep
 have Lsz : (callEnvC fd s.heap.objs.size a).locals = s.heap.objs.size := rfl
 have cellGe : ∀ p ∈ (callEnvC fd s.heap.objs.size a).cells, s.heap.objs.size < p.2 := fun p hp => x.above p.1 p.2 hp
 have footGe : ∀ b ∈ foot (callEnvC fd s.heap.objs.size a), s.heap.objs.size ≤ b := fun b hb => by
  rcases List.mem_cons.mp hb with rfl | hb
  ·exact Nat.le_refl _
  ·obtain ⟨p, hp, rfl⟩ := List.mem_map.mp hb
   exact Nat.le_of_lt (cellGe p hp)
 have footLive : ∀ b ∈ foot (callEnvC fd s.heap.objs.size a), ∃ o, h₁.get? b = some o := fun b hb => by
  rcases List.mem_cons.mp hb with rfl | hb
  ·obtain ⟨o, _, _, ho, _⟩ := x.toInCall.ns; exact ⟨o, ho⟩
  ·obtain ⟨⟨n, b⟩, hp, rfl⟩ := List.mem_map.mp hb
   obtain ⟨o, ho, _⟩ := x.cell n b (lookup_of_mem_nodup (cellsFrom_names fd.scope.names 0 (s.heap.objs.size + 1) [] [] rfl ▸ hnd) hp)
   exact ⟨o, ho⟩
 refine ⟨⟨_, _, rfl⟩, keep', ⟨S₀.fz.sub.trans keep', fun b m => ?_⟩, fun b m => ?_, S₀.gl, ⟨hk, ⟨_, x.toInCall.ns, fun y hy => ?_⟩, fun y hy b l => ?_, fun p hp => Nat.ne_of_gt (cellGe p hp)⟩, fun b m => List.mem_append_left _ m, fun b m => ⟨List.mem_append_left _ m, none_of_ge (footGe b m)⟩, .head _, fun y hy => ?_, hg, hb⟩
 ·rcases List.mem_append.mp m with m | m
  ·exact Sub.none S₀.fz.sub (none_of_ge (footGe b m))
  ·exact S₀.fz.off b m
 ·rcases List.mem_append.mp m with m | m
  ·exact footLive b m
  ·obtain ⟨o, e⟩ := S₀.live b m
   exact ⟨o, keep _ _ e⟩
 ·show bindL (callEnvC fd s.heap.objs.size a).kindOf binds (fun x => none) y = binds.reverse.lookup y
  exact (bindL_at (kindOf := (callEnvC fd s.heap.objs.size a).kindOf) hy binds _).trans (by simp)
 ·have hn : (callEnvC fd s.heap.objs.size a).kindOf y ≠ some .local := fun q => by
   rw [show (fnCx c (callEnvC fd s.heap.objs.size a) (bindM binds) (foot (callEnvC fd s.heap.objs.size a) ++ c.W) (foot (callEnvC fd s.heap.objs.size a)) S s).env = callEnvC fd s.heap.objs.size a from rfl, q] at hy
   rcases hy with h | h <;> cases h
  have := x.cell y b l
  rw [bindC_at hn] at this
  show h₁.IsCell b (binds.reverse.lookup y)
  simpa using this
 ·have t := List.all_eq_true.mp hk2.2 y hy
  simp only [Bool.or_eq_true, beq_iff_eq] at t
  rcases t with t | t
  ·refine ⟨?_, fun b l => ⟨.tail _ (List.mem_map.mpr ⟨(y, b), PySem.mem_of_lookup l, rfl⟩), fun z lz => name_of_addr x.apart (PySem.mem_of_lookup lz) (PySem.mem_of_lookup l)⟩⟩
   show canStore (callEnvC fd s.heap.objs.size a) y = true
   unfold canStore
   rw [show (callEnvC fd s.heap.objs.size a).kindOf y = some .local from t]
  ·refine ⟨?_, fun b l => ⟨.tail _ (List.mem_map.mpr ⟨(y, b), PySem.mem_of_lookup l, rfl⟩), fun z lz => name_of_addr x.apart (PySem.mem_of_lookup lz) (PySem.mem_of_lookup l)⟩⟩
   show canStore (callEnvC fd s.heap.objs.size a) y = true
   unfold canStore
   rw [show (callEnvC fd s.heap.objs.size a).kindOf y = some .cell from t]
   obtain ⟨b, hb⟩ := cellsFrom_has fd.scope.names (s.heap.objs.size + 1) (PySem.mem_of_lookup t)
   show ((callEnvC fd s.heap.objs.size a).cells.lookup y).isSome = true
   rw [show (callEnvC fd s.heap.objs.size a).cells.lookup y = some b from hb]; rfl
noncomputable def parOk (scope : Scope) (ns : List Str) : Bool := ns.all fun x => scope.names.lookup x == some .local || scope.names.lookup x == some .cell
theorem call_def {a : Addr} {o : Obj} {fd : FuncData} {body : List Stmt} {vals : List Value} {binds : List (Str × Value)} {P : Heap → Value → Prop} {K : Frag} (S : List Str) (hK : c.K = K) (hA : AOk (k + 1) c.A)
  (ho : K.lookup a = some o) (hd : o.data = .func fd) (hcd : codeIn K fd.code fd.qualname = true) (hbody : fd.body = .stmts body) (hbind : bindArgs fd ⟨vals, []⟩ = pure binds) (hclo : fd.closure = [])
  (hg : fd.globals = mainGlobals) (hb : fd.builtins = builtinsNs) (hk : fd.scope.kind = .function) (hS : stOk fd.scope S = true) (hp : parOk fd.scope (binds.map (·.1)) = true) (hco : fd.scope.isCoroutine = false) (hgen : fd.scope.isGenerator = false)
  (h : ∀ L W O s₀ g' s', (∀ b ∈ c.W, b ∈ W) → Sub g g' → St (fnCx c (callEnvC fd L a) (bindM binds) W O S s₀) g' s' →
   wpAny (model PG c.w) (c.A.deeper (callEnvC fd L a)) (execs body (callEnvC fd L a)) (fun f s'' => Gives (fnCx c (callEnvC fd L a) (bindM binds) W O S s₀) s₀ g' P f s'') (fun _ _ => False) s') :
  Does c (call (.ref a) vals) P g := fun g₁ s Q E sg S₁ q => by
 subst hK
 have X := S₁.gl.K.keeps S₁.fz.sub
 obtain ⟨_, _, _, _, T⟩ := S₁.gl.top
 refine wpAny_call (codeAny_call_cells hA.room (X _ _ ho) hd (T.nolimit.keeps S₁.fz.sub) (codeRec_of X hcd) hbody hbind hclo (fun y hy => ?_) (fun s₁ x => ?_) hco hgen hk)
 ·have t := List.all_eq_true.mp hp y.1 (List.mem_map.mpr ⟨y, hy, rfl⟩)
  simp only [Bool.or_eq_true, beq_iff_eq] at t
  rcases t with t | t
  ·exact .inl t
  ·obtain ⟨b, hb⟩ := cellsFrom_has fd.scope.names (s.heap.objs.size + 1) (PySem.mem_of_lookup t)
   exact .inr ⟨t, by rw [hb]; rfl⟩
 ·have S₂ := fn_St S₁ hk hS hg hb x
  refine wpAny_mono (h _ _ _ _ g₁ s₁ (fun b m => List.mem_append_right _ m) sg S₂) (fun f s' hf => ?_) fun _ _ e => e.elim
  obtain ⟨v, c', g'', rfl, hK, hW, hs, S₃, sg₃, p⟩ := hf
  exact q g'' s' v (S₁.back S₃ hK (fun b m => hW b (List.mem_append_right _ m)) (by rw [hs]; exact Sm.refl) (by rw [hs]; exact Sub.refl)) sg₃ (by
   have := S₃.kp
   rw [hs] at this
   exact this) p
section
variable {c₀ : Cx} {s₀ : Shared} {g₀ : Heap} {P : Heap → Value → Prop} {E : Value → Shared → Prop} {Q : Flow → Shared → Prop} {pos : Pos} {rest : List Stmt}
theorem St.assign (S : St c g s) {x : Str} {px : Pos} {e : Expr} (hx : x ∈ c.S) (he : Does c (eval e c.env) P g)
  (h : ∀ g' s' v, Sub g g' → P g' v → St { c with m := upd c.m x v } g' s' → wpAny (model PG c.w) c.A (execs rest c.env) Q E s')
  (hs : swapsWith e (some (.Name x px)) pos.line c.env = pure false := by rfl) : wpAny (model PG c.w) c.A (execs (.Assign [.Name x px] e pos :: rest) c.env) Q E s := ex_assign hx he S h hs
theorem St.ret (S : St c g s) {e : Expr} (hK : c.K = c₀.K) (hW : ∀ a ∈ c₀.W, a ∈ c.W) (hs : c.s₀ = s₀) (sg : Sub g₀ g) (he : Does c (eval e c.env) P g) :
  wpAny (model PG c.w) c.A (execs (.Return (some e) pos :: rest) c.env) (fun f s'' => Gives c₀ s₀ g₀ P f s'') E s :=
 ex_return he S fun g' s' v sg' p S' _ => ⟨v, c, g', rfl, hK, hW, hs, S', sg.trans sg', p⟩
end
end
theorem getD_some {l : List Nat} {i : Nat} (h : i < l.length) : l[i]? = some (l.getD i 0) := by rw [List.getD_eq_getElem?_getD, List.getElem?_eq_getElem h]; rfl
theorem getD_some' {α : Type} {l : List α} {d : α} {i : Nat} (h : i < l.length) : l[i]? = some (l.getD i d) := by rw [List.getD_eq_getElem?_getD, List.getElem?_eq_getElem h]; rfl
theorem getD_mem {α : Type} {l : List α} {d : α} {i : Nat} (h : i < l.length) : l.getD i d ∈ l := by rw [List.getD_eq_getElem?_getD, List.getElem?_eq_getElem h]; exact List.getElem_mem h
theorem nc_head {a y : Str} {xs : List Str} (h : (a :: xs).contains y = false) : y ≠ a := fun q => by rw [q, List.contains_cons] at h; simp at h
theorem nc_tail {a y : Str} {xs : List Str} (h : (a :: xs).contains y = false) : xs.contains y = false := by rw [List.contains_cons] at h; exact (Bool.or_eq_false_iff.mp h).2
theorem nc_one {a y : Str} (h : y ≠ a) : [a].contains y = false := by
 rw [List.contains_cons]
 have : (y == a) = false := by simpa using h
 rw [this]; rfl
theorem upd_ne {m : Str → Option Value} {x y : Str} {v : Value} (h : y ≠ x) : upd m x v y = m y := if_neg h
theorem upd_eq {m : Str → Option Value} {x : Str} {v : Value} : upd m x v x = some v := if_pos rfl
noncomputable def fdOf {o : Obj} {fd : FuncData} {l : Option Obj} (_ : l = some o) (_ : o.data = .func fd) : FuncData := fd
noncomputable def objOf {o : Obj} {l : Option Obj} (_ : l = some o) : Obj := o
noncomputable def bodyOf {fd : FuncData} {b : List Stmt} (_ : fd.body = .stmts b) : List Stmt := b
noncomputable abbrev HK (p : Params) : Frag := Top.hd.heap_39 p
noncomputable def fd216 (p : Params) : FuncData := fdOf (l := (HK p).lookup 216) rfl rfl
noncomputable def ob216 (p : Params) : Obj := objOf (l := (HK p).lookup 216) rfl
noncomputable def bd216 (p : Params) : List Stmt := bodyOf (fd := fd216 p) rfl
noncomputable def fd223 (p : Params) : FuncData := fdOf (l := (HK p).lookup 223) rfl rfl
noncomputable def ob223 (p : Params) : Obj := objOf (l := (HK p).lookup 223) rfl
noncomputable def bd223 (p : Params) : List Stmt := bodyOf (fd := fd223 p) rfl
section
variable {c : Cx} {g : Heap} {k : Nat}
theorem Gives.of {c c' : Cx} {s₀ s' : Shared} {g g'' : Heap} {P : Heap → Value → Prop} {v : Value} (hK : c'.K = c.K) (hW : ∀ a ∈ c.W, a ∈ c'.W) (hs : c'.s₀ = s₀) (S : St c' g'' s') (sg : Sub g g'') (p : P g'' v) : Gives c s₀ g P (.ret v) s' := ⟨v, c', g'', rfl, hK, hW, hs, S, sg, p⟩
theorem call_ISTERMINAL {v : Value} {i : Int} (hK : c.K = HK c.w.params) (hA : AOk 1 c.A) (hv : Rd g v (.int i)) : Does c (call (.ref 216) [v]) (RdP (.bool (decide (i < 256)))) g := by
 refine call_def (k := 0) (o := ob216 c.w.params) (fd := fd216 c.w.params) (body := bd216 c.w.params) (binds := [("x", v)]) [] hK hA rfl rfl (by rfl) rfl rfl rfl rfl rfl rfl rfl rfl rfl rfl (fun L W O s₀ g' s' hW sg S => ?_)
 refine ex_return (P := RdP (.bool (decide (i < 256)))) (gv_lt_int (gv_var rfl rfl (hv.mono sg)) (gv_global (v := .int 256 _) rfl (by rw [show (fnCx c _ _ W O [] s₀).K = _ from hK]; rfl) fun _ _ => Rd.int)) S fun g'' s'' v' sg' p S' sh => .of rfl (fun _ h => h) rfl S' sg' p
theorem call_ISEOF {v : Value} {i : Int} (hK : c.K = HK c.w.params) (hA : AOk 1 c.A) (hv : Rd g v (.int i)) : Does c (call (.ref 223) [v]) (RdP (.bool (i == 0))) g := by
 refine call_def (k := 0) (o := ob223 c.w.params) (fd := fd223 c.w.params) (body := bd223 c.w.params) (binds := [("x", v)]) [] hK hA rfl rfl (by rfl) rfl rfl rfl rfl rfl rfl rfl rfl rfl rfl (fun L W O s₀ g' s' hW sg S => ?_)
 refine ex_return (P := RdP (.bool (i == 0))) (gv_compare1 RdP.mono (gv_var rfl rfl (hv.mono sg)) (gv_global (P := RdP (.int 0)) (v := .int 0 _) rfl (by rw [show (fnCx c _ _ W O [] s₀).K = _ from hK]; rfl) fun _ _ => Rd.int) fun g₁ a b _ p q => op_eq_int p q) S fun g'' s'' v' sg' p S' sh => .of rfl (fun _ h => h) rfl S' sg' p
end
noncomputable def fd254 (p : Params) : FuncData := fdOf (l := (HK p).lookup 254) rfl rfl
noncomputable def ob254 (p : Params) : Obj := objOf (l := (HK p).lookup 254) rfl
noncomputable def bd254 (p : Params) : List Stmt := bodyOf (fd := fd254 p) rfl
noncomputable def blank (n : Nat) : Bool := n == 32 || n == 9 || n == 10
noncomputable def solidN (l : List Nat) : List Nat := (List.range l.length).filter fun p => !blank (l.getD p 0)
noncomputable def eqsN (l : List Nat) : List Nat := (solidN l).filter fun p => l.getD p 0 == 61
noncomputable def boundsZ (l : List Nat) : List Int := [-1] ++ (eqsN l).map (fun (n : Nat) => (n : Int)) ++ [(l.length : Int)]
noncomputable def spanN (l : List Nat) (i : Nat) : List Nat := (solidN l).filter fun p => decide ((boundsZ l).getD i 0 < (p : Int)) && decide ((p : Int) < (boundsZ l).getD (i + 1) 0)
noncomputable def spansN (l : List Nat) : List (List Nat) := (List.range ((boundsZ l).length - 1)).map (spanN l)
noncomputable def natD (n : Nat) : PyData := .int (n : Int)
noncomputable def natsD (ns : List Nat) : PyData := .list (ns.map natD)
theorem blank_mem (n : Nat) : decide (n ∈ (" \t\n" : Str).cps.toList) = blank n := by
 have : (" \t\n" : Str).cps.toList = [32, 9, 10] := by decide
 rw [this]
 unfold blank
 rw [Bool.eq_iff_iff]
 simp [or_assoc]
theorem filter_range_getD {α : Type} (f : α → Bool) (d : α) (xs : List α) : ((List.range xs.length).filter fun i => f (xs.getD i d)).map (fun i => xs.getD i d) = xs.filter f := by
 induction xs with
 | nil => rfl
 | cons x xs ih =>
  rw [List.length_cons, List.range_succ_eq_map, List.filter_cons]
  have e : (List.filter (fun i => f ((x :: xs).getD i d)) (List.map Nat.succ (List.range xs.length))).map (fun i => (x :: xs).getD i d) = xs.filter f := by
   rw [List.filter_map, List.map_map, ← ih]
   rfl
  rw [show (x :: xs).getD 0 d = x from rfl]
  by_cases hf : f x = true
  ·rw [if_pos hf, List.filter_cons_of_pos hf, List.map_cons, e]; rfl
  ·rw [if_neg hf, List.filter_cons_of_neg hf, e]
theorem outs_list {α : Type} (f : α → Bool) (h : α → PyData) (d : α) (xs : List α) : outs xs.length (fun i => f (xs.getD i d)) (fun i => h (xs.getD i d)) = (xs.filter f).map h := by
 unfold outs
 rw [← filter_range_getD f d xs, List.map_map]
 rfl
section
variable {c : Cx} {g : Heap} {k : Nat}
theorem inC_free {scope : Scope} {T : List Str} {c' : Cx} {y : Str} {v : Value} (h : InC c scope T c') (h1 : T.contains y = false) (h2 : (freeKeys scope).contains y = true) (e : c.m y = some v) : c'.m y = some v := by
 rw [h.free y h1]; unfold compM; rw [h2]; exact e
theorem it_listN {tg : Expr} {v : Value} {ds : List PyData} {n : Nat} (hA : AOk k c.A) (h : Rd g v (.list ds)) (hn : ds.length = n) : DoesIt c tg (pyIter v) n (VD ds) g := hn ▸ it_list hA h
theorem vd_at {α : Type} {h : α → PyData} {xs : List α} {d : α} {i : Nat} {g : Heap} {v : Value} (x : VD (xs.map h) i g v) : i < xs.length ∧ Rd g v (h (xs.getD i d)) := by
 obtain ⟨e, he, r⟩ := x
 rw [List.getElem?_map] at he
 cases hx : xs[i]? with
 | none => rw [hx] at he; cases he
 | some a =>
  rw [hx] at he; cases he
  exact ⟨(List.getElem?_eq_some_iff.mp hx).1, by rw [getD_of hx]; exact r⟩
theorem gv_bi {p : Params} {x : Str} {pos : Pos} {v : Value} (hk : c.env.kindOf x = some .globalImplicit) (hK : c.K = HK p) (e : nsIn (HK p) mainGlobals x = some none) (hb : bootBuiltins x = some v) (hn : x ≠ "__name__") (hd : (x == ("__debug__" : Str)) = false := by decide) : Does c (eval (.Name x pos) c.env) (fun _ u => u = v) g :=
 gv_builtin hk (hK ▸ e) hb hn (fun _ _ => rfl) hd
theorem spans_body {v : Value} {x : Str} {L : Addr} {W O : List Addr} {s₀ s : Shared} {g' : Heap} (hK : c.K = HK c.w.params) (hA : AOk 4 c.A) (hz : x.length + 2 ≤ sizeLine) (hv : Rd g' v (.str x))
  (S : St (fnCx c (callEnvC (fd254 c.w.params) L 254) (bindM [("line", v)]) W O ["solid", "bounds"] s₀) g' s) :
  wpAny (model PG c.w) (c.A.deeper (callEnvC (fd254 c.w.params) L 254)) (execs (bd254 c.w.params) (callEnvC (fd254 c.w.params) L 254))
   (fun f s'' => Gives (fnCx c (callEnvC (fd254 c.w.params) L 254) (bindM [("line", v)]) W O ["solid", "bounds"] s₀) s₀ g' (RdP (.list ((spansN x.cps.toList).map natsD))) f s'') (fun _ _ => False) s := by
 have hlen : x.cps.toList.length = x.length := by simp [Str.length]
 have hA' : AOk 3 (c.A.deeper (callEnvC (fd254 c.w.params) L 254)) := AOk.deeper (n := 3) hA
 have hSol : (solidN x.cps.toList).length ≤ x.length := by
  rw [← hlen]; exact Nat.le_trans (List.length_filter_le _ _) (by simp)
 have hEqs : (eqsN x.cps.toList).length ≤ x.length := Nat.le_trans (List.length_filter_le _ _) hSol
 have hBou : (boundsZ x.cps.toList).length = (eqsN x.cps.toList).length + 2 := by simp [boundsZ]
 have hLt : ∀ p ∈ solidN x.cps.toList, p < x.cps.toList.length := fun p hp => List.mem_range.mp (List.mem_filter.mp hp).1
 have hzx : x.length ≤ sizeLine := Nat.le_trans (Nat.le_add_right _ 2) hz
 have hsz := Nat.le_trans hSol hzx
 have hbz : (boundsZ x.cps.toList).length ≤ sizeLine := by rw [hBou]; exact Nat.le_trans (Nat.add_le_add_right hEqs 2) hz
 have hz' := hz
 rw [sizeLine_eq] at hz
 refine S.assign (.head _) (gv_listcomp (n := x.length) ["p"] (fun i => !blank (x.cps.toList.getD i 0)) natD rfl rfl
  (gv_range (gv_bi rfl hK rfl (by rfl) (by decide)) (gv_len_str hzx (gv_bi rfl hK rfl (by rfl) (by decide)) (gv_var rfl rfl hv)))
  (fun g' y sg p => it_range hA' (by omega) p) hzx at_name fun i gB c' hi sg inC tg => ?_) fun g₁ s₁ v₁ sg₁ p₁ S₁ => ?_
 ·obtain ⟨v', e', t', rfl⟩ := tg
  have hline : c'.m "line" = some v := inC_free inC rfl rfl rfl
  obtain ⟨⟨C, W', O', s', m, rfl⟩, _, _, _⟩ := inC
  have hi' : i < x.cps.toList.length := by rw [hlen]; exact hi
  refine ⟨tl_one (ts_compare1 (P₁ := RdP (.str ⟨#[x.cps.toList.getD i 0]⟩)) (P₂ := RdP (.str " \t\n")) RdP.mono (gv_str_item hzx (getD_some hi') (gv_var rfl hline (hv.mono sg)) (gv_var rfl e' Rd.int)) gv_str fun g₁ a b _ p q => ?_), fun _ => gv_var rfl e' Rd.int⟩
  rw [← blank_mem]
  exact op_notIn_str p q
 have p₁' : Rd g₁ v₁ (.list ((solidN x.cps.toList).map natD)) := by rw [← hlen] at p₁; exact p₁
 clear p₁
 refine S₁.assign (.tail _ (.head _))
  (gv_add_list (ds := [.int (-1)] ++ (eqsN x.cps.toList).map natD) (es := [.int (x.length : Nat)]) (by simp; omega)
   (gv_add_list (ds := [.int (-1)]) (es := (eqsN x.cps.toList).map natD) (by simp; omega) (gv_list (ds := [.int (-1)]) (ar_d (gv_neg gv_int) ar_nil) (by simp; omega)) ?_)
   (gv_list (ds := [.int (x.length : Nat)]) (ar_d (gv_len_str hzx (gv_bi rfl hK rfl (by rfl) (by decide)) (gv_var rfl rfl (hv.mono sg₁))) ar_nil) (by simp; omega))) fun g₂ s₂ v₂ sg₂ p₂ S₂ => ?_
 ·have key := outs_list (fun p => x.cps.toList.getD p 0 == 61) natD 0 (solidN x.cps.toList)
  rw [show (eqsN x.cps.toList).map natD = _ from key.symm]
  refine gv_listcomp ["p"] _ _ rfl rfl (gv_var rfl rfl p₁') (fun g' y sg p => it_listN hA' p (List.length_map ..)) hsz at_name fun i gB c' hi sg inC tg => ?_
  obtain ⟨v', e', tv⟩ := tg
  obtain ⟨_, rv⟩ := vd_at (d := 0) tv
  have hline : c'.m "line" = some v := inC_free inC rfl rfl rfl
  obtain ⟨⟨C, W', O', s', m, rfl⟩, _, _, _⟩ := inC
  have hi' : (solidN x.cps.toList).getD i 0 < x.cps.toList.length := hLt _ (by rw [List.getD_eq_getElem?_getD, List.getElem?_eq_getElem hi]; exact List.getElem_mem hi)
  refine ⟨tl_one (ts_compare1 (P₁ := RdP (.str ⟨#[x.cps.toList.getD ((solidN x.cps.toList).getD i 0) 0]⟩)) (P₂ := RdP (.str "=")) RdP.mono (gv_str_item hzx (getD_some hi') (gv_var rfl hline ((hv.mono sg₁).mono sg)) (gv_var rfl e' rv)) gv_str fun g₁ a b _ p q => ?_), fun _ => gv_var rfl e' rv⟩
  have e3 : ((⟨#[x.cps.toList.getD ((solidN x.cps.toList).getD i 0) 0]⟩ : Str) == "=") = (x.cps.toList.getD ((solidN x.cps.toList).getD i 0) 0 == 61) := by
   rw [Bool.eq_iff_iff, beq_iff_eq, beq_iff_eq]
   constructor
   ·intro h
    have := congrArg (fun s : Str => s.cps.toList) h
    have h2 : ("=" : Str).cps.toList = [61] := by decide
    rw [h2] at this
    simpa using this
   ·intro h
    rw [h]; decide
  refine Does.imp (op_eq_str p q) fun g' v _ r => ?_
  unfold RdP at r
  rw [e3] at r
  exact r
 have p₂' : Rd g₂ v₂ (.list ((boundsZ x.cps.toList).map .int)) := by
  have : (boundsZ x.cps.toList).map PyData.int = [.int (-1)] ++ (eqsN x.cps.toList).map natD ++ [.int (x.length : Nat)] := by
   unfold boundsZ
   rw [List.map_append, List.map_append, hlen, List.map_map]
   rfl
  rw [this]; exact p₂
 clear p₂
 refine S₂.ret rfl (fun _ h => h) rfl (sg₁.trans sg₂) ?_
 have hn : ((boundsZ x.cps.toList).map PyData.int).length = (boundsZ x.cps.toList).length := List.length_map ..
 have key : (spansN x.cps.toList).map natsD = outs ((boundsZ x.cps.toList).length - 1) (fun _ => true) (fun i => natsD (spanN x.cps.toList i)) := by
  unfold outs spansN
  rw [List.filter_eq_self.mpr (fun _ _ => rfl), List.map_map]
  rfl
 rw [key]
 refine gv_listcomp ["i"] _ _ rfl rfl (gv_range (n := (boundsZ x.cps.toList).length - 1) (gv_bi rfl hK rfl (by rfl) (by decide)) ?_)
  (fun g' y sg p => it_range hA' (by omega) p) (Nat.le_trans (Nat.sub_le _ _) hbz) at_name fun i gB c' hi sg inC tg => ?_
 ·have : (((boundsZ x.cps.toList).length - 1 : Nat) : Int) = ((((boundsZ x.cps.toList).map PyData.int).length : Nat) : Int) - 1 := by rw [hn]; omega
  rw [this]
  exact gv_sub_int (gv_len_list (by omega) (gv_bi rfl hK rfl (by rfl) (by decide)) (gv_var rfl rfl p₂')) gv_int
 ·refine ⟨tl_nil, fun _ => ?_⟩
  obtain ⟨v', e', t', rfl⟩ := tg
  have hsol : c'.m "solid" = some v₁ := inC_free inC rfl rfl rfl
  have hbou : c'.m "bounds" = some v₂ := inC_free inC rfl rfl rfl
  have hAA := inC.AA
  obtain ⟨⟨C, W', O', s', m, rfl⟩, _, _, _⟩ := inC
  have key2 := outs_list (fun (p : Nat) => decide ((boundsZ x.cps.toList).getD i 0 < (p : Int)) && decide ((p : Int) < (boundsZ x.cps.toList).getD (i + 1) 0)) natD 0 (solidN x.cps.toList)
  unfold natsD spanN
  rw [← key2]
  refine gv_listcomp ["p"] _ _ rfl rfl (gv_var rfl hsol (p₁'.mono (sg₂.trans sg))) (fun g' y sg p => it_listN hA' p (List.length_map ..)) hsz at_name fun j gC c'' hj sg' inC' tg' => ?_
  obtain ⟨u, eu, tu⟩ := tg'
  obtain ⟨_, ru⟩ := vd_at (d := 0) tu
  have hi2 : c''.m "i" = some _ := inC_free inC' rfl rfl e'
  have hb2 : c''.m "bounds" = some v₂ := inC_free inC' rfl rfl hbou
  obtain ⟨⟨C2, W2, O2, s2, m2, rfl⟩, _, _, _⟩ := inC'
  have rb : Rd gC v₂ (.list ((boundsZ x.cps.toList).map .int)) := p₂'.mono (sg.trans sg')
  have at' : ∀ q, q < (boundsZ x.cps.toList).length → ((boundsZ x.cps.toList).map PyData.int)[q]? = some (.int ((boundsZ x.cps.toList).getD q 0)) := fun q hq => by
   rw [List.getElem?_map, getD_some' (d := 0) hq]; rfl
  have hi1 : i + 1 < (boundsZ x.cps.toList).length := Nat.add_lt_of_lt_sub hi
  have hbl : ((boundsZ x.cps.toList).map PyData.int).length ≤ sizeLine := hn ▸ hbz
  rw [← Bool.decide_and]
  refine ⟨tl_one (ts_chain_lt (gv_list_item (j := i) hbl (at' i (Nat.lt_of_succ_lt hi1)) (gv_var rfl hb2 rb) (gv_var rfl hi2 Rd.int)) (gv_var rfl eu ru) fun _ => gv_list_item (j := i + 1) hbl (at' (i + 1) hi1) (gv_var rfl hb2 rb) (gv_add_int (gv_var rfl hi2 Rd.int) gv_int)), fun _ => gv_var rfl eu ru⟩
theorem call_spans {v : Value} {x : Str} (hK : c.K = HK c.w.params) (hA : AOk 4 c.A) (hz : x.length + 2 ≤ sizeLine) (hv : Rd g v (.str x)) : Does c (call (.ref 254) [v]) (RdP (.list ((spansN x.cps.toList).map natsD))) g :=
 call_def (k := 3) (o := ob254 c.w.params) (fd := fd254 c.w.params) (body := bd254 c.w.params) (binds := [("line", v)]) ["solid", "bounds"] hK hA rfl rfl (by rfl) rfl rfl rfl rfl rfl rfl rfl rfl rfl rfl fun L W O s₀ g' s' hW sg S => spans_body hK hA hz (hv.mono sg) S
end
noncomputable def Keep (T : List Str) (m m' : Str → Option Value) : Prop := ∀ y, T.contains y = false → m' y = m y
section
variable {c : Cx} {g : Heap} {s : Shared} {k : Nat} {pos : Pos} {rest : List Stmt} {E : Value → Shared → Prop} {Q : Flow → Shared → Prop} {D : Addr} {kvs : List (Str × PyData)}
theorem Sm.between {a b d : Shared} (x : Sm a b) (y : Sm a d) : Sm b d := by
 obtain ⟨h, t, rfl⟩ := x
 obtain ⟨h', t', rfl⟩ := y
 exact ⟨h', t', rfl⟩
theorem St.newOwn (S : St c g s) {o : Obj} {tk : Nat} (hf : o.isFreed = false) : St { c with W := s.heap.objs.size :: c.W, O := s.heap.objs.size :: c.O } g { s with heap := s.heap.push o, toks := tk } := by
 have S' : St c g { s with heap := s.heap.push o, toks := tk } := S.step ⟨_, _, rfl⟩ Sub.push
 refine ⟨S'.sm, S'.kp, ⟨S'.fz.sub, fun a m => ?_⟩, fun a m => ?_, S'.gl, S'.vars, fun a m => .tail _ (S'.inW a m), fun a m => ?_, .tail _ S'.loc, fun x hx => ⟨(S'.sto x hx).1, fun a l => ⟨.tail _ ((S'.sto x hx).2 a l).1, ((S'.sto x hx).2 a l).2⟩⟩, S'.eg, S'.eb⟩
 ·rcases List.mem_cons.mp m with rfl | m
  ·exact off_size S
  ·exact S.fz.off a m
 ·rcases List.mem_cons.mp m with rfl | m
  ·exact ⟨_, Heap.get?_push_size _ hf⟩
  ·exact S'.live a m
 ·rcases List.mem_cons.mp m with rfl | m
  ·exact ⟨.head _, Sub.none S.kp (none_of_ge (Nat.le_refl _))⟩
  ·exact ⟨.tail _ (S'.own a m).1, (S'.own a m).2⟩
theorem St.size_foot (S : St c g s) : s.heap.objs.size ∉ foot c.env := fun m => Nat.lt_irrefl _ (S.lt (S.inW _ m))
noncomputable def still (c : Cx) (D : Addr) : Cx := { c with W := c.W.filter (fun a => decide (a ≠ D)), O := c.O.filter (fun a => decide (a ≠ D)) }
theorem St.toStill (S : St c g s) (hD : D ∉ foot c.env) : St (still c D) (hideAll s.heap (still c D).W) s ∧ Sub g (hideAll s.heap (Mine.still c D).W) := by
 have sub : ∀ a, a ∈ (Mine.still c D).W → a ∈ c.W := fun a m => (List.mem_filter.mp m).1
 have mem : ∀ {l : List Addr} {a : Addr}, a ≠ D → a ∈ l → a ∈ l.filter (fun a => decide (a ≠ D)) := fun h m => List.mem_filter.mpr ⟨m, by simpa using h⟩
 have S₁ : St (Mine.still c D) g s := ⟨S.sm, S.kp, ⟨S.fz.sub, fun a m => S.fz.off a (sub a m)⟩, fun a m => S.live a (sub a m), S.gl, S.vars, fun a m => mem (fun q => hD (q ▸ m)) (S.inW a m),
  fun a m => by
   obtain ⟨m1, m2⟩ := List.mem_filter.mp m
   exact ⟨mem (by simpa using m2) (S.own a m1).1, (S.own a m1).2⟩, mem (fun q => hD (q ▸ .head _)) S.loc,
  fun x hx => ⟨(S.sto x hx).1, fun a l => ⟨mem (fun q => hD (q ▸ .tail _ (List.mem_map.mpr ⟨(x, a), PySem.mem_of_lookup l, rfl⟩))) ((S.sto x hx).2 a l).1, ((S.sto x hx).2 a l).2⟩⟩, S.eg, S.eb⟩
 exact ⟨S₁.grow.1, S₁.grow.2⟩
theorem still_get (o : Obj) (e : s.heap.get? D = some o) : (hideAll s.heap (still c D).W).get? D = some o := hideAll_get _ e fun m => by
 have := (List.mem_filter.mp m).2
 simp at this
theorem AccD.toStill (S : St c g s) (hD : D ∉ foot c.env) (ac : AccD c.w kvs D g s.heap) : DcP c.w kvs (hideAll s.heap (still c D).W) (.ref D) :=
 AccD.res _ _ _ _ ac (S.toStill hD).2 fun o e => still_get o e
theorem St.ifStill (S : St c g s) {t : Expr} {b o : List Stmt} {x : Bool} (hD : D ∉ foot c.env) (ht : Tst (still c D) t x (hideAll s.heap (still c D).W))
  (h : ∀ s', St c g s' → Sub s.heap s'.heap → wpAny (model PG c.w) c.A (if x = true then execs b c.env else execs o c.env) (fun f s' => match f with | .next => wpAny (model PG c.w) c.A (execs rest c.env) Q E s' | f => Q f s') E s') :
  wpAny (model PG c.w) c.A (execs (.If t b o pos :: rest) c.env) Q E s :=
 ex_if (c := Mine.still c D) ht (S.toStill hD).1 fun g' s' sg S' sh => h s' (S.step (Sm.between S.sm S'.sm) sh) sh
theorem St.assignDict (S : St c g s) {x : Str} {px pd : Pos} (hx : x ∈ c.S)
  (h : ∀ D s', St { c with m := upd c.m x (.ref D), W := D :: c.W, O := D :: c.O } g s' → AccD c.w [] D g s'.heap → D ∉ foot c.env → D ∉ c.W → wpAny (model PG c.w) c.A (execs rest c.env) Q E s') : wpAny (model PG c.w) c.A (execs (.Assign [.Name x px] (.Dict [] [] pd) pos :: rest) c.env) Q E s := by
 refine wpAny_execs_cons (wpAny_Assign_Name (wpAny_Dict_empty ?_) rfl)
 have S' := S.newOwn (o := { cls := .type "dict", data := .dict #[] }) (tk := s.toks) rfl
 have hf := S.size_foot
 refine st_store (c := { c with W := s.heap.objs.size :: c.W, O := s.heap.objs.size :: c.O }) S' hx fun s₂ S₂ b => h s.heap.objs.size s₂ S₂ ⟨S.gt3, [], ⟨_, #[], 0, b.keep hf (Heap.get?_push_size _ rfl), ⟨rfl, rfl, rfl⟩, rfl, fun _ h => by simp at h, .nil, List.nodup_nil⟩, .nil⟩ hf fun m => Nat.lt_irrefl _ (S.lt m)
theorem wp_get {x : Str} {px apos : Pos} {e₁ e₂ : Expr} {key : Str} {d : PyData} {Q : Value → Shared → Prop} (S : St c g s) (hx : hasVar c.env x = true) (hm : c.m x = some (.ref D)) (ac : AccD c.w kvs D g s.heap)
  (h1 : Does c (eval e₁ c.env) (RdP (.str key)) g) (h2 : Does c (eval e₂ c.env) (RdP d) g) (h : ∀ g' s' v, St c g' s' → Sub g g' → Sub s.heap s'.heap → Rd g' v ((at? kvs key).getD d) → Q v s') (hd : (x == ("__debug__" : Str)) = false := by decide)
  (hbase : attributeBase (.Name x px) "get" c.env (eval (.Name x px) c.env) = eval (.Name x px) c.env := by rfl)
  (hfew : ((backTo pos (starEach [e₁, e₂] c.env)).all (fun x => !x.1) && (backToKw pos (keywordEach [] c.env)).all (fun x => x.1.isSome) && decide (([e₁, e₂] : List Expr).length + ([] : List Keyword).length + (if ([] : List Keyword).isEmpty then 0 else 1) < 30)) = true := by rfl)
  (hline : (apos.endLine == pos.line) = true := by rfl) (hs : starEach [e₁, e₂] c.env = (false, eval e₁ c.env) :: starEach [e₂] c.env := by rfl) (hs2 : starEach [e₂] c.env = (false, eval e₂ c.env) :: starEach [] c.env := by rfl) (hp : (backTo pos (starEach [e₂] c.env)).any (·.1) = false := by rfl) :
  wpAny (model PG c.w) c.A (eval (.Call (.Attribute (.Name x px) "get" apos) [e₁, e₂] [] pos) c.env) Q E s := by
 obtain ⟨h3, xs, hl, rl⟩ := ac
 refine wpAny_Call_method hbase hfew hline PySem.F.plainAttrs_dict PySem.F.slot_dict_get PySem.F.type_dict_get (wpAny_Name (load_var S.vars hx hm ⟨hl.typeIs, fun b hb => hl.mapOf.noDict b hb, callWith_method1 ?_ hs hp⟩) hd)
 refine (ar_d h1 (ar_d h2 ar_nil hs2) hs : DoesA c pos [e₁, e₂] _ g) g s _ E Sub.refl S fun g₃ s₃ vs S₃ sg₃ sh₃ q => ?_
 obtain ⟨u, _, rfl, pu, v2, _, rfl, p2, rfl⟩ := q
 obtain ⟨t, rfl⟩ := Rd.inv_str pu
 have D' := hl.keep sh₃
 refine call_meetsIn PySem.F.slot_dict_get D'.typeIs PySem.F.entry_dict_get (PySem.F.args_dict_get_3 _ _ _) (meets_dict_get_default (strKind PG c.w) D (strKind_is PG c.w key t) (sysNe h3) v2) ⟨_, D'.mapOf, h g₃ _ _ S₃.toks sg₃ sh₃ ?_⟩
 cases e : at? kvs key with
 | none => rw [rl.not e]; exact p2
 | some d => obtain ⟨v, h, rv⟩ := rl.is e; rw [h]; exact rv.mono sg₃
theorem St.setDict (S : St c g s) {x : Str} {px p' : Pos} {i value : Expr} {key : Str} {d : PyData} (hDO : D ∈ c.O) (hDf : D ∉ foot c.env) (hx : hasVar c.env x = true) (hm : c.m x = some (.ref D)) (ac : AccD c.w kvs D g s.heap) (hz : kvs.length ≤ sizeLine)
  (hv : ∀ (Q : Value → Shared → Prop), (∀ g' s' v, St c g' s' → Sub g g' → Sub s.heap s'.heap → Rd g' v d → Q v s') → wpAny (model PG c.w) c.A (eval value c.env) Q E s) (hk : Does c (eval i c.env) (RdP (.str key)) g)
  (h : ∀ g' s', St c g' s' → Sub g g' → AccD c.w (put kvs key d) D g' s'.heap → wpAny (model PG c.w) c.A (execs rest c.env) Q E s')
  (hs : swapsWith value (some (.Subscript (.Name x px) i p')) pos.line c.env = pure false := by rfl) (hd : (x == ("__debug__" : Str)) = false := by decide) :
  wpAny (model PG c.w) c.A (execs (.Assign [.Subscript (.Name x px) i p'] value pos :: rest) c.env) Q E s := by
 refine wpAny_execs_cons (wpAny_Assign_Subscript (hv _ fun g₁ s₁ v S₁ sg₁ sh₁ rv => wpAny_Name (load_var S₁.vars hx hm (hk g₁ s₁ _ E sg₁ S₁ fun g₂ s₂ kv S₂ sg₂ sh₂ rk => ?_)) hd) hs)
 obtain ⟨h3, xs, hl, rl⟩ := ac
 obtain ⟨t, rfl⟩ := Rd.inv_str rk
 have hxs : xs.length ≤ sizeLine := by have e1 := rl.length; omega
 refine wpAny_setItem_pairs (hsz := hxs) (strKind_is PG c.w key t) ((hl.keep sh₁).keep sh₂) fun h₇ hl₇ hs₇ => ?_
 obtain ⟨oD, _, _, hoD, _⟩ := id hl₇
 exact h g₂ _ (S₂.turn ⟨_, _, rfl⟩ (.of_same hs₇ hDO hoD) (S₂.vars.at fun a ha o e => hs₇.extBut a o (fun q => hDf (q ▸ ha)) e)) (sg₁.trans sg₂) ⟨h3, _, hl₇, (rl.mono (sg₁.trans sg₂)).put key (rv.mono sg₂)⟩
theorem St.storeName (S : St c g s) {x : Str} {px : Pos} {v : Value} {Q : Unit → Shared → Prop} (hx : x ∈ c.S) (h : ∀ s', St { c with m := upd c.m x v } g s' → But (foot c.env) s.heap s'.heap → Q () s') : wpAny (model PG c.w) c.A (PySem.assign (.Name x px) c.env v) Q E s := as_name S hx h
theorem St.var (S : St c g s) {x : Str} {p : Pos} {v : Value} {d : PyData} (hx : hasVar c.env x = true) (hv : c.m x = some v) (r : Rd g v d) (hd : (x == ("__debug__" : Str)) = false := by decide) : Does c (eval (.Name x p) c.env) (RdP d) g := gv_var hx hv r hd
theorem St.loop (S : St c g s) {P : Heap → Value → Prop} {target iter : Expr} {body : List Stmt} {n : Nat} {V : Nat → Heap → Value → Prop} (hP : Does c (eval iter c.env) P g) (hI : ∀ g' x, Sub g g' → P g' x → DoesIt c target (pyIter x) n V g')
  (Inv : Nat → (Str → Option Value) → Heap → Heap → Prop) (B : (Str → Option Value) → Heap → Heap → Prop) (h0 : Inv 0 c.m g s.heap)
  (stab : ∀ i m g h g' h', Inv i m g h → Sub g g' → (∀ a ∈ c.O, ∀ o, h.get? a = some o → h'.get? a = some o) → Inv i m g' h')
  (turn : ∀ W' s₀' i m g₁ s₁ v, (∀ a ∈ c.W, a ∈ W') → i < n → St { c with m := m, W := W', s₀ := s₀' } g₁ s₁ → Inv i m g₁ s₁.heap → V i g₁ v → Sub g g₁ →
   wpAny (model PG c.w) c.A (PySem.assign target c.env v) (fun _ s₂ => wpAny (model PG c.w) c.A (execs body c.env) (fun f s₃ => match f with
    | .next | .cont => ∃ m' g₂, St { c with m := m', W := W', s₀ := s₀' } g₂ s₃ ∧ Sub g₁ g₂ ∧ Inv (i + 1) m' g₂ s₃.heap
    | .brk => ∃ m' g₂, St { c with m := m', W := W', s₀ := s₀' } g₂ s₃ ∧ Sub g₁ g₂ ∧ B m' g₂ s₃.heap
    | .ret _ => False) (fun _ _ => False) s₂) (fun _ _ => False) s₁)
  (done : ∀ m g' s', St { c with m := m } g' s' → Sub g g' → (Inv n m g' s'.heap ∨ B m g' s'.heap) → wpAny (model PG c.w) c.A (execs rest c.env) Q E s')
  (hs : ∀ x, foldedSetIterable iter c.env x = pure x := by intro _; rfl) :
  wpAny (model PG c.w) c.A (execs (.For target iter body [] pos :: rest) c.env) Q E s := wpAny_execs_cons (wp_for hP hI S Inv B h0 stab turn done hs)
theorem St.retOwn (S : St c g s) {c₀ : Cx} {s₀ : Shared} {g₀ : Heap} {P : Heap → Value → Prop} {x : Str} {p : Pos} (hx : hasVar c.env x = true) (hm : c.m x = some (.ref D)) (hK : c.K = c₀.K) (hW : ∀ a ∈ c₀.W, a ∈ c.W ∧ a ≠ D) (hs : c.s₀ = s₀) (sg : Sub g₀ g) (hDf : D ∉ foot c.env)
  (hP : ∀ g' s', Sub g g' → Sub s.heap s'.heap → Sub g (hideAll s'.heap (still c D).W) → St c g' s' → P (hideAll s'.heap (still c D).W) (.ref D)) (hd : (x == ("__debug__" : Str)) = false := by decide) :
  wpAny (model PG c.w) c.A (execs (.Return (some (.Name x p)) pos :: rest) c.env) (fun f s'' => Gives c₀ s₀ g₀ P f s'') E s :=
 ex_return (P := fun _ v => v = .ref D) (gv_name hx hm (fun _ _ => rfl) hd) S fun g' s' v sg' q S' sh => by
  subst q
  have h2 := (S'.toStill hDf).2
  exact ⟨.ref D, still c D, _, rfl, hK, fun a m => List.mem_filter.mpr ⟨(hW a m).1, by simpa using (hW a m).2⟩, hs, (S'.toStill hDf).1, (sg.trans sg').trans h2, hP g' s' sg' sh (sg'.trans h2) S'⟩
theorem St.run {α : Type} {g₀ : Heap} {t : Sem α} {P : Heap → α → Prop} {Q : α → Shared → Prop} (S : St c g s) (sg : Sub g₀ g) (h : Does c t P g₀) (k : ∀ g' s' v, St c g' s' → Sub g g' → Sub s.heap s'.heap → P g' v → Q v s') : wpAny (model PG c.w) c.A t Q E s := h g s Q E sg S k
end
noncomputable abbrev Row := List (Str × Int)
noncomputable abbrev Book := List (Str × Row)
noncomputable def encP (p : Str × Int) : PyData := .tuple [.str p.1, .int p.2]
noncomputable def encRow (r : Row) : PyData := .list (r.map encP)
noncomputable def encB (b : Book) : List (Str × PyData) := b.map fun kv => (kv.1, encRow kv.2)
theorem at_map {α β : Type} (f : α → β) (b : List (Str × α)) (k : Str) : at? (b.map fun kv => (kv.1, f kv.2)) k = (at? b k).map f := by
 unfold at?
 induction b with
 | nil => rfl
 | cons p b ih =>
  rw [List.map_cons, List.find?_cons, List.find?_cons]
  by_cases h : p.1 = k
  ·simp [h]
  ·simp only [h, decide_false]; exact ih
theorem put_map {α β : Type} (f : α → β) (b : List (Str × α)) (k : Str) (v : α) : put (b.map fun kv => (kv.1, f kv.2)) k (f v) = (put b k v).map fun kv => (kv.1, f kv.2) := by
 unfold put
 have e : (b.map fun kv => (kv.1, f kv.2)).any (fun kv => kv.1 = k) = b.any (fun kv => kv.1 = k) := by
  rw [List.any_map]; rfl
 rw [e]
 split
 ·rw [List.map_map, List.map_map]
  apply List.map_congr_left
  intro kv _
  by_cases h : kv.1 = k <;> simp [h]
 ·simp
theorem at_encB (b : Book) (k : Str) : at? (encB b) k = (at? b k).map encRow := at_map encRow b k
noncomputable def ones (p : Str) : List Str := [p, Txt.rstripChars p "="]
noncomputable def headOf (one : Str) : Str := ⟨#[one.cps.toList.getD 0 0]⟩
noncomputable def dueOk (stop : Int) (num : Str → Int) (i : Nat) (b : Book) (one : Str) : Bool := (one != "") && (decide (0 < num one ∧ num one < 256) && ((decide ((i : Int) < stop) || ((at? b (headOf one)).isSome || false)) && true))
noncomputable def addTo (b : Book) (one : Str) (n : Int) : Book := put b (headOf one) ((at? b (headOf one)).getD [] ++ [(one, n)])
noncomputable def dueStep (stop : Int) (num : Str → Int) (i : Nat) (b : Book) (one : Str) : Book := if dueOk stop num i b one = true then addTo b one (num one) else b
noncomputable def dueTo (puts : List Str) (stop : Int) (num : Str → Int) (n : Nat) : Book := (List.range n).foldl (fun b i => (ones (puts.getD i "")).foldl (dueStep stop num i) b) []
noncomputable def dueB (puts : List Str) (stop : Int) (num : Str → Int) : Book := dueTo puts stop num puts.length
theorem dueTo_succ {puts : List Str} {stop : Int} {num : Str → Int} {n : Nat} : dueTo puts stop num (n + 1) = (ones (puts.getD n "")).foldl (dueStep stop num n) (dueTo puts stop num n) := by
 unfold dueTo; rw [List.range_succ, List.foldl_append]; rfl
noncomputable def Few (b : Book) (n : Nat) : Prop := b.length ≤ n ∧ ∀ kv ∈ b, kv.2.length ≤ n
theorem Few.at {b : Book} {n : Nat} (h : Few b n) (k : Str) : ((at? b k).getD []).length ≤ n := by
 unfold at?
 cases e : b.find? fun kv => kv.1 = k with
 | none => exact Nat.zero_le _
 | some kv => exact h.2 kv (List.mem_of_find?_eq_some e)
theorem Few.add {b : Book} {n : Nat} (h : Few b n) (one : Str) (m : Int) : Few (addTo b one m) (n + 1) := by
 have hl : ((at? b (headOf one)).getD [] ++ [(one, m)]).length ≤ n + 1 := by rw [List.length_append]; exact Nat.succ_le_succ (h.at _)
 unfold addTo put
 split
 ·refine ⟨by rw [List.length_map]; exact Nat.le_succ_of_le h.1, fun kv hm => ?_⟩
  obtain ⟨q, hq, rfl⟩ := List.mem_map.mp hm
  split
  ·exact hl
  ·exact Nat.le_succ_of_le (h.2 q hq)
 ·refine ⟨by rw [List.length_append]; exact Nat.succ_le_succ h.1, fun kv hm => ?_⟩
  rcases List.mem_append.mp hm with hm | hm
  ·exact Nat.le_succ_of_le (h.2 kv hm)
  ·rw [List.mem_singleton.mp hm]; exact hl
theorem Few.step {b : Book} {n : Nat} (h : Few b n) (stop : Int) (num : Str → Int) (i : Nat) (one : Str) : Few (dueStep stop num i b one) (n + 1) := by
 unfold dueStep
 split
 ·exact h.add _ _
 ·exact ⟨Nat.le_succ_of_le h.1, fun kv hm => Nat.le_succ_of_le (h.2 kv hm)⟩
theorem few_due {puts : List Str} {stop : Int} {num : Str → Int} : ∀ n, Few (dueTo puts stop num n) (2 * n)
 | 0 => ⟨Nat.le_refl _, fun kv hm => by cases hm⟩
 | n + 1 => by
  rw [dueTo_succ]
  exact ((few_due n).step stop num n _).step stop num n _
theorem one_pos {one : Str} (h : (one != ("" : Str)) = true) : 0 < one.cps.toList.length := by
 rcases Nat.eq_zero_or_pos one.cps.toList.length with e | e
 ·exfalso
  have : one = "" := by
   obtain ⟨⟨l⟩⟩ := one
   have : l = [] := List.length_eq_zero_iff.mp e
   subst this; rfl
  rw [this] at h
  simp at h
 ·exact e
theorem len_cps (x : Str) : x.cps.toList.length = x.length := by simp [Str.length]
theorem rstrip_len (x y : Str) : (Txt.rstripChars x y).length ≤ x.length := len_rstripChars x y
noncomputable def fd237 (p : Params) : FuncData := fdOf (l := (HK p).lookup 237) rfl rfl
noncomputable def ob237 (p : Params) : Obj := objOf (l := (HK p).lookup 237) rfl
noncomputable def bd237 (p : Params) : List Stmt := bodyOf (fd := fd237 p) rfl
theorem strs_get {puts : List Str} {i : Nat} (h : i < puts.length) : (dStrs puts)[i]? = some (.str (puts.getD i "")) := by
 unfold dStrs
 rw [List.getElem?_map, getD_some' (l := puts) (d := ("" : Str)) h]; rfl
noncomputable def en237 (p : Params) (L : Addr) : Env := callEnvC (fd237 p) L 237
noncomputable def ss237 : List Str := ["due", "i", "one"]
section
variable {c : Cx} {g : Heap} {k : Nat}
theorem gv_head {o i : Expr} {pos : Pos} {one : Str} (h : (one != ("" : Str)) = true) (hz : one.length ≤ sizeLine) (ho : Does c (eval o c.env) (RdP (.str one)) g) (hi : Does c (eval i c.env) (RdP (.int 0)) g)
  (hs : ∀ o j, subscripted i false o j = operate [o, j] (getItem o j) := by intro _ _; with_unfolding_all rfl) : Does c (eval (.Subscript o i pos) c.env) (RdP (.str (headOf one))) g :=
 gv_str_item (j := 0) hz (getD_some (one_pos h)) ho hi hs
theorem due_body {vp vs vo : Value} {bnd : Str → Option Value} (hbnd : bnd = bindM [("puts", vp), ("stop", vs), ("own", vo)]) {puts : List Str} {stop : Int} {okv : List (Str × PyData)} {num : Str → Int} {L : Addr} {W O : List Addr} {s₀ s : Shared} {g' : Heap} (hA : AOk 4 c.A) (hK : c.K = HK c.w.params) (hz : 4 * puts.length + 8 ≤ sizeLine)
  (hlen : ∀ p ∈ puts, p.length ≤ sizeLine) (hnum : ∀ p ∈ puts, ∀ one ∈ ones p, (one != ("" : Str)) = true → at? okv one = some (.int (num one)))
  (hp : Rd g' vp (.list (dStrs puts))) (hs : Rd g' vs (.int stop)) (ho : DcP c.w okv g' vo)
  (S : St (fnCx c (en237 c.w.params L) (bnd) W O ss237 s₀) g' s) :
  wpAny (model PG c.w) (c.A.deeper (en237 c.w.params L)) (execs (bd237 c.w.params) (en237 c.w.params L))
   (fun f s'' => Gives (fnCx c (en237 c.w.params L) (bnd) W O ss237 s₀) s₀ g' (DcP c.w (encB (dueB puts stop num))) f s'') (fun _ _ => False) s := by
 have hA' : AOk 3 (c.A.deeper (en237 c.w.params L)) := AOk.deeper (n := 3) hA
 have b1 : bnd "puts" = some vp := by rw [hbnd]; rfl
 have b2 : bnd "stop" = some vs := by rw [hbnd]; rfl
 have b3 : bnd "own" = some vo := by rw [hbnd]; rfl
 have hlp : (dStrs puts).length = puts.length := List.length_map ..
 have hz' := hz
 rw [sizeLine_eq] at hz
 refine S.assignDict (.head _) fun D s₁ S₁ ac₁ hDf hDW => ?_
 have S₁ : St (fnCx c (en237 c.w.params L) (upd bnd "due" (.ref D)) (D :: W) (D :: O) ss237 s₀) g' s₁ := S₁
 have d1 : upd bnd "due" (.ref D) "puts" = some vp := (upd_ne (by decide)).trans b1
 have d2 : upd bnd "due" (.ref D) "stop" = some vs := (upd_ne (by decide)).trans b2
 have d3 : upd bnd "due" (.ref D) "own" = some vo := (upd_ne (by decide)).trans b3
 have d4 : upd bnd "due" (.ref D) "due" = some (.ref D) := upd_eq
 refine S₁.loop (n := puts.length)
  (gv_range (gv_bi rfl hK rfl (by rfl) (by decide)) (by
   rw [← hlp]
   exact gv_len_list (by rw [sizeLine_eq]; omega) (gv_bi rfl hK rfl (by rfl) (by decide)) (gv_var rfl d1 hp)))
  (fun g' x sg p => it_range hA' (by omega) p)
  (fun i m g h => Keep ["i", "one"] (upd (bnd) "due" (.ref D)) m ∧ AccD c.w (encB (dueTo puts stop num i)) D g h) (fun _ _ _ => False) ⟨fun _ _ => rfl, ac₁⟩
  (fun i m g h g' h' ⟨q, a⟩ s kp => ⟨q, a.stab s (kp D (.head _))⟩) ?_ ?_
 ·intro W₂ s₂' i m g₁ s₂ v hW hi S₂ inv hv sg₁
  obtain ⟨hm, ac⟩ := inv
  obtain ⟨ti, rfl⟩ := hv
  have hpi : puts.getD i "" ∈ puts := by exact getD_mem hi
  have S₂ : St (fnCx c (en237 c.w.params L) m W₂ (D :: O) ss237 s₂') g₁ s₂ := S₂
  refine S₂.storeName (.tail _ (.head _)) fun s₃ S₃ b₃ => ?_
  have S₃ : St (fnCx c (en237 c.w.params L) (upd m "i" (.int i ti)) W₂ (D :: O) ss237 s₂') g₁ s₃ := S₃
  have ac₃ := ac.stab (g' := g₁) (h' := s₃.heap) Sub.refl fun o e => b₃.keep hDf e
  have m1 : Keep ["i", "one"] (upd (bnd) "due" (.ref D)) (upd m "i" (.int i ti)) := fun y hy => by
   rw [← hm y hy]
   exact upd_ne (nc_head hy)
  have hpv := (hp.mono sg₁)
  have item : ∀ {g₂ : Heap} {c' : Cx}, Sub g₁ g₂ → c'.env = en237 c.w.params L → c'.m "puts" = some vp → c'.m "i" = some (.int i ti) → ∀ {e1 e2 : Pos} {p : Pos}, Does c' (eval (.Subscript (.Name "puts" e1) (.Name "i" e2) p) c'.env) (RdP (.str (puts.getD i ""))) g₂ := fun sg he h1 h2 => fun {_ _ _} =>
   gv_list_item (j := i) (by rw [hlp, sizeLine_eq]; omega) (strs_get hi) (gv_var (by rw [he]; rfl) h1 (hpv.mono sg)) (gv_var (by rw [he]; rfl) h2 Rd.int)
  refine S₃.loop (n := 2) (V := VD (dStrs (ones (puts.getD i ""))))
   (gv_list (ds := dStrs (ones (puts.getD i ""))) (ar_d (item Sub.refl rfl ((m1 "puts" rfl).trans d1) rfl) (ar_d (gv_rstrip (hlen _ hpi) (item Sub.refl rfl ((m1 "puts" rfl).trans d1) rfl) gv_str) ar_nil)) (by rw [sizeLine_eq]; show 2 ≤ _; decide)) (fun g' x sg p => it_listN hA' p rfl)
   (fun j m' g h => Keep ["one"] (upd m "i" (.int i ti)) m' ∧ AccD c.w (encB (((ones (puts.getD i "")).take j).foldl (dueStep stop num i) (dueTo puts stop num i))) D g h) (fun _ _ _ => False) ⟨fun _ _ => rfl, ac₃⟩
   (fun j m g h g' h' ⟨q, a⟩ s kp => ⟨q, a.stab s (kp D (.head _))⟩) ?_ ?_
  ·intro W₄ s₄' j m₄ g₄ s₄ u hW₄ hj S₄ inv₄ hu sg₄
   obtain ⟨hm₄, ac₄⟩ := inv₄
   obtain ⟨_, ru⟩ := vd_at (h := PyData.str) (d := "") hu
   have S₄ : St (fnCx c (en237 c.w.params L) m₄ W₄ (D :: O) ss237 s₄') g₄ s₄ := S₄
   refine S₄.storeName (.tail _ (.tail _ (.head _))) fun s₅ S₅ b₅ => ?_
   have S₅ : St (fnCx c (en237 c.w.params L) (upd m₄ "one" u) W₄ (D :: O) ss237 s₄') g₄ s₅ := S₅
   have hm6 : upd m₄ "one" u "one" = some u := upd_eq
   have ac₅ := ac₄.stab (g' := g₄) (h' := s₅.heap) Sub.refl fun o e => b₅.keep hDf e
   generalize hone : (ones (puts.getD i "")).getD j ("" : Str) = one at ru
   have hjl : j < (ones (puts.getD i "")).length := hj
   have hmem : one ∈ ones (puts.getD i "") := by rw [← hone]; exact getD_mem hjl
   have honez : one.length ≤ sizeLine := by
    rcases List.mem_cons.mp hmem with h | h
    ·rw [h]; exact hlen _ hpi
    ·rw [List.mem_singleton.mp h]; exact Nat.le_trans (rstrip_len _ _) (hlen _ hpi)
   have m2 : Keep ["i", "one"] (upd (bnd) "due" (.ref D)) (upd m₄ "one" u) := fun y hy => by
    have h1 : y ≠ ("one" : Str) := nc_head (nc_tail hy)
    rw [← m1 y hy, ← hm₄ y (nc_one h1)]
    exact upd_ne h1
   have hi4 : (upd m₄ "one" u) "i" = some (.int i ti) := by
    rw [upd_ne (by decide), hm₄ "i" rfl]; exact upd_eq
   generalize hb : ((ones (puts.getD i "")).take j).foldl (dueStep stop num i) (dueTo puts stop num i) = b at ac₅
   have next : ((ones (puts.getD i "")).take (j + 1)).foldl (dueStep stop num i) (dueTo puts stop num i) = dueStep stop num i b one := by
    rw [List.take_add_one, List.foldl_append, hb, getD_some' (l := ones (puts.getD i "")) (d := ("" : Str)) hjl, hone]; rfl
   have few : Few b (2 * i + j) := by
    rw [← hb]
    have f0 := few_due (puts := puts) (stop := stop) (num := num) i
    rcases j with _ | _ | j
    ·exact f0
    ·exact f0.step stop num i _
    ·exact absurd hj (by omega)
   have hkv : (encB b).length ≤ sizeLine := by
    rw [show (encB b).length = b.length from List.length_map .., sizeLine_eq]
    have := few.1
    omega
   have hnumOk : (one != "") = true → at? okv one = some (.int (num one)) := hnum _ hpi one hmem
   refine S₅.ifStill (x := dueOk stop num i b one) hDf ?_ fun s₆ S₆ sh₆ => ?_
   ·have sgf := (S₅.toStill hDf).2
    have dc := AccD.toStill S₅ hDf ac₅
    refine ts_bool (ta_and (ts_compare1 RdP.mono (gv_var rfl hm6 (ru.mono sgf)) gv_str fun g₁ a b _ p q => op_ne_str p q) fun h1 => ta_and (ts_chain_lt gv_int (gv_dict_item (hnumOk h1) (gv_name rfl ((m2 "own" rfl).trans d3) fun g' s' => DcP.mono _ _ _ (((sg₁.trans sg₄).trans sgf).trans s') ho) (gv_var rfl hm6 (ru.mono sgf))) fun _ => gv_int)
     fun h2 => ta_and (ts_bool (ta_or (ts_compare1 RdP.mono (gv_var rfl hi4 Rd.int) (gv_var rfl ((m2 "stop" rfl).trans d2) ((hs.mono (sg₁.trans sg₄)).mono sgf)) fun g₁ a b _ p q => op_lt_int p q) fun _ => ta_or (ts_compare1 RdP.mono (gv_head h1 honez (gv_var rfl hm6 (ru.mono sgf)) gv_int) (gv_name (P := fun h v => DcP c.w (encB b) h v) rfl ((m2 "due" rfl).trans d4) fun g' s' => DcP.mono _ _ _ s' dc) fun g₁ a b' _ p q => ?_) fun _ => ta_or_nil)) fun _ => ta_and_nil)
    rw [show (at? b (headOf one)).isSome = (at? (encB b) (headOf one)).isSome by rw [at_encB, Option.isSome_map]]
    exact op_in_dict p q
   ·cases hok : dueOk stop num i b one with
    | false =>
     simp only [hok, Bool.false_eq_true, if_false]
     refine wpAny_execs_nil ?_
     refine wpAny_execs_nil ⟨_, g₄, S₆, Sub.refl, fun y hy => ?_, ?_⟩
     ·exact (upd_ne (nc_head hy)).trans (hm₄ y hy)
     ·rw [next]
      unfold dueStep
      rw [hok]
      exact ac₅.stab Sub.refl fun o e => sh₆ _ _ e
    | true =>
     simp only [hok, if_true]
     have h1 : (one != "") = true := (Bool.and_eq_true_iff.mp hok).1
     have ac₆ := ac₅.stab (g' := g₄) (h' := s₆.heap) Sub.refl fun o e => sh₆ _ _ e
     refine S₆.setDict (key := headOf one) (d := encRow ((at? b (headOf one)).getD [] ++ [(one, num one)])) (.head _) hDf rfl ((m2 "due" rfl).trans d4) ac₆ hkv (fun Q kQ => ?_) (gv_head h1 honez (S₆.var rfl hm6 ru) gv_int) fun g₇ s₇ S₇ sg₇ ac₇ => ?_
     ·refine wpAny_BinOp (wp_get S₆ rfl ((m2 "due" rfl).trans d4) ac₆ (gv_head h1 honez (S₆.var rfl hm6 ru) gv_int) (gv_list (ds := []) ar_nil (by rw [sizeLine_eq]; decide)) fun g₇ s₇ x S₇ sg₇ sh₇ rx => ?_)
      refine S₇.run (P := RdP (.list [encP (one, num one)])) sg₇ (gv_list (ds := [encP (one, num one)]) (ar_d (gv_tuple (ds := [.str one, .int (num one)]) (ar_d (S₆.var rfl hm6 ru) (ar_d (gv_dict_item (hnumOk h1) (gv_name rfl ((m2 "own" rfl).trans d3) fun g' s' => DcP.mono _ _ _ ((sg₁.trans sg₄).trans s') ho) (S₆.var rfl hm6 ru)) ar_nil)) (by rw [sizeLine_eq]; show 2 ≤ _; decide)) ar_nil) (by rw [sizeLine_eq]; show 1 ≤ _; decide)) fun g₈ s₈ y S₈ sg₈ sh₈ ry => ?_
      have rx' : Rd g₇ x (.list (((at? b (headOf one)).getD []).map encP)) := by
       rw [at_encB] at rx
       cases e : at? b (headOf one) with
       | none => rw [e] at rx; exact rx
       | some r => rw [e] at rx; exact rx
      have hfew := few.at (headOf one)
      refine op_add_list (by rw [List.length_map, sizeLine_eq]; simp; omega) (rx'.mono sg₈) ry g₈ s₈ _ _ Sub.refl S₈ fun g₉ s₉ z S₉ sg₉ sh₉ rz => kQ g₉ s₉ z S₉ ((sg₇.trans sg₈).trans sg₉) ((sh₇.trans sh₈).trans sh₉) ?_
      unfold encRow
      rw [List.map_append]
      exact rz
     ·refine wpAny_execs_nil ?_
      refine wpAny_execs_nil ⟨_, g₇, S₇, sg₇, fun y hy => ?_, ?_⟩
      ·exact (upd_ne (nc_head hy)).trans (hm₄ y hy)
      ·rw [next]
       unfold dueStep
       rw [hok]
       show AccD c.w (encB (addTo b one (num one))) D g₇ s₇.heap
       unfold addTo encB
       rw [← put_map]
       exact ac₇
  ·intro m' g' s' S' sg' inv
   rcases inv with ⟨q, a⟩ | h
   ·refine wpAny_execs_nil ⟨m', g', S', sg', fun y hy => ?_, ?_⟩
    ·exact (q y (nc_one (nc_head (nc_tail hy)))).trans (m1 y hy)
    ·rw [dueTo_succ]; exact a
   ·exact h.elim
 ·intro m g₂ s₂ S₂ sg₂ inv
  rcases inv with ⟨q, a⟩ | h
  ·exact S₂.retOwn rfl ((q "due" rfl).trans d4) rfl (fun b hb => ⟨.tail _ hb, fun e => hDW (e ▸ hb)⟩) rfl sg₂ hDf fun g' s' sg' sh sg'' S' => AccD.toStill S' hDf (a.stab sg' fun o e => sh _ _ e)
  ·exact h.elim
theorem call_due {vp vs vo : Value} {puts : List Str} {stop : Int} {okv : List (Str × PyData)} (num : Str → Int) (hK : c.K = HK c.w.params) (hA : AOk 4 c.A) (hz : 4 * puts.length + 8 ≤ sizeLine)
  (hlen : ∀ p ∈ puts, p.length ≤ sizeLine) (hnum : ∀ p ∈ puts, ∀ one ∈ ones p, (one != ("" : Str)) = true → at? okv one = some (.int (num one)))
  (hp : Rd g vp (.list (dStrs puts))) (hs : Rd g vs (.int stop)) (ho : DcP c.w okv g vo) : Does c (call (.ref 237) [vp, vs, vo]) (DcP c.w (encB (dueB puts stop num))) g :=
 call_def (k := 3) (o := ob237 c.w.params) (fd := fd237 c.w.params) (body := bd237 c.w.params) (binds := [("puts", vp), ("stop", vs), ("own", vo)]) ss237 hK hA rfl rfl (by rfl) rfl rfl rfl rfl rfl rfl rfl rfl rfl rfl fun L W O s₀ g' s' hW sg S => due_body rfl hA hK hz hlen hnum (hp.mono sg) (hs.mono sg) (DcP.mono _ _ _ sg ho) S
end
section
variable {c : Cx} {g : Heap} {s : Shared} {k : Nat} {pos : Pos} {rest : List Stmt} {E : Value → Shared → Prop} {Q : Flow → Shared → Prop} {D : Addr}
noncomputable def withOwn (c : Cx) (D : Addr) : Cx := { c with W := D :: c.W, O := D :: c.O }
theorem tuple_new {ps : List Expr} {kk : Nat} {e : Expr} {p0 : Pos} {d : PyData} {Q : Value → Shared → Prop} (S : St c g s) (he : ∀ D, Does (withOwn c D) (eval e c.env) (RdP d) g)
  (h : ∀ D T g' s' v, St (withOwn c D) g' s' → Sub g g' → IsTup g' T #[.ref D, v] → Rd g' v d → AccL [] D g' s'.heap → D ∉ foot c.env → D ∉ c.W → 3 < D → Q (.ref T) s')
  (hs : starEach [.List [] p0, e] c.env = (false, eval (.List [] p0) c.env) :: starEach [e] c.env := by rfl) (hs2 : starEach [e] c.env = (false, eval e c.env) :: starEach [] c.env := by rfl) :
  wpAny (model PG c.w) c.A (eval (.Tuple [.List [] p0, e] kk pos) c.env) Q E s := by
 refine wpAny_Tuple (wpAny_items_cons (wpAny_List (wpAny_items_nil ⟨Nat.zero_le _, ?_⟩)) hs)
 have S₁ : St (withOwn c s.heap.objs.size) g { s with heap := s.heap.push { cls := .type "list", data := .seq ([] : List Value).toArray } } := S.newOwn (tk := s.toks) rfl
 have hg : s.heap.objs.size ∉ foot c.env := S.size_foot
 have hW : s.heap.objs.size ∉ c.W := fun m => Nat.lt_irrefl _ (S.lt m)
 have h3 := S.gt3
 have hl : (s.heap.push { cls := .type "list", data := .seq ([] : List Value).toArray }).get? s.heap.objs.size = some { cls := .type "list", data := .seq ([] : List Value).toArray } := Heap.get?_push_size _ rfl
 refine wpAny_items_cons (S₁.run Sub.refl (he _) fun g₂ s₂ v S₂ sg₂ sh₂ rv => wpAny_items_nil ⟨by rw [sizeLine_eq]; show 2 ≤ _; decide, ?_⟩) hs2
 obtain ⟨g₃, S₃, sg₃, e₃⟩ := S₂.new (o := { cls := .type "tuple", data := .seq [Value.ref s.heap.objs.size, v].toArray }) (tk := s₂.toks) rfl
 exact h s.heap.objs.size s₂.heap.objs.size g₃ _ v S₃ (sg₂.trans sg₃) ⟨_, e₃, rfl, _, rfl⟩ (Rd.mono rv sg₃) ⟨[], ⟨_, Heap.get?_push_of_some _ (sh₂ _ _ hl)⟩, .nil⟩ hg hW h3
theorem St.pairList (S : St c g s) {a b : Str} {pa pb p0 tp vp : Pos} {k1 k2 : Nat} {e : Expr} {d : PyData} (hA : AOk k c.A) (ha : a ∈ c.S) (hb : b ∈ c.S) (he : ∀ D, Does (withOwn c D) (eval e c.env) (RdP d) g)
  (h : ∀ D g' s' v, Rd g' v d → Sub g g' → St (withOwn { c with m := upd (upd c.m a (.ref D)) b v } D) g' s' → AccL [] D g' s'.heap → D ∉ foot c.env → D ∉ c.W → 3 < D → wpAny (model PG c.w) c.A (execs rest c.env) Q E s')
  (hs : starEach [.List [] p0, e] c.env = (false, eval (.List [] p0) c.env) :: starEach [e] c.env := by rfl) (hs2 : starEach [e] c.env = (false, eval e c.env) :: starEach [] c.env := by rfl)
  (h1 : swapsWithSole [.Tuple [.Name a pa, .Name b pb] k1 tp] (.Tuple [.List [] p0, e] k2 vp) pos.line c.env = pure false := by rfl) (h2 : swappedStores [.Tuple [.Name a pa, .Name b pb] k1 tp] (.Tuple [.List [] p0, e] k2 vp) c.env = pure none := by rfl) :
  wpAny (model PG c.w) c.A (execs (.Assign [.Tuple [.Name a pa, .Name b pb] k1 tp] (.Tuple [.List [] p0, e] k2 vp) pos :: rest) c.env) Q E s := by
 refine wpAny_execs_cons (Assign_Tuple (tuple_new (ps := []) S he (fun D T g₁ s₁ v S₁ sg₁ ht rv ac hf hW h3 => ?_) hs hs2) h1 h2)
 rw [arm_assign_Tuple]
 refine wpAny_bind (wpAny_standAt (unpack_tuple hA.1 (isTup_mono ht S₁.fz.sub) rfl rfl fun h' x => ?_))
 have S₂ : St (withOwn c D) g₁ { s₁ with heap := h' } := S₁.step Sm.heap (ext_sub x)
 have ac₂ := ac.stab (g' := g₁) (h' := h') Sub.refl fun o e => ext_sub x _ _ e
 show wpAny _ _ (assignInOrder [fun v => PySem.assign (.Name a pa) c.env v, fun v => PySem.assign (.Name b pb) c.env v] [.ref D, v]) _ E _
 unfold assignInOrder
 refine wpAny_bind (wpAny_holding (S₂.storeName ha fun s₃ S₃ b₃ => ?_))
 unfold assignInOrder
 refine wpAny_bind (wpAny_holding (S₃.storeName hb fun s₄ S₄ b₄ => ?_))
 unfold assignInOrder
 exact wpAny_pure (h D g₁ s₄ v rv sg₁ S₄ (ac₂.stab Sub.refl fun o e => b₄.keep hf (b₃.keep hf e)) hf hW h3)
theorem St.pairListS (S : St c g s) {a b : Str} {pa pb p0 tp vp : Pos} {k1 k2 : Nat} {e : Expr} {d : PyData} (hA : AOk k c.A) (ha : a ∈ c.S) (hb : b ∈ c.S) (he : ∀ D, Does (withOwn c D) (eval e c.env) (RdP d) g)
  (h : ∀ D g' s' v, Rd g' v d → Sub g g' → St (withOwn { c with m := upd (upd c.m b v) a (.ref D) } D) g' s' → AccL [] D g' s'.heap → D ∉ foot c.env → D ∉ c.W → 3 < D → wpAny (model PG c.w) c.A (execs rest c.env) Q E s')
  (hs : starEach [.List [] p0, e] c.env = (false, eval (.List [] p0) c.env) :: starEach [e] c.env := by rfl) (hs2 : starEach [e] c.env = (false, eval e c.env) :: starEach [] c.env := by rfl)
  (h1 : swapsWithSole [.Tuple [.Name a pa, .Name b pb] k1 tp] (.Tuple [.List [] p0, e] k2 vp) pos.line c.env = pure false := by rfl) (h2 : swappedStores [.Tuple [.Name a pa, .Name b pb] k1 tp] (.Tuple [.List [] p0, e] k2 vp) c.env = pure (some [a, b]) := by rfl) :
  wpAny (model PG c.w) c.A (execs (.Assign [.Tuple [.Name a pa, .Name b pb] k1 tp] (.Tuple [.List [] p0, e] k2 vp) pos :: rest) c.env) Q E s := by
 refine wpAny_execs_cons (Assign_Tuple_swapped (tuple_new (ps := []) S he (fun D T g₁ s₁ v S₁ sg₁ ht rv ac hf hW h3 => ?_) hs hs2) h1 h2)
 refine unpackItems_tuple (items := #[.ref D, v]) hA.1 (isTup_mono ht S₁.fz.sub) fun h' x => ?_
 have S₂ : St (withOwn c D) g₁ { s₁ with heap := h' } := S₁.step Sm.heap (ext_sub x)
 have ac₂ := ac.stab (g' := g₁) (h' := h') Sub.refl fun o e => ext_sub x _ _ e
 show wpAny _ _ (assignInOrder [fun v => bindName c.env b v, fun v => bindName c.env a v] [v, .ref D]) _ E _
 unfold assignInOrder
 refine wpAny_bind (wpAny_holding (wpAny_bindName (st_store (c := withOwn c D) S₂ hb fun s₃ S₃ b₃ => ?_)))
 unfold assignInOrder
 refine wpAny_bind (wpAny_holding (wpAny_bindName (st_store (c := withOwn { c with m := upd c.m b v } D) S₃ ha fun s₄ S₄ b₄ => ?_)))
 unfold assignInOrder
 exact wpAny_pure (h D g₁ s₄ v rv sg₁ S₄ (ac₂.stab Sub.refl fun o e => b₄.keep hf (b₃.keep hf e)) hf hW h3)
theorem St.pair (S : St c g s) {a b : Str} {pa pb tp : Pos} {k1 : Nat} {e : Expr} {da db : PyData} (hA : AOk k c.A) (ha : a ∈ c.S) (hb : b ∈ c.S) (he : Does c (eval e c.env) (RdP (.tuple [da, db])) g)
  (h : ∀ g' s' x y, Rd g' x da → Rd g' y db → Sub g g' → St { c with m := upd (upd c.m a x) b y } g' s' → Sub s.heap s'.heap ∨ True → (∀ D, D ∉ foot c.env → ∀ o, s.heap.get? D = some o → s'.heap.get? D = some o) → wpAny (model PG c.w) c.A (execs rest c.env) Q E s')
  (h1 : swapsWithSole [.Tuple [.Name a pa, .Name b pb] k1 tp] e pos.line c.env = pure false := by rfl) (h2 : swappedStores [.Tuple [.Name a pa, .Name b pb] k1 tp] e c.env = pure none := by rfl) :
  wpAny (model PG c.w) c.A (execs (.Assign [.Tuple [.Name a pa, .Name b pb] k1 tp] e pos :: rest) c.env) Q E s :=
 wpAny_execs_cons (Assign_Tuple (S.run Sub.refl he fun g₁ s₁ v S₁ sg₁ sh₁ rv => as_pair hA ha hb S₁ rv fun s₂ x y rx ry S₂ b₂ => h g₁ s₂ x y rx ry sg₁ S₂ (.inr trivial) fun D hD o e => b₂.keep hD (sh₁ _ _ e)) h1 h2)
theorem St.append (S : St c g s) {x : Str} {px ap cp : Pos} {arg : Expr} {ds : List PyData} {d : PyData} (hx : hasVar c.env x = true) (hm : c.m x = some (.ref D)) (ac : AccL ds D g s.heap) (he : Does c (eval arg c.env) (RdP d) g) (hDO : D ∈ c.O) (hDf : D ∉ foot c.env) (hz : ds.length ≤ sizeLine)
  (h : ∀ g' s', St c g' s' → Sub g g' → AccL (ds ++ [d]) D g' s'.heap → wpAny (model PG c.w) c.A (execs rest c.env) Q E s') (hd : (x == ("__debug__" : Str)) = false := by decide)
  (hbase : attributeBase (.Name x px) "append" c.env (eval (.Name x px) c.env) = eval (.Name x px) c.env := by rfl)
  (hfew : ((backTo cp (starEach [arg] c.env)).all (fun x => !x.1) && (backToKw cp (keywordEach [] c.env)).all (fun x => x.1.isSome) && decide (([arg] : List Expr).length + ([] : List Keyword).length + (if ([] : List Keyword).isEmpty then 0 else 1) < 30)) = true := by rfl)
  (hline : (ap.endLine == cp.line) = true := by rfl) (hs : starEach [arg] c.env = (false, eval arg c.env) :: starEach [] c.env := by rfl) (hi : interactive c.env = false := by rfl)
  (hsw : swapsWith (.Call (.Attribute (.Name x px) "append" ap) [arg] [] cp) none pos.line c.env = pure false := by rfl) :
  wpAny (model PG c.w) c.A (execs (.Expr (.Call (.Attribute (.Name x px) "append" ap) [arg] [] cp) pos :: rest) c.env) Q E s := by
 obtain ⟨vs, hl, rl⟩ := ac
 have hnd : ∀ b, Value.ref D = .ref b → ∃ ob, s.heap.get? b = some ob ∧ ob.dict = none := fun b e => by cases e; obtain ⟨n, e⟩ := hl; exact ⟨_, e, rfl⟩
 refine wpAny_execs_cons (wpAny_Expr_any (wpAny_Call_method hbase hfew hline PySem.F.plainAttrs_list PySem.F.slot_list_append PySem.F.type_list_append (wpAny_Name (load_var S.vars hx hm ⟨hl.isList.typeIs, hnd, callWith_method1 ?_ hs rfl⟩) hd)) hi hsw)
 refine S.run Sub.refl (ar_d he ar_nil hs : DoesA c cp [arg] _ g) fun g₃ s₃ us S₃ sg₃ sh₃ q => ?_
 obtain ⟨u, _, rfl, pu, rfl⟩ := q
 have hvs : vs.toArray.size ≤ sizeLine := by
  have e1 := rl.length
  rw [List.size_toArray]; omega
 refine wpAny_list_append_plain (hsz := hvs) (hl.at fun o e => sh₃ _ _ e) fun h₆ hl₆ hs₆ => ?_
 obtain ⟨nD, hoD⟩ := id hl₆
 exact h g₃ _ (S₃.turn Sm.heap (.of_same hs₆ hDO hoD) (S₃.vars.at fun a ha o e => hs₆.extBut a o (fun q => hDf (q ▸ ha)) e)) sg₃ ⟨vs ++ [u], by simpa using hl₆, (rl.mono sg₃).append (.cons pu .nil)⟩
theorem St.aug (S : St c g s) {x : Str} {px : Pos} {e : Expr} {i j : Int} {v : Value} (hx : x ∈ c.S) (hv : hasVar c.env x = true) (hm : c.m x = some v) (rv : Rd g v (.int i)) (he : Does c (eval e c.env) (RdP (.int j)) g)
  (h : ∀ g' s' u, Rd g' u (.int (i + j)) → Sub g g' → St { c with m := upd c.m x u } g' s' → (∀ D, D ∉ foot c.env → ∀ o, s.heap.get? D = some o → s'.heap.get? D = some o) → wpAny (model PG c.w) c.A (execs rest c.env) Q E s') :
  wpAny (model PG c.w) c.A (execs (.AugAssign (.Name x px) .Add e pos :: rest) c.env) Q E s := by
 refine wpAny_execs_cons (wpAny_AugAssign_Name (load_var S.vars hv hm (S.run Sub.refl he fun g₁ s₁ u S₁ sg₁ sh₁ ru => ?_)))
 obtain ⟨t, rfl⟩ := rv.inv_int
 obtain ⟨t', rfl⟩ := Rd.inv_int ru
 refine PyProof.Rows.iadd_int (st_store (c := c) S₁.toks hx fun s₂ S₂ b₂ => h g₁ s₂ _ Rd.int sg₁ S₂ fun D hD o e => b₂.keep hD (sh₁ _ _ e))
end
noncomputable def fd242 (p : Params) : FuncData := fdOf (l := (HK p).lookup 242) rfl rfl
noncomputable def ob242 (p : Params) : Obj := objOf (l := (HK p).lookup 242) rfl
noncomputable def bd242 (p : Params) : List Stmt := bodyOf (fd := fd242 p) rfl
noncomputable def en242 (p : Params) (L : Addr) : Env := callEnvC (fd242 p) L 242
noncomputable def ss242 : List Str := ["tokens", "k", "size", "number"]
noncomputable def signAt (x : Str) (k : Nat) : Nat := x.cps.toList.getD k 0
noncomputable def rowAt (b : Book) (x : Str) (k : Nat) : Row := (at? b ⟨#[signAt x k]⟩).getD []
noncomputable def fits (x : Str) (k : Nat) (w : Str) : Bool := sl x k (k + w.length) == w
noncomputable def cands (b : Book) (x : Str) (k : Nat) : List (Int × Int) := [((1 : Int), (0 : Int))] ++ ((rowAt b x k).filter fun p => fits x k p.1).map fun p => ((p.1.length : Int), p.2)
noncomputable def gtAt (l : List (Int × Int)) (i j : Nat) : Bool := pairGt (l.getD i (0, 0)) (l.getD j (0, 0))
noncomputable def topOf (l : List (Int × Int)) : Int × Int := l.getD (bestOf (gtAt l) (l.length - 1)) (0, 0)
noncomputable def best (b : Book) (x : Str) (k : Nat) : Int × Int := topOf (cands b x k)
noncomputable abbrev Tk := Nat × Str × Int
noncomputable def tokAt (b : Book) (x : Str) (k : Nat) : List Tk := if blank (signAt x k) = true then [] else [(k, sl x k (k + (best b x k).1.toNat), (best b x k).2)]
noncomputable def toksF (b : Book) (x : Str) : Nat → Nat → List Tk
 | 0, _ => []
 | f + 1, k => if k < x.length then tokAt b x k ++ toksF b x f (k + (best b x k).1.toNat) else []
noncomputable def toks (b : Book) (x : Str) (k : Nat) : List Tk := toksF b x (x.length - k) k
noncomputable def tokens (b : Book) (x : Str) : List Tk := toks b x 0
noncomputable def encT (t : Tk) : PyData := .tuple [.int (t.1 : Int), .str t.2.1, .int t.2.2]
noncomputable def encI (p : Int × Int) : PyData := .tuple [.int p.1, .int p.2]
theorem bestOf_le (bt : Nat → Nat → Bool) : ∀ n, bestOf bt n ≤ n
 | 0 => Nat.le_refl _
 | n + 1 => by
  unfold bestOf
  split
  ·exact Nat.le_refl _
  ·exact Nat.le_succ_of_le (bestOf_le bt n)
theorem top_ge {l : List (Int × Int)} {a : Int × Int} {r : List (Int × Int)} (h : l = a :: r) : ∀ n, n < l.length → a.1 ≤ (l.getD (bestOf (gtAt l) n) (0, 0)).1
 | 0, _ => by subst h; exact Int.le_refl _
 | n + 1, hn => by
  have ih := top_ge h n (Nat.lt_of_succ_lt hn)
  unfold bestOf
  split
  ·rename_i hg
   have hg' : pairGt (l.getD (n + 1) (0, 0)) (l.getD (bestOf (gtAt l) n) (0, 0)) = true := hg
   unfold pairGt at hg'
   split at hg'
   ·rename_i e; rw [e]; exact ih
   ·have := of_decide_eq_true hg'; omega
  ·exact ih
theorem best_pos (b : Book) (x : Str) (k : Nat) : 1 ≤ (best b x k).1 := top_ge (l := cands b x k) (a := (1, 0)) rfl _ (Nat.sub_lt (Nat.succ_pos _) Nat.one_pos)
theorem best_mem (b : Book) (x : Str) (k : Nat) : best b x k ∈ cands b x k :=
 getD_mem (Nat.lt_of_le_of_lt (bestOf_le _ _) (Nat.sub_lt (Nat.succ_pos _) Nat.one_pos))
theorem one_nat {p : Int} (h : 1 ≤ p) : 1 ≤ p.toNat := by omega
theorem fuel_lt {n k p f : Nat} (h : n - k ≤ f + 1) (hp : 1 ≤ p) : n - (k + p) ≤ f := by omega
theorem toksF_fuel (b : Book) (x : Str) : ∀ (f f' k : Nat), x.length - k ≤ f → x.length - k ≤ f' → toksF b x f k = toksF b x f' k
 | 0, 0, _, _, _ => rfl
 | 0, f' + 1, k, h, _ => by
  have : ¬ k < x.length := by omega
  simp [toksF, this]
 | f + 1, 0, k, _, h => by
  have : ¬ k < x.length := by omega
  simp [toksF, this]
 | f + 1, f' + 1, k, h, h' => by
  unfold toksF
  split
  ·have hp := best_pos b x k
   rw [toksF_fuel b x f f' (k + (best b x k).1.toNat) (fuel_lt h (one_nat hp)) (fuel_lt h' (one_nat hp))]
  ·rfl
theorem toks_step (b : Book) (x : Str) {k : Nat} (h : k < x.length) : toks b x k = tokAt b x k ++ toks b x (k + (best b x k).1.toNat) := by
 unfold toks
 have hp := best_pos b x k
 rw [show x.length - k = (x.length - k - 1) + 1 from (Nat.sub_add_cancel (Nat.sub_pos_of_lt h)).symm]
 show (if k < x.length then _ else _) = _
 rw [if_pos h, toksF_fuel b x (x.length - k - 1) (x.length - (k + (best b x k).1.toNat)) _ (fuel_lt (Nat.le_of_eq (Nat.sub_add_cancel (Nat.sub_pos_of_lt h)).symm) (one_nat hp)) (Nat.le_refl _)]
theorem toks_end (b : Book) (x : Str) {k : Nat} (h : ¬ k < x.length) : toks b x k = [] := by
 unfold toks; rw [Nat.sub_eq_zero_of_le (Nat.le_of_not_lt h)]; rfl
section
variable {c : Cx} {g : Heap} {s : Shared} {k : Nat} {pos : Pos} {rest : List Stmt} {E : Value → Shared → Prop} {Q : Flow → Shared → Prop}
noncomputable def HeadsOf (w : World) (b : Book) (HP : Heap → Value → Prop) : Prop := ∀ (c : Cx) (g : Heap) (v i : Expr) (pos : Pos) (key : Str), c.w = w → c.K = HK w.params → AOk 8 c.A → Does c (eval v c.env) HP g → Does c (eval i c.env) (RdP (.str key)) g →
 (∀ o j, subscripted i false o j = operate [o, j] (getItem o j)) → Does c (eval (.Subscript v i pos) c.env) (RdP (encRow ((at? b key).getD []))) g
theorem St.ite (S : St c g s) {t : Expr} {b o : List Stmt} {x : Bool} (ht : Tst c t x g)
  (h : ∀ g' s', Sub g g' → St c g' s' → Sub s.heap s'.heap → wpAny (model PG c.w) c.A (if x = true then execs b c.env else execs o c.env) (fun f s' => match f with | .next => wpAny (model PG c.w) c.A (execs rest c.env) Q E s' | f => Q f s') E s') :
  wpAny (model PG c.w) c.A (execs (.If t b o pos :: rest) c.env) Q E s := ex_if ht S h
theorem St.iteJ (S : St c g s) {t : Expr} {b o : List Stmt} {x : Bool} (R : Heap → Shared → Prop) (ht : Tst c t x g)
  (h : ∀ g' s' (Q : Flow → Shared → Prop), Sub g g' → St c g' s' → Sub s.heap s'.heap → (∀ g'' s'', St c g'' s'' → Sub g' g'' → R g'' s'' → Q .next s'') → wpAny (model PG c.w) c.A (if x = true then execs b c.env else execs o c.env) Q E s')
  (k : ∀ g' s', St c g' s' → Sub g g' → R g' s' → wpAny (model PG c.w) c.A (execs rest c.env) Q E s') :
  wpAny (model PG c.w) c.A (execs (.If t b o pos :: rest) c.env) Q E s := S.ite ht fun g' s' sg S' sh => h g' s' _ sg S' sh fun g'' s'' S'' sg'' r => k g'' s'' S'' (sg.trans sg'') r
theorem St.while_ (S : St c g s) {test : Expr} {body : List Stmt} (Inv : Nat → (Str → Option Value) → Heap → Heap → Prop) (k : Nat) (h0 : Inv k c.m g s.heap)
  (turn : ∀ i m g₁ s₁, St { c with m := m } g₁ s₁ → Inv i m g₁ s₁.heap → Sub g g₁ → ∃ b, Tst { c with m := m } test b g₁ ∧
   ∀ g₂ s₂, St { c with m := m } g₂ s₂ → Sub g₁ g₂ → Sub s₁.heap s₂.heap →
    if b = true then wpAny (model PG c.w) c.A (execs body c.env) (fun f s₃ => match f with
     | .next | .cont => ∃ j m' g₃, j < i ∧ St { c with m := m' } g₃ s₃ ∧ Sub g₂ g₃ ∧ Inv j m' g₃ s₃.heap
     | _ => False) (fun _ _ => False) s₂
    else wpAny (model PG c.w) c.A (execs rest c.env) Q E s₂) :
  wpAny (model PG c.w) c.A (execs (.While test body [] pos :: rest) c.env) Q E s := wpAny_execs_cons (wp_while S Inv k h0 turn)
theorem gt_pairs {w : World} {A : Around} {s : Shared} {v u : Value} {p q : Int × Int} {Q : Value → Shared → Prop} (hu : A.units < cLine) (hv : Rd s.heap v (encI p)) (hw : Rd s.heap u (encI q)) (h : Q (.bool (pairGt p q)) s) :
  wpAny (model PG w) A (richCompare .Gt v u) Q E s := by
 obtain ⟨a, ⟨c1, d1, dt1, sl1⟩, vs1, n1, rfl, h1, h2, h3, r1⟩ := hv.inv_tuple
 obtain ⟨b, ⟨c2, d2, dt2, sl2⟩, vs2, n2, rfl, h4, h5, h6, r2⟩ := hw.inv_tuple
 simp only at h2 h3 h5 h6
 subst h2 h3 h5 h6
 obtain ⟨l1⟩ := vs1
 obtain ⟨l2⟩ := vs2
 obtain ⟨x1, _, rfl, rx1, r1⟩ := r1.inv_cons
 obtain ⟨x2, _, rfl, rx2, r1⟩ := r1.inv_cons
 rw [r1.inv_nil] at h1
 obtain ⟨y1, _, rfl, ry1, r2⟩ := r2.inv_cons
 obtain ⟨y2, _, rfl, ry2, r2⟩ := r2.inv_cons
 rw [r2.inv_nil] at h4
 obtain ⟨t1, rfl⟩ := rx1.inv_int
 obtain ⟨t2, rfl⟩ := rx2.inv_int
 obtain ⟨u1, rfl⟩ := ry1.inv_int
 obtain ⟨u2, rfl⟩ := ry2.inv_int
 exact richCompare_meets_room (op := .Gt) ⟨_, h1, rfl⟩ ⟨_, h4, rfl⟩ PySem.F.slot_tuple_gt PySem.F.entry_tuple_gt (PySem.F.args_tuple_gt_2 _ _) (tuple_gt2 a b n1 n2 d1 d2 sl1 sl2 p.1 p.2 q.1 q.2 t1 t2 u1 u2)
  ⟨h1, h4, show Value.bool (pairGt p q) ≠ Value.notImplemented ∧ Q (.bool (pairGt p q)) s from ⟨(fun x => nomatch x), h⟩⟩ hu
theorem max_pairs {v : Value} {l : List (Int × Int)} (hA : AOk (k + 1) c.A) (hv : Rd g v (.list (l.map encI))) (hne : 0 < l.length) : Does c (call (.builtin "max") [v]) (RdP (encI (topOf l))) g := by
 have hl : (l.map encI).length = l.length := List.length_map ..
 refine Does.imp (op_max (gtAt l) hA hv (by rw [hl]; exact hne) fun i j di dj vi vj s Q E hi hj ri rj q => ?_) fun g' x _ ⟨d, e, r⟩ => ?_
 ·rw [List.getElem?_map] at hi hj
  cases e1 : l[i]? with
  | none => rw [e1] at hi; cases hi
  | some p =>
   cases e2 : l[j]? with
   | none => rw [e2] at hj; cases hj
   | some p' =>
    rw [e1] at hi; rw [e2] at hj
    cases hi; cases hj
    have hgt : gtAt l i j = pairGt p p' := by unfold gtAt; rw [getD_of e1, getD_of e2]
    exact gt_pairs (by have := hA.in1.units; omega) ri rj (hgt ▸ q)
 ·rw [hl, List.getElem?_map] at e
  cases e1 : l[bestOf (gtAt l) (l.length - 1)]? with
  | none => rw [e1] at e; cases e
  | some p =>
   rw [e1] at e; cases e
   unfold topOf
   rw [getD_of e1]; exact r
theorem encRow_eq (r : Row) : encRow r = .list ((r.map fun p => [PyData.str p.1, PyData.int p.2]).map PyData.tuple) := by
 unfold encRow; rw [List.map_map]; rfl
theorem two_of {h : Heap} {m : Str → Option Value} {a b : Str} {ds : List (List PyData)} {da db : PyData} {i : Nat} (t : TgT [a, b] ds i h m) (e : ds[i]? = some [da, db]) : ∃ x y, m a = some x ∧ m b = some y ∧ Rd h x da ∧ Rd h y db := by
 obtain ⟨vs, e1, rr⟩ := t
 rw [getD_of e] at rr
 obtain ⟨x, _, rfl, rx, rr⟩ := rr.inv_cons
 obtain ⟨y, _, rfl, ry, rr⟩ := rr.inv_cons
 rw [rr.inv_nil] at e1
 simp only [List.map_cons, List.map_nil, List.cons.injEq, and_true] at e1
 exact ⟨x, y, e1.1, e1.2, rx, ry⟩
theorem three_of {h : Heap} {m : Str → Option Value} {a b d : Str} {ds : List (List PyData)} {da db dd : PyData} {i : Nat} (t : TgT [a, b, d] ds i h m) (e : ds[i]? = some [da, db, dd]) : ∃ x y z, m a = some x ∧ m b = some y ∧ m d = some z ∧ Rd h x da ∧ Rd h y db ∧ Rd h z dd := by
 obtain ⟨vs, e1, rr⟩ := t
 rw [getD_of e] at rr
 obtain ⟨x, _, rfl, rx, rr⟩ := rr.inv_cons
 obtain ⟨y, _, rfl, ry, rr⟩ := rr.inv_cons
 obtain ⟨z, _, rfl, rz, rr⟩ := rr.inv_cons
 rw [rr.inv_nil] at e1
 simp only [List.map_cons, List.map_nil, List.cons.injEq, and_true] at e1
 exact ⟨x, y, z, e1.1, e1.2.1, e1.2.2, rx, ry, rz⟩
theorem row_len {b : Book} {n : Nat} (h : ∀ kv ∈ b, ∀ p ∈ kv.2, p.1.length ≤ n) (key : Str) : ∀ p ∈ (at? b key).getD [], p.1.length ≤ n := by
 unfold at?
 cases e : b.find? fun kv => kv.1 = key with
 | none => intro p hp; cases hp
 | some kv => exact h kv (List.mem_of_find?_eq_some e)
theorem tokens_body {vh vt : Value} {bnd : Str → Option Value} {x : Str} {b : Book} {HP : Heap → Value → Prop} {L : Addr} {W O : List Addr} {s₀ s : Shared} {g' : Heap} (hbnd : bnd = bindM [("heads", vh), ("text", vt)]) (hA : AOk 10 c.A) (hK : c.K = HK c.w.params)
  (hz : x.length + 8 ≤ sizeLine) (hrow : ∀ key, ((at? b key).getD []).length + 8 ≤ sizeLine) (hword : ∀ kv ∈ b, ∀ p ∈ kv.2, p.1.length ≤ sizeLine) (hm : Mono HP) (hH : HeadsOf c.w b HP) (hh : HP g' vh) (ht : Rd g' vt (.str x))
  (S : St (fnCx c (en242 c.w.params L) bnd W O ss242 s₀) g' s) :
  wpAny (model PG c.w) (c.A.deeper (en242 c.w.params L)) (execs (bd242 c.w.params) (en242 c.w.params L))
   (fun f s'' => Gives (fnCx c (en242 c.w.params L) bnd W O ss242 s₀) s₀ g' (RdP (.list ((tokens b x).map encT))) f s'') (fun _ _ => False) s := by
 have hA' : AOk 9 (c.A.deeper (en242 c.w.params L)) := AOk.deeper (n := 9) hA
 have b1 : bnd "heads" = some vh := by rw [hbnd]; rfl
 have b2 : bnd "text" = some vt := by rw [hbnd]; rfl
 have hz' := hz
 rw [sizeLine_eq] at hz
 refine S.pairList (d := .int 0) hA' (.head _) (.tail _ (.head _)) (fun D => gv_int) fun D g₁ s₁ vk rk sg₁ S₁ ac₁ hDf hDW h3 => ?_
 have S₁ : St (fnCx c (en242 c.w.params L) (upd (upd bnd "tokens" (.ref D)) "k" vk) (D :: W) (D :: O) ss242 s₀) g₁ s₁ := S₁
 have ku : upd (upd bnd "tokens" (.ref D)) "k" vk "k" = some vk := upd_eq
 refine S₁.while_ (fun i m g h => ∃ (q : Nat) (acc : List Tk), i = x.length - q ∧ Keep ["k", "size", "number"] (upd (upd bnd "tokens" (.ref D)) "k" vk) m ∧ (∃ u, m "k" = some u ∧ Rd g u (.int (q : Int))) ∧ AccL (acc.map encT) D g h ∧ acc.length ≤ q ∧ acc ++ toks b x q = tokens b x) x.length
  ⟨0, [], by omega, fun _ _ => rfl, ⟨vk, ku, rk⟩, ac₁, Nat.le_refl _, rfl⟩ ?_
 rintro i m g₂ s₂ S₂ ⟨q, acc, rfl, hkeep, ⟨u, hu, ru⟩, ac₂, hle, hacc⟩ sg₂
 have S₂ : St (fnCx c (en242 c.w.params L) m (D :: W) (D :: O) ss242 s₀) g₂ s₂ := S₂
 have mt : m "text" = some vt := (hkeep _ rfl).trans b2
 have mh : m "heads" = some vh := (hkeep _ rfl).trans b1
 have md : m "tokens" = some (.ref D) := (hkeep _ rfl).trans rfl
 have rt : Rd g₂ vt (.str x) := ht.mono (sg₁.trans sg₂)
 refine ⟨decide ((q : Int) < ((x.length : Nat) : Int)), ts_compare1 RdP.mono (S₂.var rfl hu ru) (gv_len_str (by rw [sizeLine_eq]; omega) (gv_bi rfl hK rfl (by rfl) (by decide)) (S₂.var rfl mt rt)) fun g₁ a b _ p q => op_lt_int p q, fun g₃ s₃ S₃ sg₃ sh₃ => ?_⟩
 have S₃ : St (fnCx c (en242 c.w.params L) m (D :: W) (D :: O) ss242 s₀) g₃ s₃ := S₃
 have ac₃ := ac₂.stab (g' := g₃) (h' := s₃.heap) sg₃ fun o e => sh₃ _ _ e
 have rt₃ := rt.mono sg₃
 have ru₃ := ru.mono sg₃
 by_cases hq : q < x.length
 ·have hdec : decide ((q : Int) < ((x.length : Nat) : Int)) = true := by simpa using hq
  rw [hdec]
  simp only [if_true]
  have hql : q < x.cps.toList.length := by rw [len_cps]; exact hq
  have hsign : x.cps.toList[q]? = some (signAt x q) := getD_some hql
  have key := outs_list (fun p : Str × Int => fits x q p.1) (fun p => encI ((p.1.length : Int), p.2)) ("", 0) (rowAt b x q)
  have hr := hrow ⟨#[signAt x q]⟩
  have hcl : (cands b x q).length ≤ sizeLine := by
   unfold cands
   rw [List.length_append, List.length_map]
   have := List.length_filter_le (fun p => fits x q p.1) (rowAt b x q)
   have h8 : (rowAt b x q).length + 8 ≤ sizeLine := hr
   simp only [List.length_cons, List.length_nil]
   omega
  refine S₃.pair (da := .int (best b x q).1) (db := .int (best b x q).2) hA' (.tail _ (.tail _ (.head _))) (.tail _ (.tail _ (.tail _ (.head _)))) (gv_call_b (gv_bi rfl hK rfl (by rfl) (by decide))
   (ar_d (gv_add_list (ds := [encI (1, 0)]) (es := ((rowAt b x q).filter fun p => fits x q p.1).map fun p => encI ((p.1.length : Int), p.2)) ?_
    (gv_list (ds := [encI (1, 0)]) (ar_d (gv_tuple (ds := [.int 1, .int 0]) (ar_d gv_int (ar_d gv_int ar_nil)) (by rw [sizeLine_eq]; show 2 ≤ _; decide)) ar_nil) (by rw [sizeLine_eq]; show 1 ≤ _; decide)) ?_) ar_nil) fun g₄ vs sg₄ r => ?_) ?_
  ·rw [List.length_map]
   have := List.length_filter_le (fun p => fits x q p.1) (rowAt b x q)
   have h8 : (rowAt b x q).length + 8 ≤ sizeLine := hr
   simp only [List.length_cons, List.length_nil]
   omega
  ·rw [← key]
   refine gv_listcomp (n := (rowAt b x q).length) ["word", "told"] _ _ rfl rfl (P := RdP (encRow (rowAt b x q))) (hH _ _ _ _ _ _ rfl hK (hA'.mono (by omega)) (gv_name rfl mh fun g' s' => hm _ _ _ (((sg₁.trans sg₂).trans sg₃).trans s') hh) (gv_str_item (by omega) hsign (S₃.var rfl mt rt₃) (S₃.var rfl hu ru₃)) (by intro _ _; with_unfolding_all rfl))
    (fun g' y sg p => it_listN hA' (encRow_eq _ ▸ p) (by simp)) (by have h8 : (rowAt b x q).length + 8 ≤ sizeLine := hr; omega) (V := VD (((rowAt b x q).map fun p => [PyData.str p.1, PyData.int p.2]).map PyData.tuple)) (Tg := TgT ["word", "told"] ((rowAt b x q).map fun p => [PyData.str p.1, PyData.int p.2])) ?_ fun i gB c' hi sg inC tg => ?_
   ·exact at_pair hA' (by decide) fun d hd => by obtain ⟨p, _, rfl⟩ := List.mem_map.mp hd; rfl
   ·have hget : ((rowAt b x q).map fun p => [PyData.str p.1, PyData.int p.2])[i]? = some [.str ((rowAt b x q).getD i ("", 0)).1, .int ((rowAt b x q).getD i ("", 0)).2] := by
     rw [List.getElem?_map, getD_some' (l := rowAt b x q) (d := ((("", 0) : Str × Int))) hi]; rfl
    obtain ⟨v1, v2, e1, e2, r1, r2⟩ := two_of tg hget
    have hwl : ((rowAt b x q).getD i ("", 0)).1.length ≤ sizeLine := row_len hword _ _ (getD_mem hi)
    generalize (rowAt b x q).getD i ("", 0) = p at r1 r2 hwl
    have fk : c'.m "k" = some u := inC_free inC rfl rfl hu
    have ft : c'.m "text" = some vt := inC_free inC rfl rfl mt
    obtain ⟨⟨C, W', O', s', m', rfl⟩, _, _, _⟩ := inC
    have hlen : ∀ {ps : Pos} {p1 p2 : Pos}, Does (compC (fnCx c (en242 c.w.params L) m (D :: W) (D :: O) ss242 s₀) _ ["word", "told"] C W' O' s' m') (eval (.Call (.Name "len" p1) [.Name "word" p2] [] ps) _) (RdP (.int ((p.1.length : Nat) : Int))) gB := fun {_ _ _} => gv_len_str hwl (gv_bi rfl hK rfl (by rfl) (by decide)) (gv_var rfl e1 r1)
    refine ⟨tl_one (ts_compare1 (P₁ := RdP (.str (sl x q (q + p.1.length)))) RdP.mono (gv_str_slice (by omega) (Nat.le_add_right _ _) (gv_var rfl ft (rt₃.mono sg)) (gv_var rfl fk (ru₃.mono sg)) (by rw [Int.natCast_add]; exact gv_add_int (gv_var rfl fk (ru₃.mono sg)) hlen)) (gv_var rfl e1 r1) fun g₁ a b _ p q => op_eq_str p q), fun _ => gv_tuple (ds := [.int (p.1.length : Int), .int p.2]) (ar_d hlen (ar_d (gv_var rfl e2 r2) ar_nil)) (by rw [sizeLine_eq]; show 2 ≤ _; decide)⟩
  ·obtain ⟨v, _, rfl, rv, rfl⟩ := r
   have hce : (cands b x q).map encI = [encI (1, 0)] ++ ((rowAt b x q).filter fun p => fits x q p.1).map fun p => encI ((p.1.length : Int), p.2) := by
    unfold cands; rw [List.map_append, List.map_map]; rfl
   rw [← hce] at rv
   exact max_pairs hA' rv (Nat.succ_pos _)
  ·intro g₅ s₅ z1 z2 rz1 rz2 sg₅ S₅ _ kp₅
   have S₅ : St (fnCx c (en242 c.w.params L) (upd (upd m "size" z1) "number" z2) (D :: W) (D :: O) ss242 s₀) g₅ s₅ := S₅
   have ac₅ := ac₃.stab (g' := g₅) (h' := s₅.heap) sg₅ fun o e => kp₅ D hDf o e
   have m5 : Keep ["size", "number"] m (upd (upd m "size" z1) "number" z2) := fun y hy => (upd_ne (nc_head (nc_tail hy))).trans (upd_ne (nc_head hy))
   have k5 := (m5 "k" rfl).trans hu
   have t5 := (m5 "text" rfl).trans mt
   have d5 := (m5 "tokens" rfl).trans md
   have s5 : upd (upd m "size" z1) "number" z2 "size" = some z1 := (upd_ne (by decide)).trans upd_eq
   have n5 : upd (upd m "size" z1) "number" z2 "number" = some z2 := upd_eq
   have rt₅ := rt₃.mono sg₅
   have ru₅ := ru₃.mono sg₅
   have hbp := best_pos b x q
   have hb1 : ((best b x q).1.toNat : Int) = (best b x q).1 := Int.toNat_of_nonneg (by omega)
   refine S₅.iteJ (x := !blank (signAt x q)) (fun g s => AccL ((acc ++ tokAt b x q).map encT) D g s.heap) (ts_compare1 (P₁ := RdP (.str ⟨#[signAt x q]⟩)) (P₂ := RdP (.str " \t\n")) RdP.mono (gv_str_item (by omega) hsign (S₅.var rfl t5 rt₅) (S₅.var rfl k5 ru₅)) gv_str fun g₁ a b _ p q => by rw [← blank_mem]; exact op_notIn_str p q) (fun g₆ s₆ Q sg₆ S₆ sh₆ go => ?_) fun g₇ s₇ S₇ sg₇ ac₇ => ?_
   ·have S₆ : St (fnCx c (en242 c.w.params L) (upd (upd m "size" z1) "number" z2) (D :: W) (D :: O) ss242 s₀) g₆ s₆ := S₆
    have ac₆ := ac₅.stab (g' := g₆) (h' := s₆.heap) sg₆ fun o e => sh₆ _ _ e
    cases hbl : blank (signAt x q) with
    | true =>
     simp only [Bool.not_true, Bool.false_eq_true, if_false]
     refine wpAny_execs_nil (go g₆ s₆ S₆ Sub.refl ?_)
     have : tokAt b x q = [] := by unfold tokAt; rw [if_pos hbl]
     rw [this, List.append_nil]; exact ac₆
    | false =>
     simp only [Bool.not_false, if_true]
     have htk : tokAt b x q = [(q, sl x q (q + (best b x q).1.toNat), (best b x q).2)] := by unfold tokAt; rw [if_neg (by rw [hbl]; exact Bool.false_ne_true)]
     refine S₆.append (d := encT (q, sl x q (q + (best b x q).1.toNat), (best b x q).2)) rfl d5 ac₆ (gv_tuple (ds := [.int (q : Int), .str (sl x q (q + (best b x q).1.toNat)), .int (best b x q).2]) (ar_d (S₆.var rfl k5 (ru₅.mono sg₆)) (ar_d (gv_str_slice (by omega) (Nat.le_add_right _ _) (S₆.var rfl t5 (rt₅.mono sg₆)) (S₆.var rfl k5 (ru₅.mono sg₆)) (by rw [Int.natCast_add, hb1]; exact gv_add_int (S₆.var rfl k5 (ru₅.mono sg₆)) (S₆.var rfl s5 (rz1.mono sg₆)))) (ar_d (S₆.var rfl n5 (rz2.mono sg₆)) ar_nil))) (by rw [sizeLine_eq]; show 3 ≤ _; decide)) (.head _) hDf (by rw [List.length_map]; omega) fun g₇ s₇ S₇ sg₇ ac₇ => wpAny_execs_nil (go g₇ s₇ S₇ sg₇ ?_)
     rw [htk, List.map_append]; exact ac₇
   ·have S₇ : St (fnCx c (en242 c.w.params L) (upd (upd m "size" z1) "number" z2) (D :: W) (D :: O) ss242 s₀) g₇ s₇ := S₇
    refine S₇.aug (i := q) (j := (best b x q).1) (.tail _ (.head _)) rfl k5 (ru₅.mono sg₇) (S₇.var rfl s5 (rz1.mono sg₇)) fun g₈ s₈ u8 r8 sg₈ S₈ kp₈ => ?_
    refine wpAny_execs_nil ⟨x.length - (q + (best b x q).1.toNat), upd (upd (upd m "size" z1) "number" z2) "k" u8, g₈, by omega, S₈, (sg₅.trans sg₇).trans sg₈, q + (best b x q).1.toNat, acc ++ tokAt b x q, rfl, fun y hy => ?_, ⟨u8, upd_eq, by rw [Int.natCast_add, hb1]; exact r8⟩, ac₇.stab sg₈ fun o e => kp₈ D hDf o e, ?_, ?_⟩
    ·exact (upd_ne (nc_head hy)).trans (((m5 y (nc_tail hy))).trans (hkeep y hy))
    ·rw [List.length_append]
     have : (tokAt b x q).length ≤ 1 := by unfold tokAt; split <;> simp
     omega
    ·rw [List.append_assoc, ← toks_step b x hq]; exact hacc
 ·have hdec : decide ((q : Int) < ((x.length : Nat) : Int)) = false := by simpa using hq
  rw [hdec]
  simp only [Bool.false_eq_true, if_false]
  have hfin : acc = tokens b x := by rw [toks_end b x hq, List.append_nil] at hacc; exact hacc
  subst hfin
  exact S₃.retOwn rfl md rfl (fun b hb => ⟨.tail _ hb, fun e => hDW (e ▸ hb)⟩) rfl ((sg₁.trans sg₂).trans sg₃) hDf fun g' s' sg' sh sg'' S' => AccL.res D g' s'.heap _ (ac₃.stab sg' fun o e => sh _ _ e) (S'.toStill hDf).2 fun o e => still_get o e
theorem call_tokens {vh vt : Value} {x : Str} {b : Book} {HP : Heap → Value → Prop} (hK : c.K = HK c.w.params) (hA : AOk 10 c.A)
  (hz : x.length + 8 ≤ sizeLine) (hrow : ∀ key, ((at? b key).getD []).length + 8 ≤ sizeLine) (hword : ∀ kv ∈ b, ∀ p ∈ kv.2, p.1.length ≤ sizeLine) (hm : Mono HP) (hH : HeadsOf c.w b HP) (hh : HP g vh) (ht : Rd g vt (.str x)) :
  Does c (call (.ref 242) [vh, vt]) (RdP (.list ((tokens b x).map encT))) g :=
 call_def (k := 9) (o := ob242 c.w.params) (fd := fd242 c.w.params) (body := bd242 c.w.params) (binds := [("heads", vh), ("text", vt)]) ss242 hK hA rfl rfl (by rfl) rfl rfl rfl rfl rfl rfl rfl rfl rfl rfl fun L W O s₀ g' s' hW sg S => tokens_body rfl hA hK hz hrow hword hm hH (hm _ _ _ sg hh) (ht.mono sg) S
end
end Mine
namespace Mine
open PySem PySem.W PySem.Calls PySem.Spec PyProof.Rows Builtin
noncomputable def ob108 (p : Params) : Obj := objOf (l := (HK p).lookup 108) rfl
noncomputable def clsOf {o : Obj} {cd : ClassData} {l : Option Obj} (_ : l = some o) (_ : o.data = .cls cd) : ClassData := cd
noncomputable def cd108 (p : Params) : ClassData := clsOf (l := (HK p).lookup 108) rfl rfl
theorem at108 (p : Params) : (HK p).lookup 108 = some (ob108 p) := rfl
section
variable {w : World} {A : Around} {h : Heap} {g : Array GenState} {d : Drawn} {t : Nat} {os : OsState} {R : Result → Shared → Prop}
theorem dict_new_108 {fa : Addr} (X : (HK w.params).In h)
  (hq : R (.ok (.ret (.ref (h.objs.size + 1)))) ⟨(h.push emptyDict).push { cls := .ref 108, dict := some h.objs.size, data := .dict #[] }, g, d, t, os⟩) :
  codeAny (model PG w) A (.call (.builtin "dict.__new__") ⟨[.ref 108, .ref fa], []⟩) R ⟨h, g, d, t, os⟩ := by
 have l1 : Looks (model PG w) h (checkBuiltinCall "dict.__new__" ⟨[.ref 108, .ref fa], []⟩) () := Looks.of_peek X (by rfl)
 have l2 : Looks (model PG w) h (isType (.ref 108)) true := Looks.of_peek X (by rfl)
 have l3 : Looks (model PG w) h (isSubtype (.ref 108) (.type "dict")) true := Looks.of_peek X (by rfl)
 have l4 : Looks (model PG w) h (mroOf (.ref 108)) [.ref 108, .type "collections.defaultdict", .type "dict", .type "object"] := Looks.of_peek X (by rfl)
 refine codeAny_call_builtin_code (Code.quiet_builtin _ (by decide +kernel)) (l1.at ?_)
 refine codeAny_builtin (entryFor_of_tree (by kernel_rfl) : entryFor table "dict.__new__" = some Builtin.«dict.__new__») ?_
 unfold Builtin.«dict.__new__»
 repeat lk
 refine nd_load (Heap.get?_push_of_some _ (Heap.get?_push_of_some _ (X _ _ (at108 w.params)))) ?_
 repeat lk
 show R _ _
 rw [Heap.size_push]
 exact hq
noncomputable abbrev hdObj (dx : Addr) (es : Array DictEntry) (ep : Nat) (sl : Array (Option Value)) : Obj := { cls := .ref 108, dict := some dx, data := .dict es ep, slots := sl }
theorem sub_same {g0 h h' : Heap} {x : Addr} (s0 : Sub g0 h) (n0 : g0.get? x = none) (sb : Heap.SameBut x h h') : Sub g0 h' := fun b o e => sb.extBut b o (fun q => by rw [q, n0] at e; cases e) (s0 b o e)
theorem dd_init {x fa dx : Addr} {g0 : Heap} (X0 : (HK w.params).In g0) (s0 : Sub g0 h) (n0 : g0.get? x = none) (hx : h.get? x = some (hdObj dx #[] 0 #[])) (hf : ∃ of, h.get? fa = some of ∧ of.cls = .type "function")
  (hq : ∀ h', h'.get? x = some (hdObj dx #[] 0 #[some (.ref fa)]) → Heap.SameBut x h h' → R (.ok (.ret .none)) ⟨h', g, d, t, os⟩) :
  codeAny (model PG w) A (.call (.builtin "collections.defaultdict.__init__") ⟨[.ref x, .ref fa], []⟩) R ⟨h, g, d, t, os⟩ := by
 have X := X0.keeps s0
 obtain ⟨of, hof, hfc⟩ := hf
 have t1 : Looks (model PG w) h (typeOf (.ref x)) (.ref 108) := (Looks.ld hx).andThen .now
 have t2 : Looks (model PG w) h (typeOf (.ref fa)) (.type "function") := hfc ▸ (Looks.ld hof).andThen .now
 have l1 : Looks (model PG w) h (isInstance (.ref x) (.type "collections.defaultdict")) true := t1.andThen (looks_mroIn X (by rfl))
 have l2 : Looks (model PG w) h (specialOf (.ref fa) "__call__") (some (.builtin "function.__call__")) := t2.andThen (looks_findIn X (by rfl))
 have hk : builtinKind "collections.defaultdict.__init__" = some .slot := by decide +kernel
 have hs : splitId "collections.defaultdict.__init__" = some ("collections.defaultdict", "__init__") := by decide +kernel
 have ha : argsOk "collections.defaultdict.__init__" ⟨[.ref x, .ref fa], []⟩ := by unfold argsOk; kernel_rfl
 have en : entryFor table "collections.defaultdict.__init__" = some Builtin.«collections.defaultdict.__init__» := entryFor_of_tree (by kernel_rfl)
 have pl : plainId "collections.defaultdict.__init__" = true := by decide +kernel
 refine codeAny_call_builtin pl en ?_
 refine @check_slot (model PG w) _ _ _ "collections.defaultdict.__init__" "collections.defaultdict" "__init__" (.ref x) [.ref fa] [] _ hk hs l1 ha ?_
 unfold Builtin.«collections.defaultdict.__init__»
 clear l1
 iterate 29 try lk
 show wpAny _ _ (updatePart x _ _) _ _ _
 refine wpAny_updatePart hx ?_
 have hx' : (h.update x fun o => { o with slots := (o.slots ++ Array.replicate (0 + 1 - o.slots.size) none).setIfInBounds 0 [Value.ref fa].head? }).get? x = some (hdObj dx #[] 0 #[some (.ref fa)]) := (Heap.get?_update_self _ hx rfl).trans (by simp)
 have sb : Heap.SameBut x h (h.update x fun o => { o with slots := (o.slots ++ Array.replicate (0 + 1 - o.slots.size) none).setIfInBounds 0 [Value.ref fa].head? }) := Heap.SameBut.update ..
 have hq' := hq _ hx' sb
 generalize (h.update x fun o => { o with slots := (o.slots ++ Array.replicate (0 + 1 - o.slots.size) none).setIfInBounds 0 [Value.ref fa].head? }) = h' at hx' sb hq' ⊢
 have X' : (HK w.params).In h' := X0.keeps (sub_same s0 n0 sb)
 have t3 : Looks (model PG w) h' (typeOf (.ref x)) (.ref 108) := (Looks.ld hx').andThen .now
 have l5 : Looks (model PG w) h' (isInstance (.ref x) (.type "collections.OrderedDict")) false := t3.andThen (looks_mroIn X' (by rfl))
 refine wpAny_bind (wpAny_holding (wpAny_runValue (codeAny_builtin (entryFor_of_tree (by kernel_rfl) : entryFor table "dict.__init__" = some Builtin.«dict.__init__») ?_)))
 have hC' : h'.get? 108 = some (ob108 w.params) := X' _ _ (at108 _)
 unfold Builtin.«dict.__init__»
 clear en hk hs ha pl t1 t2 l2 t3
 iterate 74 try lk
 exact hq'
end
end Mine
namespace Mine
open PySem PySem.W PySem.Calls PySem.Spec PyProof.Rows Builtin
section
variable {w : World} {A : Around} {h : Heap} {g : Array GenState} {d : Drawn} {t : Nat} {os : OsState} {R : Result → Shared → Prop}
theorem make_108 {fa : Addr} {g0 : Heap} (X0 : (HK w.params).In g0) (s0 : Sub g0 h) (hf : ∃ of, h.get? fa = some of ∧ of.cls = .type "function")
  (hq : ∀ h', h'.get? h.objs.size = some emptyDict → h'.get? (h.objs.size + 1) = some (hdObj h.objs.size #[] 0 #[some (.ref fa)]) → Sub h h' → R (.ok (.ret (.ref (h.objs.size + 1)))) ⟨h', g, d, t, os⟩) :
  codeAny (model PG w) A (.call (.ref 108) ⟨[.ref fa], []⟩) R ⟨h, g, d, t, os⟩ := by
 have X := X0.keeps s0
 have hC := X _ _ (at108 w.params)
 have call : Looks (model PG w) h (specialOf (.ref 108) "__call__") (some (.builtin "type.__call__")) := looks_specialIn X (by rfl)
 have typ : Looks (model PG w) h (isInstance (.ref 108) (.type "type")) true := looks_instIn X (by rfl)
 have hm : Looks (model PG w) h (mroOf (.ref 108)) [.ref 108, .type "collections.defaultdict", .type "dict", .type "object"] := Looks.of_peek X (by rfl)
 have made : Looks (model PG w) h (Bind.madeBy (.ref 108)) (some "dict.__new__") := Looks.of_peek X (by rfl)
 refine codeAny_of_tree ?_
 show wpAny _ _ (callAny (.ref 108) _) _ _ _
 refine nd_load hC ?_
 show wpAny _ _ (callAny.viaDunder (.ref 108) _) _ _ _
 unfold callAny.viaDunder
 refine wpAny_bind (call.at ?_)
 dsimp only
 rw [tc_bind]
 refine wpAny_bind (wpAny_pure (wpAny_bind (wpAny_pure ?_)))
 refine wpAny_pure (a := Fin.again (.call (.builtin "type.__call__") ⟨[.ref 108, .ref fa], []⟩)) (And.intro rfl ?_)
 refine codeAny_call_builtin_at (Code.quiet_builtin _ (by decide +kernel)) entry_typeCall (check_slot tc_kind tc_split typ (tc_args _ _ _) ?_)
 unfold Builtin.«type.__call__»
 repeat (first | with_reducible refine wpAny_call ?_ | lk)
 refine dict_new_108 X ?_
 have k : Sub h ((h.push emptyDict).push (hdObj h.objs.size #[] 0 #[])) := fun b o e => Heap.get?_push_of_some _ (Heap.get?_push_of_some _ e)
 have hx : ((h.push emptyDict).push (hdObj h.objs.size #[] 0 #[])).get? (h.objs.size + 1) = some (hdObj h.objs.size #[] 0 #[]) := by heap_get
 have hdx : ((h.push emptyDict).push (hdObj h.objs.size #[] 0 #[])).get? h.objs.size = some emptyDict := Heap.get?_push_of_some _ (Heap.get?_push_size _ rfl)
 have X1 := X.keeps k
 have t1 : Looks (model PG w) ((h.push emptyDict).push (hdObj h.objs.size #[] 0 #[])) (typeOf (.ref (h.objs.size + 1))) (.ref 108) := (Looks.ld hx).andThen .now
 have s1 : Looks (model PG w) ((h.push emptyDict).push (hdObj h.objs.size #[] 0 #[])) (isSubtype (.ref 108) (.ref 108)) true := looks_mroIn X1 (by rfl)
 have i1 : Looks (model PG w) ((h.push emptyDict).push (hdObj h.objs.size #[] 0 #[])) (typeLookup (.ref 108) "__init__") (some (.builtin "collections.defaultdict.__init__")) := looks_findIn X1 (by rfl)
 have b1 : Looks (model PG w) ((h.push emptyDict).push (hdObj h.objs.size #[] 0 #[])) (bindSpecial (.builtin "collections.defaultdict.__init__") (.ref (h.objs.size + 1))) (.builtin "collections.defaultdict.__init__", [.ref (h.objs.size + 1)]) := Looks.of_peek X1 (by rfl)
 unfold isInstance callSpecial? specialOf
 repeat (first | with_reducible refine wpAny_call ?_ | lk)
 have n0 : g0.get? (h.objs.size + 1) = none := Sub.none s0 (none_of_ge (Nat.le_succ _))
 refine dd_init X0 (s0.trans k) n0 hx (by obtain ⟨of, e1, e2⟩ := hf; exact ⟨of, k _ _ e1, e2⟩) fun h' e sb => ?_
 refine wpAny_pure (wpAny_pure ?_)
 exact hq h' (sb.extBut _ _ (Nat.ne_of_lt (Nat.lt_succ_self _)) hdx) e fun b o eb => sb.extBut b o (Nat.ne_of_lt (Nat.lt_succ_of_lt (Heap.lt_size eb))) (k b o eb)
end
end Mine
namespace Mine
open PySem PySem.W PySem.Calls PySem.Spec PyProof.Rows Builtin
noncomputable def HdAt (w : World) (h : Heap) (x dx fa : Addr) (kvs : List (Str × Value)) : Prop :=
 ∃ es ep, h.get? x = some (hdObj dx es ep #[some (.ref fa)]) ∧ KeysOf (strKind PG w) es ∧ Pairs (strKind PG w) es.toList kvs ∧ (kvs.map (·.1)).Nodup
theorem HdAt.at {w : World} {h h' : Heap} {x dx fa : Addr} {kvs} (H : HdAt w h x dx fa kvs) (k : ∀ o, h.get? x = some o → h'.get? x = some o) : HdAt w h' x dx fa kvs := let ⟨es, ep, e, r⟩ := H; ⟨es, ep, k _ e, r⟩
section
variable {w : World} {A : Around} {E : Value → Shared → Prop} {s : Shared} {x dx fa : Addr} {kvs : List (Str × Value)} {key : Str} {t : Tok}
theorem hd_get {Q : Option Value → Shared → Prop} (H : HdAt w s.heap x dx fa kvs) (h : Q (valueAt kvs key) { s with toks := s.toks + 1 }) : wpAny (model PG w) A (dictGet x (.str key t)) Q E s := by
 obtain ⟨es, ep, ho, hk, hp, _⟩ := H
 have hkey := strKind_is PG w key t
 unfold dictGet
 try with_reducible refine wpAny_holding ?_
 refine wpAny_bind ((strKind PG w).pyHash hkey (wpAny_bind (wpAny_dictFind_of (s := { s with toks := s.toks + 1 }) hkey ho rfl hk ?_)))
 have hf : findBy (strKind PG w).is es key = valueAt kvs key := by
  rw [← hp.find key]
  obtain ⟨l⟩ := es
  simp [findBy]
 rw [← hf, findBy_of_findIdx?] at h
 cases hi : es.findIdx? fun e => (strKind PG w).is key e.key with
 | none => rw [hi] at h; exact wpAny_pure h
 | some i => rw [hi] at h; exact wpAny_bind (wpAny_dictEntries (s := { s with toks := s.toks + 1 }) ho rfl (wpAny_pure h))
theorem hd_setdefault {v : Value} {Q : Value → Shared → Prop} (H : HdAt w s.heap x dx fa kvs) (hn : valueAt kvs key = none) (hz : kvs.length ≤ sizeLine)
  (h : ∀ h', HdAt w h' x dx fa (kvs ++ [(key, v)]) → Heap.SameBut x s.heap h' → Q v { s with heap := h', toks := s.toks + 1 }) : wpAny (model PG w) A (dictSetDefault x (.str key t) v) Q E s := by
 obtain ⟨es, ep, ho, hk, hp, hnd⟩ := H
 have hkey := strKind_is PG w key t
 have hes : es.size ≤ sizeLine := by
  have e1 := hp.length
  have e2 : es.toList.length = es.size := by simp
  omega
 unfold dictSetDefault
 try with_reducible refine wpAny_holding ?_
 refine wpAny_bind ((strKind PG w).pyHash hkey (wpAny_bind (wpAny_dictFind_of (s := { s with toks := s.toks + 1 }) hkey ho rfl hk ?_)))
 have hf : findBy (strKind PG w).is es key = valueAt kvs key := by
  rw [← hp.find key]
  obtain ⟨l⟩ := es
  simp [findBy]
 rw [hn, findBy_of_findIdx?] at hf
 have hidx : (es.findIdx? fun e => (strKind PG w).is key e.key) = kvs.findIdx? fun kv => decide (kv.1 = key) := by
  rw [← hp.findIdx key]; obtain ⟨l⟩ := es; simp
 cases hi : es.findIdx? fun e => (strKind PG w).is key e.key with
 | some i =>
  exfalso
  rw [hi] at hf
  have hlt : i < es.size := (Array.findIdx?_eq_some_iff_findIdx_eq.mp hi).1
  simp [Array.getElem?_eq_getElem hlt] at hf
 | none =>
  have hnot : key ∉ kvs.map (·.1) := not_mem_of_findIdx_none (hidx ▸ hi)
  refine wpAny_bind (wpAny_rule (wpAny_bind (wpAny_updateDictKeys (hz := hes) (s := { s with toks := s.toks + 1 }) ho rfl (wpAny_pure (h _ ⟨es.push ⟨(strKind PG w).hash key, .str key t, v⟩, ep + 1, ?_, hk.push hkey _, ?_, ?_⟩ (Heap.SameBut.update ..))))))
  ·rw [Heap.get?_update_self _ ho (Obj.isFreed_of_dict (Obj.data_mapDictKeys (o := hdObj dx es ep #[some (.ref fa)]) rfl _))]
   rfl
  ·have := hp.append hkey ((strKind PG w).hash key) v
   obtain ⟨l⟩ := es
   simpa using this
  ·rw [List.map_append, List.nodup_append]
   refine ⟨hnd, by simp, ?_⟩
   intro a ha b hb
   simp only [List.map_cons, List.map_nil, List.mem_singleton] at hb
   subst hb
   exact fun e => hnot (e ▸ ha)
theorem check_meth {M : Model} {A : Around} {E : Value → Shared → Prop} {s : Shared} {i owner n : String} {self : Value} {rest : List Value} {kw : List (Str × Value)} {Q : Unit → Shared → Prop}
  (hk : builtinKind i = some .method) (hs : splitId i = some (owner, n)) (hi : Looks M s.heap (isInstance self (.type owner)) true) (ha : argsOk i ⟨self :: rest, kw⟩) (q : Q () s) : wpAny M A (checkBuiltinCall i ⟨self :: rest, kw⟩) Q E s := by
 unfold checkBuiltinCall
 rw [hk]
 dsimp only
 rw [hs]
 dsimp only
 refine wpAny_bind (hi.here ?_)
 simp only [Bool.not_true, Bool.false_eq_true, if_false]
 cases hsig : Manifest.signature? i with
 | none => exact wpAny_pure q
 | some sig =>
  simp only [argsOk, hsig] at ha
  have h2 : Bind.checkArgs i sig ⟨self :: rest, kw⟩ = pure () := ha
  show wpAny M A (Bind.checkArgs i sig ⟨self :: rest, kw⟩) Q E s
  rw [h2]; exact wpAny_pure q
section
variable {h : Heap} {g : Array GenState} {d : Drawn} {tk : Nat} {os : OsState} {R : Result → Shared → Prop}
theorem getitem_hit {v : Value} (X : (HK w.params).In h) (H : HdAt w h x dx fa kvs) (hv : valueAt kvs key = some v) (hq : R (.ok (.ret v)) ⟨h, g, d, tk + 1, os⟩) :
  codeAny (model PG w) A (.call (.builtin "dict.__getitem__") ⟨[.ref x, .str key t], []⟩) R ⟨h, g, d, tk, os⟩ := by
 have H' := H
 obtain ⟨es, ep, ho, _⟩ := H
 have t1 : Looks (model PG w) h (typeOf (.ref x)) (.ref 108) := (Looks.ld ho).andThen .now
 have l1 : Looks (model PG w) h (isInstance (.ref x) (.type "dict")) true := t1.andThen (looks_mroIn X (by rfl))
 have hk : builtinKind "dict.__getitem__" = some .method := by decide +kernel
 have hs : splitId "dict.__getitem__" = some ("dict", "__getitem__") := by decide +kernel
 have ha : argsOk "dict.__getitem__" ⟨[.ref x, .str key t], []⟩ := PySem.F.args_dict_getitem_2 _ _
 have pl : plainId "dict.__getitem__" = true := by decide +kernel
 refine codeAny_call_builtin pl PySem.F.entry_dict_getitem ?_
 refine @check_meth (model PG w) _ _ _ "dict.__getitem__" "dict" "__getitem__" (.ref x) [.str key t] [] _ hk hs l1 ha ?_
 unfold Builtin.«dict.__getitem__»
 iterate 30 try (first | with_reducible refine hd_get (s := ⟨h, g, d, tk, os⟩) H' ?_ | lk)
 rw [hv]
 exact wpAny_pure hq
theorem getitem_miss (X : (HK w.params).In h) (H : HdAt w h x dx fa kvs) (hv : valueAt kvs key = none) (h3 : 3 < x)
  (hq : codeAny (model PG w) A.in1 (.call (.ref 98) ⟨[.ref x, .str key t], []⟩) (fun r s' => match r with | .ok (.ret v) => R (.ok (.ret v)) s' | .ok _ => False | .error e => R (.error e) s') ⟨h, g, d, tk + 1, os⟩) :
  codeAny (model PG w) A (.call (.builtin "dict.__getitem__") ⟨[.ref x, .str key t], []⟩) R ⟨h, g, d, tk, os⟩ := by
 have H' := H
 obtain ⟨es, ep, ho, _⟩ := H
 have t1 : Looks (model PG w) h (typeOf (.ref x)) (.ref 108) := (Looks.ld ho).andThen .now
 have l1 : Looks (model PG w) h (isInstance (.ref x) (.type "dict")) true := t1.andThen (looks_mroIn X (by rfl))
 have l2 : Looks (model PG w) h (specialOf (.ref x) "__missing__") (some (.ref 98)) := t1.andThen (looks_findIn X (by rfl))
 have l3 : Looks (model PG w) h (bindSpecial (.ref 98) (.ref x)) (.ref 98, [.ref x]) := bind_fn X _ (by rfl)
 have hk : builtinKind "dict.__getitem__" = some .method := by decide +kernel
 have hs : splitId "dict.__getitem__" = some ("dict", "__getitem__") := by decide +kernel
 have ha : argsOk "dict.__getitem__" ⟨[.ref x, .str key t], []⟩ := PySem.F.args_dict_getitem_2 _ _
 have pl : plainId "dict.__getitem__" = true := by decide +kernel
 have hms : ∀ A' Q E s', Q none s' → wpAny (model PG w) A' (Dict.missed x (.str key t)) Q E s' := fun A' Q E s' q => by
  unfold Dict.missed
  rw [sysNe h3]
  exact wpAny_pure q
 refine codeAny_call_builtin pl PySem.F.entry_dict_getitem ?_
 refine @check_meth (model PG w) _ _ _ "dict.__getitem__" "dict" "__getitem__" (.ref x) [.str key t] [] _ hk hs l1 ha ?_
 unfold Builtin.«dict.__getitem__»
 iterate 30 try (first | with_reducible refine hd_get (s := ⟨h, g, d, tk, os⟩) H' ?_ | lk)
 rw [hv]
 dsimp only
 iterate 6 try (first | refine hms _ _ _ _ ?_ | lk)
 unfold callSpecial?
 iterate 20 try (first | with_reducible refine wpAny_call ?_ | lk)
 refine codeAny_mono hq fun r s' z => ?_
 rcases r with e | (v | _ | _ | _) <;> first | exact z | exact z.elim | skip
 exact wpAny_pure (wpAny_bind (wpAny_rule (wpAny_pure z)))
end
end
end Mine
namespace Mine
open PySem PySem.W PySem.Calls PySem.Spec PyProof.Rows Builtin
section
variable {w : World} {A : Around} {E : Value → Shared → Prop} {h : Heap} {g : Array GenState} {d : Drawn} {tk : Nat} {os : OsState} {R : Result → Shared → Prop} {x so : Addr} {ox : Obj}
noncomputable def bmObj (x : Addr) : Obj := { cls := .type "builtin_function_or_method", data := .fields #[.builtin "collections.defaultdict.__missing__", .ref x] }
theorem md_get (X : (HK w.params).In h) (hx : h.get? x = some ox) (hxc : ox.cls = .ref 108) (hq : R (.ok (.ret (.ref h.objs.size))) ⟨h.push (bmObj x), g, d, tk, os⟩) :
  codeAny (model PG w) A (.call (.builtin "method_descriptor.__get__") ⟨[.builtin "collections.defaultdict.__missing__", .ref x, .ref 108], []⟩) R ⟨h, g, d, tk, os⟩ := by
 have t1 : Looks (model PG w) h (typeOf (.ref x)) (.ref 108) := hxc ▸ (Looks.ld hx).andThen .now
 have l1 : Looks (model PG w) h (isInstance (.ref x) (.type "collections.defaultdict")) true := t1.andThen (looks_mroIn X (by rfl))
 have l2 : Looks (model PG w) h (isType (.ref 108)) true := Looks.of_peek X (by rfl)
 have ty : Looks (model PG w) h (typeOf (.builtin "collections.defaultdict.__missing__")) (.type "method_descriptor") := looks_typeIn X (by rfl)
 have l0 : Looks (model PG w) h (isInstance (.builtin "collections.defaultdict.__missing__") (.type "method_descriptor")) true := looks_instIn X (by rfl)
 have en : entryFor table "method_descriptor.__get__" = some Builtin.«method_descriptor.__get__» := entryFor_of_tree (by kernel_rfl)
 have pl : plainId "method_descriptor.__get__" = true := by decide +kernel
 have hk : builtinKind "method_descriptor.__get__" = some .slot := by decide +kernel
 have hs : splitId "method_descriptor.__get__" = some ("method_descriptor", "__get__") := by decide +kernel
 have ha : argsOk "method_descriptor.__get__" ⟨[.builtin "collections.defaultdict.__missing__", .ref x, .ref 108], []⟩ := by unfold argsOk; kernel_rfl
 refine codeAny_call_builtin pl en ?_
 refine @check_slot (model PG w) _ _ _ "method_descriptor.__get__" "method_descriptor" "__get__" (.builtin "collections.defaultdict.__missing__") [.ref x, .ref 108] [] _ hk hs l0 ha ?_
 unfold Builtin.«method_descriptor.__get__»
 iterate 19 try lk
 have hc : "collections.defaultdict.__missing__".cutAt '.' = ["collections", "defaultdict", "__missing__"] := by decide +kernel
 have hi : ".".intercalate ["collections", "defaultdict"] = "collections.defaultdict" := by decide +kernel
 rw [hc]
 refine wpAny_pure ?_
 dsimp only [List.dropLast]
 rw [hi]
 iterate 21 try lk
 exact hq
theorem super_ga {t : Tok} {Q : Fin → Shared → Prop} (X : (HK w.params).In h) (hso : h.get? so = some { cls := .type "super", dict := none, data := .fields #[.ref 108, .ref x, .ref 108], slots := #[] }) (hx : h.get? x = some ox) (hxc : ox.cls = .ref 108) (hxC : x ≠ 108) (hq : Q (.done (.ret (.ref h.objs.size))) ⟨h.push (bmObj x), g, d, tk, os⟩) : wpAny (model PG w) A (Builtin.«super.__getattribute__» ⟨[.ref so, .str "__missing__" t], []⟩) Q E ⟨h, g, d, tk, os⟩ := by
 have hno : Looks (model PG w) h (opaqueClassAbove (.ref 108)) none := Looks.of_peek X (by rfl)
 have hC : Looks (model PG w) h (mroOf (.ref 108)) [.ref 108, .type "collections.defaultdict", .type "dict", .type "object"] := Looks.of_peek X (by rfl)
 have hl : (([.ref 108, .type "collections.defaultdict", .type "dict", .type "object"] : List Value).dropWhile (· != .ref 108)).drop 1 = [.type "collections.defaultdict", .type "dict", .type "object"] := by decide
 have hf : alongIn (HK w.params) "__missing__" [.type "collections.defaultdict", .type "dict", .type "object"] = some (some (.builtin "collections.defaultdict.__missing__")) := by rfl
 have hne : (Value.ref x == Value.ref 108) = false := by simp [hxC]
 have hn : (("__missing__" : Str) == ("__class__" : Str)) = false := by decide
 have hdt : ({ cls := .type "super", dict := none, data := .fields #[.ref 108, .ref x, .ref 108], slots := #[] } : Obj).data = .fields #[.ref 108, .ref x, .ref 108] := rfl
 have f0 : (#[.ref 108, .ref x, .ref 108] : Array Value)[0]? = some (.ref 108) := rfl
 have f1 : (#[.ref 108, .ref x, .ref 108] : Array Value)[1]? = some (.ref x) := rfl
 have f2 : (#[.ref 108, .ref x, .ref 108] : Array Value)[2]? = some (.ref 108) := rfl
 have ty : Looks (model PG w) h (typeOf (.builtin "collections.defaultdict.__missing__")) (.type "method_descriptor") := looks_typeIn X (by rfl)
 have lk1 : Looks (model PG w) h (typeLookup (.type "method_descriptor") "__get__") (some (.builtin "method_descriptor.__get__")) := looks_findIn X (by rfl)
 unfold Builtin.«super.__getattribute__»
 iterate 24 try (first
  | (with_reducible refine wpAny_field hso hdt f0 ?_) | (with_reducible refine wpAny_field hso hdt f1 ?_) | (with_reducible refine wpAny_field hso hdt f2 ?_)
  | (with_reducible refine ks_wpAny_notOpaque hno ?_)
  | (with_reducible refine Looks.at hC ?_; rw [hl])
  | (refine ks_forIn_along X (fun _ _ => rfl) rfl ?_ hf)
  | lk)
 have own : Looks (model PG w) h (classOwn (.type "collections.defaultdict") "__missing__") (some (.builtin "collections.defaultdict.__missing__")) := looks_ownIn X (by rfl)
 rw [List.forIn_cons]
 refine wpAny_bind (wpAny_bind (own.at ?_))
 dsimp only
 refine wpAny_bind (ty.at (wpAny_bind (lk1.at ?_)))
 dsimp only
 rw [hne]
 simp only [Bool.false_eq_true, if_false]
 refine wpAny_bind (wpAny_holding (wpAny_call (md_get X hx hxc ?_)))
 exact wpAny_bind (wpAny_pure (wpAny_pure (wpAny_pure (wpAny_pure hq))))
theorem super_attr {Q : Value → Shared → Prop} (X : (HK w.params).In h) (hso : h.get? so = some { cls := .type "super", dict := none, data := .fields #[.ref 108, .ref x, .ref 108], slots := #[] }) (hx : h.get? x = some ox) (hxc : ox.cls = .ref 108) (hxC : x ≠ 108)
  (hq : Q (.ref h.objs.size) ⟨h.push (bmObj x), g, d, tk + 1, os⟩) (ex : Bool) : wpAny (model PG w) A (getAttr (.ref so) "__missing__" ex) Q E ⟨h, g, d, tk, os⟩ := by
 have hT : ∀ t, (⟨h, g, d, t, os⟩ : Shared).TypeIs (.ref so) "super" := fun t => ⟨_, hso, rfl⟩
 have hlk := PySem.F.ks_slot_super_ga.lookup
 unfold getAttr getAttrBy
 refine wpAny_bind (wpAny_mkText (wpAny_holding (wpAny_bind (wpAny_typeOf (hT _) (wpAny_bind (wpAny_of_eq hlk ?_))))))
 show wpAny _ _ (getAttrByItsOwn (.ref so) (.str "__missing__" tk) (.type "super") (.builtin "super.__getattribute__") true ex) _ _ _
 unfold getAttrByItsOwn hookBefore callGetattribute boundAndCalled
 refine wpAny_bind (wpAny_of_eq (show (if onTheHeap (.type "super") then typeLookup (.type "super") "__getattr__" else pure none) = pure none from rfl) ?_)
 refine wpAny_bind (wpAny_attempt (wpAny_holding ?_))
 rw [show (ex && onTheHeap (.builtin "super.__getattribute__")) = false by cases ex <;> rfl]
 show wpAny _ _ (bindSpecial (.builtin "super.__getattribute__") (.ref so) >>= _) _ _ _
 refine wpAny_bind (wpAny_of_eq (PySem.F.ks_slot_super_ga.bind _) ?_)
 refine wpAny_mono (Q := fun v s' => v = .ref h.objs.size ∧ s' = ⟨h.push (bmObj x), g, d, tk + 1, os⟩) (E := fun _ _ => False)
  (wpAny_call_entry PySem.F.ks_slot_super_ga (hT _) PySem.F.ks_entry_super_ga (super_ga X hso hx hxc hxC ⟨_, rfl, rfl, rfl⟩) (PySem.F.ks_gaArgs_super _ _)) (fun v s' hv => ?_) fun _ _ z => z.elim
 obtain ⟨rfl, rfl⟩ := hv
 exact wpAny_pure hq
end
end Mine
namespace Mine
open PySem PySem.W PySem.Calls PySem.Spec PyProof.Rows Builtin
section
variable {w : World} {A : Around} {E : Value → Shared → Prop} {h : Heap} {g : Array GenState} {d : Drawn} {tk : Nat} {os : OsState} {R : Result → Shared → Prop} {x dx : Addr} {ox od : Obj} {t : Tok}
theorem ga_108_open {name : Str} {expr : Bool} {fill : Bool} {Q : Value → Shared → Prop} (X : (HK w.params).In h) (I : InstAt h x ox 108 (some od))
  (hq : wpAny (model PG w) A.in1 (Builtin.«object.__getattribute__» ⟨[.ref x, .str name t], []⟩) (fun fin s' => ∃ v, fin = .done (.ret v) ∧ wpAny (model PG w) A (handedOut v) Q E s')
   (fun e s' => wpAny (model PG w) A (getattributeRaised (.ref x) (.str name t) (.ref 108) e none fill expr) Q E s') ⟨h, g, d, tk, os⟩) :
  wpAny (model PG w) A (getAttrBy (.ref x) (.str name t) fill expr) Q E ⟨h, g, d, tk, os⟩ := by
 have hc : ox.cls = .ref 108 := I.cls
 have t1 : Looks (model PG w) h (typeOf (.ref x)) (.ref 108) := hc ▸ (Looks.ld I.at_).andThen .now
 have l1 : Looks (model PG w) h (typeLookup (.ref 108) "__getattribute__") (some (.builtin "collections.defaultdict.__getattribute__")) := looks_findIn X (by rfl)
 have l2 : Looks (model PG w) h (typeLookup (.ref 108) "__getattr__") none := looks_findIn X (by rfl)
 have l3 : Looks (model PG w) h (bindSpecial (.builtin "collections.defaultdict.__getattribute__") (.ref x)) (.builtin "collections.defaultdict.__getattribute__", [.ref x]) := Looks.of_peek X (by rfl)
 have l4 : Looks (model PG w) h (isInstance (.ref x) (.type "collections.defaultdict")) true := t1.andThen (looks_mroIn X (by rfl))
 have hk : builtinKind "collections.defaultdict.__getattribute__" = some .slot := by decide +kernel
 have hs : splitId "collections.defaultdict.__getattribute__" = some ("collections.defaultdict", "__getattribute__") := by decide +kernel
 have ha : argsOk "collections.defaultdict.__getattribute__" ⟨[.ref x, .str name t], []⟩ := by unfold argsOk; kernel_rfl
 have en : entryFor table "collections.defaultdict.__getattribute__" = some Builtin.«object.__getattribute__» := entryFor_alias (id' := "object.__getattribute__") (by kernel_rfl) (by decide +kernel) (by decide +kernel) (by kernel_rfl)
 have pl : plainId "collections.defaultdict.__getattribute__" = true := by decide +kernel
 unfold getAttrBy
 refine wpAny_holding (wpAny_bind (t1.at (wpAny_bind (l1.at ?_))))
 dsimp only
 rw [show (onTheHeap (.ref 108) && (Value.builtin "collections.defaultdict.__getattribute__" == Value.builtin "object.__getattribute__")) = false by decide +kernel]
 unfold getAttrByItsOwn hookBefore callGetattribute boundAndCalled
 refine wpAny_bind (l2.at (wpAny_bind (wpAny_attempt (wpAny_holding ?_))))
 rw [show (expr && onTheHeap (.builtin "collections.defaultdict.__getattribute__")) = false by cases expr <;> rfl]
 show wpAny _ _ (bindSpecial (.builtin "collections.defaultdict.__getattribute__") (.ref x) >>= _) _ _ _
 refine wpAny_bind (l3.at ?_)
 refine wpAny_call (codeAny_call_builtin pl en ?_)
 refine @check_slot (model PG w) _ _ _ "collections.defaultdict.__getattribute__" "collections.defaultdict" "__getattribute__" (.ref x) [.str name t] [] _ hk hs l4 ha ?_
 refine wpAny_mono hq (fun fin s' z => ?_) fun _ _ z => z
 obtain ⟨v, rfl, z⟩ := z
 exact z
theorem gets3 {dv : Value} {nt : Tok} {Q : Value → Shared → Prop} (X : (HK w.params).In h) (I : InstAt h x ox 108 (some od))
  (hq : wpAny (model PG w) A.in1 (getAttrBy (.ref x) (.str "_frozen" nt) false) (fun v s' => Q v s') (fun e s' => wpAny (model PG w) A.in1 (isInstance e (.type "AttributeError")) (fun b s'' => if b then Q dv s'' else False) (fun _ _ => False) s') ⟨h, g, d, tk, os⟩) :
  wpAny (model PG w) A (call (.builtin "getattr") [.ref x, .str "_frozen" nt, dv]) Q E ⟨h, g, d, tk, os⟩ := by
 have hc : ox.cls = .ref 108 := I.cls
 have t1 : Looks (model PG w) h (typeOf (.ref x)) (.ref 108) := hc ▸ (Looks.ld I.at_).andThen .now
 have l1 : Looks (model PG w) h (isInstance (.ref x) (.type "module")) false := t1.andThen (looks_mroIn X (by rfl))
 refine Calls.call_function_entry KB.kind_getattr KB.plain_getattr KB.entry_getattr (by unfold argsOk; kernel_rfl) ?_
 unfold Builtin.«getattr»
 refine wpAny_bind (wpAny_of_eq (a := [.ref x, .str "_frozen" nt, dv]) (by first | rfl | kernel_rfl) ?_)
 dsimp only
 refine wpAny_bind (wpAny_of_eq (a := ()) (by first | rfl | kernel_rfl) ?_)
 iterate 20 try lk
 unfold getAttrBy?
 refine wpAny_bind (wpAny_attempt (wpAny_mono hq (fun v s' z => ?_) fun e s' z => ?_))
 ·exact wpAny_pure (wpAny_pure ⟨_, rfl, z⟩)
 ·refine wpAny_bind (wpAny_mono z (fun b s'' z => ?_) fun _ _ z => z.elim)
  cases b with
  | true => exact wpAny_pure (wpAny_pure ⟨_, rfl, z⟩)
  | false => exact z.elim
theorem find_frozen {z : Value} (hl : lookIn "_frozen" od = some (some z)) (hh : handedIn z = true) (I : InstAt h x ox 108 (some od)) : findObj (HK w.params) 108 (some od) "_frozen" = some (.value z) := by
 have h1 : findIn (HK w.params) (.ref 108) "_frozen" = some none := by rfl
 exact findObj_own (attr := none) (by rfl) h1 (by rfl) hl
theorem find_unfrozen (hl : lookIn "_frozen" od = some none) : findObj (HK w.params) 108 (some od) "_frozen" = some .missing := by
 have h1 : findIn (HK w.params) (.ref 108) "_frozen" = some none := by rfl
 have h2 : (clsIn (HK w.params) 108) = some (cd108 w.params) := by rfl
 have h3 : W.ownOf (cd108 w.params) (some od) "_frozen" = some none := by
  unfold W.ownOf
  rw [show (cd108 w.params).hasDict = true from rfl, if_pos rfl]
  exact hl
 unfold findObj
 rw [h2, h1]
 simp only [Option.bind_some]
 rw [h3]
 simp only [Option.bind_some]
 rw [if_neg (by rw [show copiedNames.contains "_frozen" = false by decide +kernel]; simp)]
theorem wp_getattr_frozen {z dv : Value} {nt : Tok} {Q : Value → Shared → Prop} (X : (HK w.params).In h) (I : InstAt h x ox 108 (some od)) (hl : lookIn "_frozen" od = some (some z)) (hh : handedIn z = true)
  (hq : Q z ⟨h, g, d, tk, os⟩) : wpAny (model PG w) A (call (.builtin "getattr") [.ref x, .str "_frozen" nt, dv]) Q E ⟨h, g, d, tk, os⟩ := by
 have L1 := looks_find (M := model PG w) X I (find_frozen hl hh I)
 have L0 := I.type (M := model PG w)
 refine gets3 X I (ga_108_open X I ?_)
 unfold Builtin.«object.__getattribute__»
 refine wpAny_bind (wpAny_of_eq (a := (.ref x, [.str "_frozen" nt])) (by first | rfl | kernel_rfl) ?_)
 dsimp only
 refine wpAny_bind (wpAny_pure (wpAny_bind (L0.at (wpAny_bind (L1.at ?_)))))
 refine wpAny_pure ⟨_, rfl, ?_⟩
 rw [handedOut_of hh]
 exact wpAny_pure hq
theorem wp_getattr_unfrozen {dv : Value} {nt : Tok} {Q : Value → Shared → Prop} (X : (HK w.params).In h) (I : InstAt h x ox 108 (some od)) (hl : lookIn "_frozen" od = some none) (hA : A.handled = none)
  (hq : ∀ h' tk', Sub h h' → Q dv ⟨h', g, d, tk', os⟩) : wpAny (model PG w) A (call (.builtin "getattr") [.ref x, .str "_frozen" nt, dv]) Q E ⟨h, g, d, tk, os⟩ := by
 have L1 := looks_find (M := model PG w) X I (find_unfrozen hl)
 have L0 := I.type (M := model PG w)
 refine gets3 X I (ga_108_open X I ?_)
 unfold Builtin.«object.__getattribute__»
 refine wpAny_bind (wpAny_of_eq (a := (.ref x, [.str "_frozen" nt])) (by first | rfl | kernel_rfl) ?_)
 dsimp only
 refine wpAny_bind (wpAny_pure (wpAny_bind (L0.at (wpAny_bind (L1.at ?_)))))
 dsimp only
 rw [show ((Value.ref 108 == Value.type "module") = false) from rfl, show ((Value.ref 108 == Value.type "type") = false) from rfl]
 simp only [Bool.false_eq_true, if_false]
 show wpAny _ _ (ObjectAttr.noSuchAttribute (.ref x) "_frozen") _ _ _
 unfold ObjectAttr.noSuchAttribute
 have n1 : Looks (model PG w) h (typeNameOfCut 100 (.ref x)) "FreezableDefaultDict" := by
  unfold typeNameOfCut shownTypeOf
  intro A Q E s k q
  refine wpAny_bind (wpAny_bind (L0 A _ E s k ?_))
  rw [show ((Value.ref 108 == Value.type "builtin_function_or_method") = false) from rfl]
  refine wpAny_pure ?_
  have n0 : Looks (model PG w) h (typeNameCut 100 (.ref 108)) "FreezableDefaultDict" := Looks.of_peek X (by rfl)
  exact n0 A Q E s k q
 refine wpAny_bind (n1.at ?_)
 refine wpAny_raiseAttrError hA (fun h' tk' e he => ?_) (attrMsg_fits (by decide +kernel) (by size_fits))
 obtain ⟨tt, uu, het⟩ := he.there
 have X' : (HK w.params).In h' := X.keeps he.keeps
 have l2 : Looks (model PG w) h' (isInstance (.ref e) (.type "AttributeError")) true := by
  intro A Q E s k q
  unfold isInstance
  refine wpAny_bind (((Looks.ld het).andThen .now : Looks (model PG w) h' (typeOf (.ref e)) (.type "AttributeError")) A _ E s k ?_)
  rw [sub_AttributeError]
  exact wpAny_pure q
 unfold getattributeRaised
 refine wpAny_bind (l2.at ?_)
 rw [if_pos rfl]
 refine wpAny_bind (wpAny_pure ?_)
 show wpAny _ _ (attributeErrorLeaves (.ref x) (.str "_frozen" nt) (.ref e) false false) _ _ _
 unfold attributeErrorLeaves
 refine wpAny_bind (wpAny_throw ?_)
 exact l2.at (hq _ _ he.keeps)
end
end Mine
namespace Mine
open PySem PySem.W PySem.Calls PySem.Spec PyProof.Rows Builtin
noncomputable abbrev noPar : Arguments := { posonlyargs := [], args := [], vararg := none, kwonlyargs := [], kw_defaults := [], kwarg := none, defaults := [] }
noncomputable abbrev noScope : Scope := { kind := .function, names := [], isGenerator := false, isCoroutine := false }
theorem wpAny_callBorrowed {M : Model} {A : Around} {E : Value → Shared → Prop} {s : Shared} {f : Value} {pos : List Value} {Q : Value → Shared → Prop}
  (hc : codeAny M A (.call f ⟨pos, []⟩) (fun r s' => match r with | .ok (.ret v) => Q v s' | .ok _ => False | .error e => E e s') s) :
  wpAny M A (callBorrowed f pos) Q E s := fun Γ p hΓ => by
 unfold callBorrowed
 refine wpCode_mono (fun r s' z => ?_) (hc _ p rfl (hΓ.enter _ none p (by intro x; cases x)))
 rcases r with e | (v | _ | _ | _)
 all_goals first | exact z | exact z.elim
noncomputable def Fac (h : Heap) (fa : Addr) : Prop := ∃ name qual pm ctv c' bp, h.get? fa = some (kla_obj name qual noPar (.List [] bp) noScope [] pm c' ctv) ∧ h.CodeRec (.ref c') qual
theorem Fac.mono {h h' : Heap} {fa : Addr} (x : Fac h fa) (s : Sub h h') : Fac h' fa := by
 obtain ⟨n, q, pm, ctv, c', bp, e, r⟩ := x
 exact ⟨n, q, pm, ctv, c', bp, s _ _ e, r.keeps s⟩
noncomputable abbrev listObj (vs : Array Value) : Obj := { cls := .type "list", data := .seq vs }
section
variable {w : World} {A : Around} {E : Value → Shared → Prop} {h : Heap} {g : Array GenState} {d : Drawn} {tk : Nat} {os : OsState} {R : Result → Shared → Prop} {x dx fa : Addr} {ox od : Obj} {t : Tok} {key : Str}
theorem fac_call (F : Fac h fa) (hlim : h.NoLimit) (hroom : A.depth < recursionLimit)
  (hq : ∀ h' n tk', Sub h h' → h.get? n = none → h'.get? n = some (listObj #[]) → R (.ok (.ret (.ref n))) ⟨h', g, d, tk', os⟩) :
  codeAny (model PG w) A (.call (.ref fa) ⟨[], []⟩) R ⟨h, g, d, tk, os⟩ := by
 obtain ⟨n, q, pm, ctv, c', bp, e, r⟩ := F
 refine kla_callFunE hroom e rfl rfl rfl rfl r ?_
 show wpAny _ _ (pure []) _ _ _
 refine wpAny_pure (wpAny_newFunctionEnv (by intro x hx; cases hx) (by intro x hx; cases hx) (fun h₁ hns hsb => ⟨hlim.fresh _ hsb, ?_⟩) rfl)
 have k1 : Sub h h₁ := fun b o e => hsb.extBut b o (Nat.ne_of_lt (Heap.lt_size e)) (Heap.get?_push_of_some _ e)
 refine kla_codeExpr ?_
 refine wpAny_List_spliced (wpAny_pure ⟨Nat.zero_le _, ?_⟩)
 refine hq _ h₁.objs.size _ (k1.trans Sub.push) ?_ (Heap.get?_push_size _ rfl)
 exact none_of_ge (Nat.le_of_lt (hns.lt))
theorem bm_open {b : Addr} (X : (HK w.params).In h) (hb : h.get? b = some (bmObj x)) {es : Array DictEntry} {ep : Nat} {sl : Array (Option Value)} (hx : h.get? x = some (hdObj dx es ep sl))
  (hq : codeAny (model PG w) A (.builtin "collections.defaultdict.__missing__" ⟨[.ref x, .str key t], []⟩) R ⟨h, g, d, tk, os⟩) :
  codeAny (model PG w) A (.call (.ref b) ⟨[.str key t], []⟩) R ⟨h, g, d, tk, os⟩ := by
 have t1 : Looks (model PG w) h (typeOf (.ref x)) (.ref 108) := (Looks.ld hx).andThen .now
 have l1 : Looks (model PG w) h (isInstance (.ref x) (.type "module")) false := t1.andThen (looks_mroIn X (by rfl))
 have l2 : Looks (model PG w) h (typeOf (.ref 108)) (.type "type") := Looks.of_peek X (by rfl)
 have l3 : Looks (model PG w) h (isType (.ref x)) false := (Looks.ld hx).andThen .now
 have l4 : Looks (model PG w) h (classData 108) (cd108 w.params) := looks_clsIn X (by rfl)
 refine codeAny_of_tree ?_
 show wpAny _ _ (callAny (.ref b) _) _ _ _
 refine nd_load hb ?_
 iterate 5 try lk
 simp only [List.getElem_toArray, List.getElem_cons_succ, List.getElem_cons_zero]
 iterate 30 try lk
 refine wpAny_pure ?_
 exact wpAny_pure (a := Fin.again (.builtin "collections.defaultdict.__missing__" ⟨[.ref x, .str key t], []⟩)) (And.intro (Code.quiet_builtin _ (by decide +kernel)) hq)
theorem dd_missing {es : Array DictEntry} {ep : Nat} {kvs : List (Str × Value)} (X0 : (HK w.params).In h) (H : HdAt w h x dx fa kvs) (F : Fac h fa) (hv : valueAt kvs key = none) (hz : kvs.length ≤ sizeLine) (h3 : 3 < x) (hlim : h.NoLimit) (hroom : A.depth < recursionLimit)
  (hq : ∀ h' n tk', Heap.ExtBut x h h' → h.get? n = none → h'.get? n = some (listObj #[]) → HdAt w h' x dx fa (kvs ++ [(key, .ref n)]) → R (.ok (.ret (.ref n))) ⟨h', g, d, tk', os⟩) :
  codeAny (model PG w) A (.builtin "collections.defaultdict.__missing__" ⟨[.ref x, .str key t], []⟩) R ⟨h, g, d, tk, os⟩ := by
 obtain ⟨es, ep, ho, hke, hpa, hnd⟩ := id H
 obtain ⟨fn, fq, fpm, fctv, fc', fbp, hfa, hfr⟩ := id F
 have en : entryFor table "collections.defaultdict.__missing__" = some Builtin.«collections.defaultdict.__missing__» := entryFor_of_tree (by kernel_rfl)
 refine codeAny_builtin en ?_
 unfold Builtin.«collections.defaultdict.__missing__»
 iterate 30 try lk
 refine wpAny_pure ?_
 rw [if_pos rfl]
 refine wpAny_callBorrowed (fac_call F hlim hroom fun h' n tk' sb hn hn' => ?_)
 have X' := X0.keeps sb
 have H' : HdAt w h' x dx fa kvs := H.at fun o e => sb _ _ e
 have hnx : x ≠ n := fun q => by subst q; rw [ho] at hn; cases hn
 refine wpAny_pure (a := Fin.again (.builtin "dict.setdefault" ⟨[.ref x, .str key t, .ref n], []⟩)) (And.intro (Code.quiet_builtin _ (by decide +kernel)) ?_)
 have ho' := sb _ _ ho
 have t1 : Looks (model PG w) h' (typeOf (.ref x)) (.ref 108) := (Looks.ld ho').andThen .now
 have l1 : Looks (model PG w) h' (isInstance (.ref x) (.type "collections.OrderedDict")) false := t1.andThen (looks_mroIn X' (by rfl))
 have hC' : h'.get? 108 = some (ob108 w.params) := X' _ _ (at108 _)
 have en2 : entryFor table "dict.setdefault" = some Builtin.«dict.setdefault» := entryFor_of_tree (by kernel_rfl)
 refine codeAny_builtin en2 ?_
 unfold Builtin.«dict.setdefault»
 clear en en2 t1
 iterate 59 try lk
 refine wpAny_of_eq (a := ()) (by first | rfl | kernel_rfl) ?_
 iterate 9 try lk
 rw [show (x == sysModules) = false from sysNe h3]
 simp only [Bool.false_eq_true, if_false]
 refine wpAny_bind (hd_setdefault (s := ⟨h', g, d, tk', os⟩) H' hv hz fun h'' H'' sb2 => ?_)
 refine wpAny_pure ?_
 exact hq _ _ _ (fun b o hb e => sb2.extBut b o hb (sb _ _ e)) hn (sb2.extBut _ _ (fun q => hnx q.symm) hn') H''
end
end Mine
namespace Mine
open PySem PySem.W PySem.Calls PySem.Spec PyProof.Rows Builtin
section
variable {α : Type} {M : Model} {A : Around} {c : Code} {E : Value → Shared → Prop} {s : Shared}
theorem at_spliced_nil {Q : List Value → Shared → Prop} (h : Q [] s) : PySem.wpAt M A c (spliced []) Q E s := wpAt_of_wpAny (wpAny_pure h)
theorem at_spliced_cons {t : Sem Value} {rest : List (Bool × Sem Value)} {Q : List Value → Shared → Prop} (h : PySem.wpAt M A c t (fun v s₁ => PySem.wpAt M A c (spliced rest) (fun vs s₂ => Q (v :: vs) s₂) E s₁) E s) : PySem.wpAt M A c (spliced ((false, t) :: rest)) Q E s := by
 unfold spliced
 refine PySem.wpAt_bind (ks_wpAt_mono h (fun v s₁ h₁ => ?_) fun _ _ z => z)
 refine PySem.wpAt_bind (wpAt_of_wpAny (wpAny_pure ?_))
 exact PySem.wpAt_bind (ks_wpAt_holding (ks_wpAt_mono h₁ (fun vs s₂ h₂ => wpAt_of_wpAny (wpAny_pure h₂)) fun _ _ z => z))
theorem at_evalArgs {f : Value} {t : Sem Value} {rest : List (Bool × Sem Value)} {Q : Args → Shared → Prop} (h : PySem.wpAt M A c (spliced ((false, t) :: rest)) (fun vs s₁ => Q ⟨vs, []⟩ s₁) E s) : PySem.wpAt M A c (evalArgs f true ((false, t) :: rest) []) Q E s := by
 unfold evalArgs
 dsimp only
 generalize spliced ((false, t) :: rest) = sp at h ⊢
 refine PySem.wpAt_bind (ks_wpAt_mono h (fun vs s₁ h₁ => ?_) fun _ _ z => z)
 refine PySem.wpAt_bind (wpAt_of_wpAny (wpAny_pure ?_))
 refine ks_wpAt_holding (wpAt_of_wpAny ?_)
 exact wpAny_bind (wpAny_pure (wpAny_bind (wpAny_pure (wpAny_pure h₁))))
theorem at_callWith_b {pos : Pos} {id : String} {t : Sem Value} {rest : List (Bool × Sem Value)} {Q : Value → Shared → Prop} (hp : rest.any (·.1) = false)
  (h : PySem.wpAt M A c (spliced ((false, t) :: rest)) (fun vs s₁ => wpAny M A (call (.builtin id) vs) Q E s₁) E s) : PySem.wpAt M A c (callWith pos (.builtin id) [] ((false, t) :: rest) []) Q E s := by
 unfold callWith
 refine PySem.wpAt_bind (ks_wpAt_holding (at_evalArgs (ks_wpAt_mono h (fun vs s₁ h₁ => wpAt_of_wpAny (wpAny_bind (wpAny_standAt ?_))) fun _ _ z => z)))
 simp only [List.any_cons, hp, Bool.or_false, List.any_nil, List.nil_append]
 refine wpAny_bind (wpAny_pure ?_)
 exact wpAny_bind (wpAny_mono h₁ (fun r s₂ hr => wpAny_bind (wpAny_holding (wpAny_point (wpAny_pure hr)))) fun _ _ x => x)
end
theorem noCells {names : List (Str × NameKind)} (h : names.all (fun x => x.2 != .cell) = true) : ∀ x ∈ names, x.2 ≠ .cell := fun x hx => by simpa using List.all_eq_true.mp h x hx
theorem allLoc {names : List (Str × NameKind)} {binds : List (Str × Value)} (h : (binds.map (·.1)).all (fun x => names.lookup x == some .local) = true) : ∀ x ∈ binds, names.lookup x.1 = some .local := fun x hx => by simpa using List.all_eq_true.mp h x.1 (List.mem_map_of_mem hx)
section
variable {M : Model} {A : Around} {E : Value → Shared → Prop} {s : Shared}
theorem callWith_any1 {pos : Pos} {f : Value} {t : Sem Value} {Q : Value → Shared → Prop}
  (h : wpAny M A t (fun v s₁ => (∃ k, Looks M s₁.heap (keeperOf f) k) ∧ wpAny M A (call f [v]) Q E s₁) E s) : wpAny M A (callWith pos f [] [(false, t)] []) Q E s := by
 unfold callWith
 refine wpAny_bind (wpAny_holding (Calls.evalArgs_plain (Calls.spliced_cons (wpAny_mono h (fun v s₁ h₁ => Calls.spliced_nil (wpAny_bind (wpAny_standAt ?_))) fun _ _ x => x))))
 obtain ⟨⟨k, hk⟩, hc⟩ := h₁
 have tail : ∀ {t : Sem Value}, wpAny M A t Q E s₁ → wpAny M A (t >>= fun r => holding [r] point >>= fun _ => pure r) Q E s₁ :=
  fun ht => wpAny_bind (wpAny_mono ht (fun r s₂ hr => wpAny_bind (wpAny_holding (wpAny_point (wpAny_pure hr)))) fun _ _ x => x)
 simp only [List.any_cons, List.any_nil, Bool.or_false, List.nil_append]
 refine wpAny_bind (hk A _ _ s₁ (fun _ _ e => e) ?_)
 cases k
 ·exact tail (by unfold callMarked; exact Calls.wpAny_keep hc)
 ·exact tail (by unfold callMarked; exact Calls.wpAny_keep hc)
 ·exact tail hc
 ·exact tail (wpAny_operateT hc)
end
noncomputable def fd98 (p : Params) : FuncData := fdOf (l := (HK p).lookup 98) rfl rfl
noncomputable def ob98 (p : Params) : Obj := objOf (l := (HK p).lookup 98) rfl
noncomputable def bd98 (p : Params) : List Stmt := bodyOf (fd := fd98 p) rfl
section
variable {w : World} {A : Around} {E : Value → Shared → Prop} {h : Heap} {g : Array GenState} {d : Drawn} {tk : Nat} {os : OsState} {R : Result → Shared → Prop} {x dx fa : Addr} {ox od : Obj} {t : Tok} {key : Str}
theorem at98 (p : Params) : (HK p).lookup 98 = some (ob98 p) := rfl
noncomputable def ob97 (p : Params) : Obj := objOf (l := (HK p).lookup 97) rfl
noncomputable def fieldsOf {o : Obj} {vs : Array Value} (_ : o.data = .fields vs) : Array Value := vs
noncomputable def vs97 (p : Params) : Array Value := fieldsOf (o := ob97 p) rfl
theorem at97 (p : Params) : (HK p).lookup 97 = some (ob97 p) := rfl
noncomputable def ob86 (p : Params) : Obj := objOf (l := (HK p).lookup 86) rfl
theorem at86 (p : Params) : (HK p).lookup 86 = some (ob86 p) := rfl
theorem missing_open {loose : List Str} {mean : ExcName → Option Value} {mg mb : Str → Option Value} {res : Value → Value} {es : Array DictEntry} {ep : Nat} {sl : Array (Option Value)}
  (X : (HK w.params).In h) (T : Top topProg loose mean mg mb h) (hA : AOk 3 A) (hx : h.get? x = some (hdObj dx es ep sl)) (hxC : x ≠ 108)
  (hget : ∀ A' h₁ tk₁ nt dv E' (Q : Value → Shared → Prop), A'.handled = none → Sub h h₁ → (∀ h₂ tk₂, Sub h₁ h₂ → Q (res dv) ⟨h₂, g, d, tk₂, os⟩) → wpAny (model PG w) A' (call (.builtin "getattr") [.ref x, .str "_frozen" nt, dv]) Q E' ⟨h₁, g, d, tk₁, os⟩)
  (hcall : ∀ env h₂ tk₂ bm, Sub h h₂ → h₂.get? bm = some (bmObj x) → (∃ k, Looks (model PG w) h₂ (keeperOf (res (.ref bm))) k) ∧
   codeAny (model PG w) (A.deeper env) (.call (res (.ref bm)) ⟨[.str key t], []⟩) (fun r s' => match r with | .ok (.ret v) => R (.ok (.ret v)) s' | _ => False) ⟨h₂, g, d, tk₂, os⟩) :
  codeAny (model PG w) A (.call (.ref 98) ⟨[.ref x, .str key t], []⟩) R ⟨h, g, d, tk, os⟩ := by
 refine ks_codeAny_call_defAt (fd := fd98 w.params) (body := bd98 w.params) (binds := [("self", .ref x), ("key", .str key t)]) hA.room (X _ _ (at98 _)) rfl T.nolimit (codeRec_of X rfl) rfl (.of_eq rfl) (noCells rfl) (allLoc rfl) (fun h₀ hns hk => ?_)
 refine ks_wpAt_execs_cons (ks_wpAt_Return_some ?_)
 have hks : (callEnv (fd98 w.params) h.objs.size 98).kindOf "super" = some .globalImplicit := rfl
 have hkc : (callEnv (fd98 w.params) h.objs.size 98).kindOf "__class__" = some .free := rfl
 have hkg : (callEnv (fd98 w.params) h.objs.size 98).kindOf "getattr" = some .globalImplicit := rfl
 have hk1 : (callEnv (fd98 w.params) h.objs.size 98).kindOf "self" = some .local := rfl
 have hk2 : (callEnv (fd98 w.params) h.objs.size 98).kindOf "key" = some .local := rfl
 have hfu : (callEnv (fd98 w.params) h.objs.size 98).func = some 98 := rfl
 have hco : (callEnv (fd98 w.params) h.objs.size 98).code = .ref 97 := rfl
 have hce : (callEnv (fd98 w.params) h.objs.size 98).cells.lookup ("__class__" : Str) = some 86 := rfl
 have hgl : (callEnv (fd98 w.params) h.objs.size 98).globals = mainGlobals := rfl
 have hbu : (callEnv (fd98 w.params) h.objs.size 98).builtins = builtinsNs := rfl
 have hfn : (callEnv (fd98 w.params) h.objs.size 98).scope.kind = .function := rfl
 have hns' : h₀.Ns (callEnv (fd98 w.params) h.objs.size 98).locals (fun y => List.lookup y [(("key" : Str), Value.str key t), ("self", .ref x)]) := hns
 generalize hen : callEnv (fd98 w.params) h.objs.size 98 = env at hks hkc hkg hk1 hk2 hfu hco hce hgl hbu hfn hns'
 show PySem.wpAt _ (A.deeper env) (.func (bd98 w.params) env) (eval _ env) _ _ _
 have k0 : Sub h h₀ := hk
 have X' := X.keeps k0
 have T' := T.keeps k0
 refine PySem.wpAt_bind (PySem.wpAt_bind (wpAt_of_wpAny ?_))
 have ln : ∀ {b : Str} {v : Value} {s₁ : Shared} {Q : Value → Shared → Prop} {E' : Value → Shared → Prop}, env.kindOf b = some .globalImplicit → nsIn (HK w.params) mainGlobals b = some none → bootBuiltins b = some v → b ≠ "__name__" → Sub h s₁.heap → Q v s₁ → wpAny (model PG w) (A.deeper env) (loadName env b) Q E' s₁ :=
  fun hk e hb hn sb q => by
   unfold loadName
   simp only [Env.blockKind, hfn, hk, ScopeKind.isAnnotationScope, Bool.false_and, Bool.false_eq_true, if_false]
   exact loadGlobal_builtin (mg := mg) (mb := mb) (by rw [hgl]; exact T.g.keeps sb) (mg_none_of X T.g e) (by rw [hbu]; exact T.b.keeps sb) ((T.builtins _ hn).trans hb) q
 have ll : ∀ {b : Str} {v : Value} {s₁ : Shared} {Q : Value → Shared → Prop} {E' : Value → Shared → Prop}, env.kindOf b = some .local → List.lookup b [(("key" : Str), Value.str key t), ("self", .ref x)] = some v → Sub h₀ s₁.heap → Q v s₁ → wpAny (model PG w) (A.deeper env) (loadName env b) Q E' s₁ :=
  fun hk e sb q => wpAny_loadName_local hfn hk (hns'.keeps sb) e q
 refine wpAny_Name (ln (v := .builtin "getattr") hkg (by rfl) (by decide +kernel) (by decide) k0 ?_) (by decide)
 show PySem.wpAt _ _ _ (callWith _ (.builtin "getattr") [] ((false, eval _ env) :: (false, eval _ env) :: (false, eval _ env) :: []) []) _ _ _
 refine at_callWith_b rfl (at_spliced_cons (wpAt_of_wpAny (wpAny_Name (ll (v := .ref x) hk1 rfl Sub.refl ?_) (by decide))))
 refine at_spliced_cons (wpAt_of_wpAny (wpAny_Constant_str ?_))
 refine at_spliced_cons ?_
 rw [arm_eval_Attribute]
 have hD' := X' _ _ (at108 w.params)
 refine PySem.wpAt_bind (ks_wpAt_super_base hks hkc (by decide) hfu (X' _ _ (at98 w.params)) (rfl : (ob98 w.params).data = .func (fd98 w.params)) rfl hco (X' _ _ (at97 w.params)) (rfl : (ob97 w.params).data = .fields (vs97 w.params)) rfl (by rfl) (by rfl) ?_)
 refine ln (v := .type "super") hks (by rfl) (by decide +kernel) (by decide) k0 (And.intro rfl ?_)
 refine wpAny_loadName_free hfn hkc hce ⟨_, X' _ _ (at86 w.params), rfl⟩ ?_
 refine ll (v := .ref x) hk1 rfl Sub.refl ?_
 refine ks_wpAny_isType_cls hD' rfl (And.intro rfl ?_)
 refine ks_wpAny_call_super (D := 108) (C := 108) hD' (rfl : (ob108 w.params).data = .cls (cd108 w.params)) (k0 _ _ hx) rfl (by intro c q; cases q) (looks_mroIn X' (by rfl)) (fun h₁ hso k1 => ?_)
 have k1' : Sub h₀ h₁ := k1
 refine PySem.wpAt_bind (wpAt_of_wpAny (wpAny_standAt ?_))
 refine PySem.wpAt_bind (wpAt_of_wpAny (wpAny_holding (super_attr (X'.keeps k1) hso (k1 _ _ (k0 _ _ hx)) rfl hxC ?_ true)))
 refine PySem.wpAt_bind (wpAt_of_wpAny (wpAny_letTemporaryGo (wpAt_of_wpAny (wpAny_pure (at_spliced_nil ?_)))))
 have kb : Sub h₁ (h₁.push (bmObj x)) := Sub.push
 have hb : (h₁.push (bmObj x)).get? h₁.objs.size = some (bmObj x) := Heap.get?_push_size _ rfl
 refine hget _ _ _ _ _ _ _ hA.1 (k0.trans (k1'.trans kb)) fun h₂ tk₂ k2 => wpAt_of_wpAny ?_
 show wpAny _ _ (callWith _ (res _) [] [(false, eval (.Name "key" _) env)] []) _ _ _
 refine callWith_any1 (wpAny_Name (ll (v := .str key t) hk2 rfl (k1'.trans (kb.trans k2)) ?_) (by decide))
 have z := hcall env h₂ tk₂ h₁.objs.size (k0.trans (k1'.trans (kb.trans k2))) (k2 _ _ hb)
 refine ⟨z.1, wpAny_call (codeAny_mono z.2 fun r s' z => ?_)⟩
 rcases r with e | (v | _ | _ | _) <;> first | exact z | exact z.elim
end
end Mine
namespace Mine
open PySem PySem.W PySem.Calls PySem.Spec PyProof.Rows Builtin Builtin.ObjectAttr
noncomputable def fzM (fz : Option Value) : Str → Option Value := fun y => if y = "_frozen" then fz else none
noncomputable def DxAt (h : Heap) (dx : Addr) (fz : Option Value) : Prop := h.Ns1 dx (fzM fz)
theorem lookIn_ns {h : Heap} {a : Addr} {m : Str → Option Value} {od : Obj} (N : h.Ns a m) (e : h.get? a = some od) (name : Str) : lookIn name od = some (m name) := by
 obtain ⟨o, es, ep, ho, hd, hk, hf⟩ := N
 rw [e] at ho; cases ho
 unfold lookIn
 rw [hd]
 have hfn := hf name
 unfold nsFind findBy at hfn
 dsimp only
 rw [Array.find?_toList]
 cases q : es.find? (fun e => e.key.isStr name) with
 | some en => rw [q] at hfn; simp only [Option.map_some] at hfn; rw [← hfn]
 | none =>
  rw [q] at hfn
  simp only [Option.map_none] at hfn
  have : es.toList.any (·.refKey) = false := by
   rw [List.any_eq_false]
   intro en hen
   obtain ⟨n, t, hn⟩ := hk en (by simpa using hen)
   unfold DictEntry.refKey
   rw [hn]; simp
  rw [← hfn]
  simp [this]
theorem DxAt.inst {h : Heap} {x dx : Addr} {fz : Option Value} {es : Array DictEntry} {ep : Nat} {sl : Array (Option Value)} (D : DxAt h dx fz) (hx : h.get? x = some (hdObj dx es ep sl)) :
  ∃ od, InstAt h x (hdObj dx es ep sl) 108 (some od) ∧ ∀ n, lookIn n od = some (fzM fz n) := by
 obtain ⟨o, es', ep', ho, r⟩ := id D.ns
 exact ⟨o, ⟨hx, rfl, rfl, ho⟩, fun n => lookIn_ns D.ns ho n⟩
theorem DxAt.same {h h' : Heap} {dx b : Addr} {fz : Option Value} (D : DxAt h dx fz) (s : Heap.SameBut b h h') (n : dx ≠ b) : DxAt h' dx fz := D.at fun o e => (s.2 dx n).trans e
theorem DxAt.sub {h h' : Heap} {dx : Addr} {fz : Option Value} (D : DxAt h dx fz) (k : ∀ o, h.get? dx = some o → h'.get? dx = some o) : DxAt h' dx fz := D.at k
theorem DxAt.new {h : Heap} {dx : Addr} (e : h.get? dx = some emptyDict) : DxAt h dx none := by
 have e2 : (fun _ => none) = fzM none := by funext y; unfold fzM; by_cases hy : y = "_frozen" <;> simp [hy]
 unfold DxAt
 rw [← e2]
 exact Heap.Ns1.of_empty ⟨_, #[], 0, e, rfl, fun e h => by simp at h, fun n => rfl⟩
theorem refuse_108 (self : Value) : refuseLoop self "__setattr__" [.ref 108, .type "collections.defaultdict", .type "dict", .type "object"] = pure () := by
 rw [refuseLoop_ref]; kernel_rfl
section
variable {w : World} {A : Around} {E : Value → Shared → Prop} {h : Heap} {g : Array GenState} {d : Drawn} {tk : Nat} {os : OsState} {R : Result → Shared → Prop} {x dx : Addr} {t : Tok}
theorem set_frozen {fz : Option Value} {v : Value} {es : Array DictEntry} {ep : Nat} {sl : Array (Option Value)} {Q : Unit → Shared → Prop} (X : (HK w.params).In h) (hx : h.get? x = some (hdObj dx es ep sl)) (D : DxAt h dx fz)
  (hq : ∀ h' tk', DxAt h' dx (some v) → Heap.SameBut dx h h' → Q () ⟨h', g, d, tk', os⟩) : wpAny (model PG w) A (setAttr (.ref x) "_frozen" v) Q E ⟨h, g, d, tk, os⟩ := by
 obtain ⟨od, I, hl⟩ := D.inst hx
 have SF := PySem.F.store_object
 have hm : Looks (model PG w) h (mroOf (.ref 108)) [.ref 108, .type "collections.defaultdict", .type "dict", .type "object"] := Looks.of_peek X (by rfl)
 have sub : Looks (model PG w) h (isInstance (.ref x) (.type "object")) true := I.type.andThen (looks_mroIn X (by rfl))
 refine set_plain (s := ⟨h, g, d, tk, os⟩) X I (by rfl) ?_
 refine codeAny_call_builtin SF.slot.plain SF.entry (@check_slot (model PG w) _ _ _ "object.__setattr__" "object" "__setattr__" (.ref x) [.str "_frozen" tk, v] [] _ SF.kind SF.split sub (SF.args (.ref x) (.str "_frozen" tk) v) ?_)
 rw [osa_eq, refuse_eq]
 refine wpAny_bind (wpAny_bind (I.type.here (wpAny_bind (hm.here ?_))))
 rw [refuse_108]
 have ha : findIn (HK w.params) (.ref 108) "_frozen" = some none := by rfl
 refine wpAny_pure (wpAny_bind (I.type.here (wpAny_bind ((looks_findIn X ha).here (wpAny_bind (wpAny_pure ?_))))))
 dsimp only
 refine wpAny_bind (wpAny_pure (wpAny_bind (wpAny_bind (wpAny_loadPart hx (wpAny_bind ((looks_clsIn X (show clsIn (HK w.params) 108 = some (cd108 w.params) from rfl)).here ?_))))))
 rw [show (cd108 w.params).hasDict = true from rfl]
 refine wpAny_pure (a := some dx) (wpAny_bind (wpAny_pure (wpAny_bind ?_)))
 refine wpAny_nsSet1 (s := ⟨h, g, d, tk + 1, os⟩) D fun h' N' sb => ?_
 have N2 : DxAt h' dx (some v) := by
  have e : (fun y : Str => if y = "_frozen" then some v else fzM fz y) = fzM (some v) := by
   funext y; unfold fzM; by_cases hy : y = "_frozen" <;> simp [hy]
  rw [e] at N'; exact N'
 have wi : PySem.Within (fzM (some v)) ["_frozen"] := fun y hy => by
  unfold fzM at hy
  by_cases q : y = "_frozen"
  ·rw [q]; exact .head _
  ·rw [if_neg q] at hy; exact absurd rfl hy
 obtain ⟨o', es', ep', ho', hd', hz⟩ := Heap.Ns1.count N2 wi
 refine wpAny_bind (wpAny_lookBehind ho' ?_ ?_)
 ·rw [hd']; exact pastItsLine_dict (Nat.le_trans hz (by rw [sizeLine_eq]; decide))
 ·exact wpAny_pure (hq _ _ N2 sb)
end
end Mine
namespace Mine
open PySem PySem.W PySem.Calls PySem.Spec PyProof.Rows Builtin Builtin.ObjectAttr
noncomputable def fd105 (p : Params) : FuncData := fdOf (l := (HK p).lookup 105) rfl rfl
noncomputable def ob105 (p : Params) : Obj := objOf (l := (HK p).lookup 105) rfl
noncomputable def bd105 (p : Params) : List Stmt := bodyOf (fd := fd105 p) rfl
theorem at105 (p : Params) : (HK p).lookup 105 = some (ob105 p) := rfl
noncomputable def ob104 (p : Params) : Obj := objOf (l := (HK p).lookup 104) rfl
noncomputable def vs104 (p : Params) : Array Value := fieldsOf (o := ob104 p) rfl
theorem codeHd104 {p : Params} {h : Heap} (X : (HK p).In h) : CodeHd h 104 100 :=
 ⟨ob104 p, vs104 p, _, _, _, _, _, _, _, X _ _ rfl, rfl, rfl, rfl, rfl, rfl, rfl, rfl, rfl, by decide⟩
noncomputable def ob229 (p : Params) : Obj := objOf (l := (HK p).lookup 229) rfl
noncomputable def vs229 (p : Params) : Array Value := fieldsOf (o := ob229 p) rfl
theorem codeHd229 {p : Params} {h : Heap} (X : (HK p).In h) : CodeHd h 229 225 :=
 ⟨ob229 p, vs229 p, _, _, _, _, _, _, _, X _ _ rfl, rfl, rfl, rfl, rfl, rfl, rfl, rfl, rfl, by decide⟩
noncomputable abbrev keyPar (q : Pos) : Arguments := { posonlyargs := [], args := [{ arg := "key", annotation := none, pos := q }], vararg := none, kwonlyargs := [], kw_defaults := [], kwarg := none, defaults := [] }
noncomputable abbrev keyScope : Scope := { kind := .function, names := [("key", .local), ("self", .free)], isGenerator := false, isCoroutine := false }
noncomputable abbrev facBody (q₁ q₂ q₃ : Pos) : Expr := .Call (.Attribute (.Name "self" q₁) "default_factory" q₂) [] [] q₃
noncomputable def Lam (h : Heap) (l x : Addr) : Prop := ∃ name qual pm ctv c' q q₁ q₂ q₃ cell, h.get? l = some (kla_obj name qual (keyPar q) (facBody q₁ q₂ q₃) keyScope [("self", cell)] pm c' ctv) ∧ h.CodeRec (.ref c') qual ∧ h.IsCell cell (some (.ref x)) ∧ (q₂.endLine == q₃.line) = true
theorem Lam.mono {h h' : Heap} {l x : Addr} (a : Lam h l x) (s : Sub h h') : Lam h' l x := by
 obtain ⟨name, qual, pm, ctv, c', q, q₁, q₂, q₃, cell, e, r, ⟨o, i, j⟩, z⟩ := a
 exact ⟨name, qual, pm, ctv, c', q, q₁, q₂, q₃, cell, s _ _ e, r.keeps s, ⟨o, s _ _ i, j⟩, z⟩
noncomputable def TbAt (g h : Heap) (P : Addr) (pos : Pos) (qual : Str) : Prop := ∃ ps, h.get? P = some (tabObj ps) ∧ TriplesOk ps.toList ∧ (codeAmong pos ps.toList = none ∨ ∃ c', codeAmong pos ps.toList = some (.ref c') ∧ g.CodeRec (.ref c') qual)
theorem TbAt.empty {g h : Heap} {P : Addr} {pos : Pos} {qual : Str} (e : h.get? P = some (tabObj #[])) : TbAt g h P pos qual := ⟨#[], e, trivial, .inl rfl⟩
theorem TbAt.mono {g h g' h' : Heap} {P : Addr} {pos : Pos} {qual : Str} (x : TbAt g h P pos qual) (s : Sub g g') (k : ∀ o, h.get? P = some o → h'.get? P = some o) : TbAt g' h' P pos qual := by
 obtain ⟨ps, e, t, r⟩ := x
 refine ⟨ps, k _ e, t, ?_⟩
 rcases r with r | ⟨c', r, q⟩
 ·exact .inl r
 ·exact .inr ⟨c', r, q.keeps s⟩
theorem triples_snoc {a b c : Value} {i j : Int} {t u : Tok} : ∀ {l : List Value}, TriplesOk l → TriplesOk (l ++ [.int i t, .int j u, c])
 | [], _ => trivial
 | [.int _ _], h => h.elim
 | .int _ _ :: .int _ _ :: [], h => h.elim
 | .int _ _ :: .int _ _ :: _ :: rest, h => triples_snoc (a := a) (b := b) (l := rest) h
theorem blt_of {g h : Heap} {loose : List Str} {mean : ExcName → Option Value} {mg mb : Str → Option Value} (T : Top topProg loose mean mg mb g) (s : Sub g h) {P : Addr} (n : g.get? P = none) : h.BuiltinsAt mg P ∧ mainGlobals ≠ P := by
 obtain ⟨bm, ob, b1, b2, b3, b4, b5, b6⟩ := T.bmain
 have hg := T.g
 have hbG : bm ≠ mainGlobals := fun q => by
  obtain ⟨o, es, ep, e, hd, _⟩ := hg
  rw [q, e] at b3; cases b3; rw [hd] at b6; cases b6
 refine ⟨⟨bm, ob, b1, b2, hbG, (fun q => by rw [q, n] at b3; cases b3), s _ _ b3, b4, b5, b6⟩, fun q => ?_⟩
 obtain ⟨o, es, ep, e, hd, _⟩ := hg
 rw [q, n] at e; cases e
noncomputable def lamPos : List Stmt → Pos
 | [.Assign _ (.Lambda _ _ _ p) _] => p
 | _ => ⟨0, 0, 0, 0⟩
noncomputable def pos105 (p : Params) : Pos := lamPos (bd105 p)
noncomputable def qual105 (p : Params) : Str := (callEnvC (fd105 p) 0 105).qual ++ "<lambda>"
section
variable {w : World} {A : Around} {E : Value → Shared → Prop} {h g0 : Heap} {g : Array GenState} {d : Drawn} {tk : Nat} {os : OsState} {R : Result → Shared → Prop} {x dx : Addr} {t : Tok}
theorem freeze_run {fz : Option Value} {es : Array DictEntry} {ep : Nat} {sl : Array (Option Value)} (G : GL (HK w.params) g0) (s0 : Sub g0 h) (hA : AOk 3 A) (hx : h.get? x = some (hdObj dx es ep sl)) (D : DxAt h dx fz)
  (Tb : TbAt g0 h 100 (pos105 w.params) (qual105 w.params)) (n : dx ≠ 100) (nx : x ≠ 100) (n0 : g0.get? 100 = none) (n1 : g0.get? dx = none)
  (hq : ∀ h' tk' lam, (∀ b o, b ≠ dx → b ≠ 100 → h.get? b = some o → h'.get? b = some o) → DxAt h' dx (some (.ref lam)) →
   (∀ g', Sub g0 g' → NewIn h h' g' → Lam g' lam x ∧ TbAt g' h' 100 (pos105 w.params) (qual105 w.params)) → R (.ok (.ret .none)) ⟨h', g, d, tk', os⟩) :
  codeAny (model PG w) A (.call (.ref 105) ⟨[.ref x], []⟩) R ⟨h, g, d, tk, os⟩ := by
 have X := G.K.keeps s0
 obtain ⟨_, _, mg, mb, T0⟩ := G.top
 have T := T0.keeps s0
 refine codeAny_call_cells (fd := fd105 w.params) (body := bd105 w.params) (binds := [("self", .ref x)]) hA.room (X _ _ (at105 _)) rfl T.nolimit (codeRec_of X rfl) rfl (by rfl) rfl (fun y hy => .inr ⟨?_, ?_⟩) (fun s₁ x1 => ?_)
 ·rw [List.mem_singleton.mp hy]; rfl
 ·rw [List.mem_singleton.mp hy]; rfl
 obtain ⟨h₁, tk₁, rfl, keep⟩ := x1.done
 have k1 : Sub h h₁ := keep
 have hAd := hA.deeper (env := callEnvC (fd105 w.params) h.objs.size 105)
 have hself : (callEnvC (fd105 w.params) h.objs.size 105).cells.lookup ("self" : Str) = some (h.objs.size + 1) := rfl
 have hk2 : (callEnvC (fd105 w.params) h.objs.size 105).kindOf "self" = some .cell := rfl
 have hfn : (callEnvC (fd105 w.params) h.objs.size 105).scope.kind = .function := rfl
 have hge : (callEnvC (fd105 w.params) h.objs.size 105).globals = mainGlobals := rfl
 have hco : (callEnvC (fd105 w.params) h.objs.size 105).code = .ref 104 := rfl
 have hql : (callEnvC (fd105 w.params) h.objs.size 105).qual ++ "<lambda>" = qual105 w.params := rfl
 have hcell : h₁.IsCell (h.objs.size + 1) (some (.ref x)) := x1.cell "self" _ hself
 have hclo0 : closOf keyScope (callEnvC (fd105 w.params) h.objs.size 105) = [(("self" : Str), h.objs.size + 1)] := rfl
 have hclo : closureFor keyScope (callEnvC (fd105 w.params) h.objs.size 105) = pure [(("self" : Str), h.objs.size + 1)] := by
  rw [closureFor_eq, hclo0]
  intro nk hm hf
  rcases List.mem_cons.mp hm with rfl | hm
  ·cases hf
  ·rw [List.mem_singleton.mp hm]; rfl
 obtain ⟨ps, hps, htr, hcase⟩ := Tb
 obtain ⟨hb, hgP⟩ := blt_of T0 (s0.trans k1) n0
 have C1 := codeHd104 (X.keeps k1)
 have fresh1 : h.get? (h.objs.size + 1) = none := none_of_ge (Nat.le_succ _)
 have hne1 : h.objs.size + 1 ≠ 100 := fun q => by rw [q, hps] at fresh1; cases fresh1
 obtain ⟨od0, _, _, hod0, _⟩ := id D.ns
 have hne2 : h.objs.size + 1 ≠ dx := fun q => by rw [q, hod0] at fresh1; cases fresh1
 have fin : ∀ (E : Value → Shared → Prop) (lam : Addr) (h₂ : Heap) (tk₂ : Nat) (c' : Addr) (pm ctv : Value) (q q₁ q₂ q₃ q₄ : Pos), (q₂.endLine == q₃.line) = true → (∀ b o, b ≠ 100 → h₁.get? b = some o → h₂.get? b = some o) → h₂.get? lam = some (kla_obj "<lambda>" (qual105 w.params) (keyPar q) (facBody q₁ q₂ q₃) keyScope [(("self" : Str), h.objs.size + 1)] pm c' ctv) → h.get? lam = none →
   (∀ g', Sub g0 g' → (∀ b o, b ≠ dx → b ≠ 100 → h₂.get? b = some o → h.get? b = none → g'.get? b = some o) → g'.CodeRec (.ref c') (qual105 w.params)) → (∃ ps', h₂.get? 100 = some (tabObj ps') ∧ TriplesOk ps'.toList ∧ codeAmong (pos105 w.params) ps'.toList = some (.ref c')) → 
   wpAny (model PG w) (A.deeper (callEnvC (fd105 w.params) h.objs.size 105)) (eval (.Name "self" q₄) (callEnvC (fd105 w.params) h.objs.size 105)) (fun ov s₂ => wpAny (model PG w) (A.deeper (callEnvC (fd105 w.params) h.objs.size 105)) (setAttr ov "_frozen" (.ref lam)) (fun _ s₃ => wpAny (model PG w) (A.deeper (callEnvC (fd105 w.params) h.objs.size 105)) (execs [] (callEnvC (fd105 w.params) h.objs.size 105)) (fun f s' => R (.ok (.ret (match f with | .ret v => v | _ => .none))) s') E s₃) E s₂) E ⟨h₂, g, d, tk₂, os⟩ := by
  intro E lam h₂ tk₂ c' pm ctv q q₁ q₂ q₃ q₄ hq3 k2 hlam hfl hcr htb
  have hc2 : h₂.IsCell (h.objs.size + 1) (some (.ref x)) := by
   obtain ⟨o, a, b⟩ := hcell
   exact ⟨o, k2 _ _ hne1 a, b⟩
  have k12 : ∀ b o, b ≠ 100 → h.get? b = some o → h₂.get? b = some o := fun b o hb e => k2 b o hb (k1 b o e)
  have s2 : Sub g0 h₂ := fun b o e => k12 b o (fun q => by rw [q, n0] at e; cases e) (s0 b o e)
  refine wpAny_Name (wpAny_loadName_cell hfn hk2 hself hc2 ?_) (by decide)
  refine set_frozen (G.K.keeps s2) (k12 _ _ nx hx) (D.sub fun o e => k12 _ _ n e) fun h' tk' D' sb => ?_
  refine wpAny_execs_nil ?_
  have hlne : lam ≠ dx := fun q => by rw [q, hod0] at hfl; cases hfl
  have hln2 : lam ≠ 100 := fun q => by rw [q, hps] at hfl; cases hfl
  refine hq h' tk' lam (fun b o h1 h2 e => sb.extBut b o h1 (k12 b o h2 e)) D' fun g' sg' nw => ?_
  have nw2 : ∀ b o, b ≠ dx → b ≠ 100 → h₂.get? b = some o → h.get? b = none → g'.get? b = some o := fun b o h1 _ e e' => nw b o (sb.extBut b o h1 e) e'
  have cr := hcr g' sg' nw2
  refine ⟨⟨_, _, _, _, _, _, _, _, _, _, nw2 _ _ hlne hln2 hlam hfl, cr, ?_, hq3⟩, ?_⟩
  ·obtain ⟨o, a, b⟩ := hc2
   exact ⟨o, nw2 _ _ hne2 hne1 a fresh1, b⟩
  ·obtain ⟨ps', e1, e2, e3⟩ := htb
   exact ⟨ps', sb.extBut _ _ (fun q => n q.symm) e1, e2, .inr ⟨c', e3, cr⟩⟩
 have lfresh : ∀ (h' : Heap), h₁.objs.size ≤ h'.objs.size → h.get? h'.objs.size = none := fun h' l => Sub.none k1 (none_of_ge l)
 refine wpAny_execs_cons (plainObj_wpAny_Assign_Attribute (kla_eval rfl ?_))
 rcases hcase with hnf | ⟨c', hf, hcr⟩
 ·refine kla_makeFunction (mg := mg) hclo hge (T.g.keeps k1) hco C1 (k1 _ _ hps) htr hnf hgP hb fun c' ctv h' tk hx' hge' hlt hrec htb => ?_
  have hsz : h₁.objs.size ≤ h'.objs.size := Nat.le_trans hge' (Nat.le_of_lt hlt)
  refine fin _ h'.objs.size _ tk c' _ ctv _ _ _ _ _ (by first | rfl | decide) (fun b o hb e => Heap.get?_push_of_some _ (hx' b o hb e)) (Heap.get?_push_size _ rfl) (lfresh h' hsz) (fun g' sg' nw => ?_) ⟨_, Heap.get?_push_of_some _ htb, ?_, ?_⟩
  ·obtain ⟨c₂, oc, vs, tq, e2, hoc, hd, hv⟩ := hrec
   cases e2
   have hfc : h.get? c' = none := Sub.none k1 (none_of_ge hge')
   exact ⟨c', oc, vs, tq, rfl, nw _ _ (fun q => by rw [q, hod0] at hfc; cases hfc) (fun q => by rw [q, hps] at hfc; cases hfc) (Heap.get?_push_of_some _ hoc) hfc, hd, hv⟩
  ·rw [Array.toList_append]; exact triples_snoc (a := .none) (b := .none) htr
  ·rw [Array.toList_append]; exact codeAmong_snoc _ htr hnf
 ·refine kla_makeFunctionHit (mg := mg) hclo hge (T.g.keeps k1) hco C1 (k1 _ _ hps) htr hf hb fun ctv h' tk hk hsz => ?_
  exact fin _ h'.objs.size _ tk c' _ ctv _ _ _ _ _ (by first | rfl | decide) (fun b o hb e => Heap.get?_push_of_some _ (hk b o e)) (Heap.get?_push_size _ rfl) (lfresh h' hsz) (fun g' sg' nw => hcr.keeps sg') ⟨_, Heap.get?_push_of_some _ (hk _ _ (k1 _ _ hps)), htr, hf⟩
end
end Mine
namespace Mine
open PySem PySem.W PySem.Calls PySem.Spec PyProof.Rows Builtin Builtin.ObjectAttr Builtin.Getset_descriptor
section
variable {w : World} {A : Around} {E : Value → Shared → Prop} {h g0 : Heap} {g : Array GenState} {d : Drawn} {tk : Nat} {os : OsState} {R : Result → Shared → Prop} {x dx fa : Addr} {t : Tok} {es : Array DictEntry} {ep : Nat} {fz : Option Value}
theorem call_gm {prog : Program} {env : Env} {s : Shared} {o : Expr} {name : Str} {apos pos : Pos} {args : List Expr} {Q : Value → Shared → Prop}
  (h : wpAny (model prog w) A (eval o env) (fun ov s₁ => ∀ pl : Sem Bool, wpAny (model prog w) A (getMethod ov name pl) (fun fx s₂ => wpAny (model prog w) A (callWith pos fx.1 fx.2 (backTo pos (starEach args env)) (backToKw pos (keywordEach [] env))) Q E s₂) E s₁) E s)
  (hbase : attributeBase o name env (eval o env) = eval o env) (hline : (apos.endLine == pos.line) = true)
  (hfew : ((backTo pos (starEach args env)).all (fun x => !x.1) && (backToKw pos (keywordEach [] env)).all (fun x => x.1.isSome) && decide (args.length + ([] : List Keyword).length + (if ([] : List Keyword).isEmpty then 0 else 1) < 30)) = true) :
  wpAny (model prog w) A (eval (.Call (.Attribute o name apos) args [] pos) env) Q E s := by
 rw [arm_eval_Call, hbase]
 refine wpAny_bind (wpAny_mono h (fun ov s₁ h₁ => ?_) fun _ _ e => e)
 refine wpAny_bind (wpAny_standAt ?_)
 have hform : methodCallForm (args.length + ([] : List Keyword).length) (backTo pos (starEach args env)) (backToKw pos (keywordEach [] env)) = true := hfew
 have hpos : methodCallPos true o env apos pos = pure pos := by unfold methodCallPos; simp [hline]
 unfold methodCall
 rw [hform]
 refine wpAny_bind (wpAny_holding (wpAny_mono (h₁ _) (fun fx s₂ h₂ => ?_) fun _ _ x => x))
 exact wpAny_bind (wpAny_of_eq hpos h₂)
theorem owner_df : descrOwnerAndName "collections.defaultdict.default_factory" = ("collections.defaultdict", "default_factory") := by decide +kernel
theorem entry_df : entryFor table "collections.defaultdict.default_factory" = some Builtin.«collections.defaultdict.default_factory» := entryFor_of_tree (by kernel_rfl)
theorem type_df : typeOf (.builtin "collections.defaultdict.default_factory") = pure (.type "member_descriptor") := by show builtinType _ = _; rw [builtinType_eq_fast]; kernel_rfl
theorem df_get {tp : Value} (X : (HK w.params).In h) (hx : h.get? x = some (hdObj dx es ep #[some (.ref fa)])) (hq : R (.ok (.ret (.ref fa))) ⟨h, g, d, tk, os⟩) :
  codeAny (model PG w) A (.call (.builtin "member_descriptor.__get__") ⟨[.builtin "collections.defaultdict.default_factory", .ref x, tp], []⟩) R ⟨h, g, d, tk, os⟩ := by
 have L0 : Looks (model PG w) h (typeOf (.ref x)) (.ref 108) := (Looks.ld hx).andThen .now
 have L1 : Looks (model PG w) h (isSubtype (.ref 108) (.type "collections.defaultdict")) true := looks_mroIn X (by rfl)
 refine codeAny_call_builtin KF.slot_mem.plain KF.entry_mem (KF.slot_mem.check _ _ _ _ _ _ _ _ type_df (KF.args_mem _ _ _) ?_)
 unfold Builtin.«member_descriptor.__get__» descrGet
 rw [dga_obj]
 refine wpAny_bind (wpAny_pure ?_)
 unfold descrGetter descrCheckInstance descrNameAndClass isInstance
 simp only [owner_df]
 iterate 11 try lk
 refine wpAny_pure ⟨Code.quiet_builtin _ (by decide +kernel), codeAny_builtin entry_df ?_⟩
 unfold Builtin.«collections.defaultdict.default_factory»
 iterate 15 try lk
 exact hq
theorem canon_dga : (Manifest.canonical "collections.defaultdict.__getattribute__" != "object.__getattribute__") = false := by decide +kernel
theorem df_attr {ex : Bool} {Q : Value → Shared → Prop} (X : (HK w.params).In h) (hx : h.get? x = some (hdObj dx es ep #[some (.ref fa)])) (D : DxAt h dx fz) (hq : ∀ tk', Q (.ref fa) ⟨h, g, d, tk', os⟩) :
  wpAny (model PG w) A (getAttr (.ref x) "default_factory" ex) Q E ⟨h, g, d, tk, os⟩ := by
 obtain ⟨od, I, hl⟩ := D.inst hx
 have hf : findObj (HK w.params) 108 (some od) "default_factory" = some (.bind (.builtin "member_descriptor.__get__") (.builtin "collections.defaultdict.default_factory")) := findObj_data (by rfl) (by rfl) (by rfl) (by rfl)
 have L1 := looks_find (M := model PG w) X I hf
 have L0 := I.type (M := model PG w)
 unfold getAttr
 refine wpAny_bind (wpAny_mkText (ga_108_open X I ?_))
 unfold Builtin.«object.__getattribute__»
 refine wpAny_bind (wpAny_of_eq (a := (.ref x, [.str "default_factory" tk])) (by first | rfl | kernel_rfl) ?_)
 dsimp only
 refine wpAny_bind (wpAny_pure (wpAny_bind (L0.at (wpAny_bind (L1.at ?_)))))
 dsimp only
 show wpAny _ _ (holding [.builtin "collections.defaultdict.default_factory"] (call (.builtin "member_descriptor.__get__") [.builtin "collections.defaultdict.default_factory", .ref x, .ref 108]) >>= ret) _ _ _
 refine wpAny_bind (wpAny_holding (wpAny_call (df_get X hx (wpAny_pure ⟨_, rfl, ?_⟩))))
 exact handed_on rfl (hq _)
theorem df_meth {pl : Sem Bool} {Q : Value × List Value → Shared → Prop} (X : (HK w.params).In h) (hx : h.get? x = some (hdObj dx es ep #[some (.ref fa)])) (D : DxAt h dx fz) (hq : ∀ tk', Q (.ref fa, []) ⟨h, g, d, tk', os⟩) :
  wpAny (model PG w) A (getMethod (.ref x) "default_factory" pl) Q E ⟨h, g, d, tk, os⟩ := by
 obtain ⟨od, I, hl⟩ := D.inst hx
 have hga : findIn (HK w.params) (.ref 108) "__getattribute__" = some (some (.builtin "collections.defaultdict.__getattribute__")) := by rfl
 have hk : findIn (HK w.params) (.ref 108) "__getattr__" = some none := by rfl
 have hf : findIn (HK w.params) (.ref 108) "default_factory" = some (some (.builtin "collections.defaultdict.default_factory")) := by rfl
 unfold getMethod specialOf
 refine wpAny_bind (wpAny_bind (I.type.here ((looks_findIn X hga).here ?_)))
 dsimp only
 rw [canon_dga, if_neg (by decide)]
 refine wpAny_bind (wpAny_bind (I.type.here ((looks_findIn X hk).here ?_)))
 refine wpAny_bind (wpAny_bind (I.type.here ((looks_findIn X hf).here ?_)))
 refine wpAny_bind (wpAny_of_eq type_df ?_)
 rw [if_pos (by decide +kernel)]
 exact wpAny_bind (df_attr X hx D fun tk' => wpAny_pure (hq tk'))
theorem lam_call {lam : Addr} (X : (HK w.params).In h) (Lm : Lam h lam x) (F : Fac h fa) (hx : h.get? x = some (hdObj dx es ep #[some (.ref fa)])) (D : DxAt h dx fz) (hlim : h.NoLimit) (hA : AOk 3 A) {key : Str}
  (hq : ∀ h' n tk', Sub h h' → h.get? n = none → h'.get? n = some (listObj #[]) → R (.ok (.ret (.ref n))) ⟨h', g, d, tk', os⟩) :
  codeAny (model PG w) A (.call (.ref lam) ⟨[.str key t], []⟩) R ⟨h, g, d, tk, os⟩ := by
 obtain ⟨name, qual, pm, ctv, c', q, q₁, q₂, q₃, cell, e, r, hcell, hq3⟩ := Lm
 refine kla_callFunE hA.room e rfl rfl rfl rfl r ?_
 refine wpAny_of_eq (a := [(("key" : Str), Value.str key t)]) (by first | rfl | kernel_rfl) ?_
 refine wpAny_newFunctionEnv (fun y hy => (List.mem_cons.mp hy).elim (fun q => by rw [q]; decide) fun q => by rw [List.mem_singleton.mp q]; decide) (by intro y hy; rw [List.mem_singleton.mp hy]; rfl) (fun h₁ hns hsb => ⟨hlim.fresh _ hsb, ?_⟩) rfl
 have k1 : Sub h h₁ := fun b o e => hsb.extBut b o (Nat.ne_of_lt (Heap.lt_size e)) (Heap.get?_push_of_some _ e)
 refine kla_codeExpr ?_
 refine call_gm (wpAny_Name (wpAny_loadName_free rfl rfl rfl (hcell.keeps k1) (fun pl => ?_) (by decide)) (by decide)) rfl hq3 rfl
 refine df_meth (X.keeps k1) (k1 _ _ hx) (D.sub fun o e => k1 _ _ e) fun tk' => ?_
 have F1 := F.mono k1
 obtain ⟨_, _, _, _, _, _, ef, _⟩ := id F1
 refine callWith_F0 ⟨_, _, _, _, ef⟩ (wpAny_call (fac_call F1 (hlim.keeps k1) (hA.deeper).room fun h' n tk' k2 hn hn' => ?_))
 exact hq h' n tk' (k1.trans k2) (Sub.none k1 hn) hn'
theorem noLim {p : Params} {g : Heap} (G : GL (HK p) g) : g.NoLimit := let ⟨_, _, _, _, T⟩ := G.top; T.nolimit
theorem sub_108 {value slice : Expr} {i : Value} {Q : Value → Shared → Prop} {sl : Array (Option Value)} (X : (HK w.params).In h) (hx : h.get? x = some (hdObj dx es ep sl))
  (hq : codeAny (model PG w) A (.call (.builtin "dict.__getitem__") ⟨[.ref x, i], []⟩) (fun r s' => match r with | .ok (.ret v) => Q v s' | .ok _ => False | .error e => E e s') ⟨h, g, d, tk, os⟩)
  (hs : subscripted slice false (.ref x) i = operate [.ref x, i] (getItem (.ref x) i)) :
  wpAny (model PG w) A (subscriptTail value slice (.ref x) i) Q E ⟨h, g, d, tk, os⟩ := by
 have I : Looks (model PG w) h (typeOf (.ref x)) (.ref 108) := (Looks.ld hx).andThen .now
 have hf : findIn (HK w.params) (.ref 108) "__getitem__" = some (some (.builtin "dict.__getitem__")) := by rfl
 have hb : Looks (model PG w) h (bindSpecial (.builtin "dict.__getitem__") (.ref x)) (.builtin "dict.__getitem__", [.ref x]) := Looks.of_peek X (by rfl)
 unfold subscriptTail getitemInPython
 refine wpAny_bind (wpAny_bind (wpAny_bind (I.here ((looks_findIn X hf).here ?_))))
 refine wpAny_pure ?_
 rw [hs]
 refine wpAny_bind (wpAny_operating ?_)
 unfold getItem sequenceKey
 refine wpAny_holding (wpAny_bind (wpAny_bind (I.here ?_)))
 have hany : Looks (model PG w) h (seqItemTypes.anyM fun n => isSubtype (.ref 108) (.type n)) false := Looks.of_peek X (by rfl)
 refine wpAny_bind (hany.here ?_)
 rw [if_pos (show (!false) = true from rfl)]
 refine wpAny_pure (wpAny_bind ?_)
 unfold callSpecial? specialOf
 refine wpAny_bind (wpAny_bind (I.here ((looks_findIn X hf).here ?_)))
 dsimp only
 refine wpAny_holding (wpAny_bind (hb.here ?_))
 dsimp only
 refine wpAny_bind (wpAny_call (codeAny_mono hq fun r s' z => ?_))
 rcases r with e | (v | _ | _ | _) <;> first | exact z | exact z.elim | skip
 refine wpAny_pure (wpAny_pure ?_)
 exact wpAny_bind (wpAny_letTemporaryGo (wpAny_pure z))
end
end Mine
namespace Mine
open PySem PySem.W PySem.Calls PySem.Spec PyProof.Rows Builtin Builtin.ObjectAttr
section
variable {w : World} {A : Around} {E : Value → Shared → Prop} {h : Heap} {g : Array GenState} {d : Drawn} {tk : Nat} {os : OsState} {R : Result → Shared → Prop} {x dx fa : Addr} {t : Tok} {key : Str} {kvs : List (Str × Value)}
theorem keep_fn {M : Model} {a : Addr} {o : Obj} {fd : FuncData} (e : h.get? a = some o) (hd : o.data = .func fd) : ∃ k, Looks M h (keeperOf (.ref a)) k := by
 obtain ⟨oc, od, oda, sl⟩ := o
 cases hd
 obtain ⟨k, _, L⟩ := keeps_F (M := M) h ⟨_, _, _, _, e⟩
 exact ⟨k, L⟩
theorem keep_bm {M : Model} {a : Addr} (e : h.get? a = some (bmObj x)) : ∃ k, Looks M h (keeperOf (.ref a)) k :=
 ⟨_, (Looks.ld (part := none) e).andThen .now⟩
theorem miss_u {loose : List Str} {mean : ExcName → Option Value} {mg mb : Str → Option Value} (X : (HK w.params).In h) (T : Top topProg loose mean mg mb h) (hA : AOk 5 A) (H : HdAt w h x dx fa kvs) (D : DxAt h dx none) (F : Fac h fa) (hv : valueAt kvs key = none) (hz : kvs.length ≤ sizeLine) (h3 : 3 < x) (hxC : x ≠ 108)
  (hq : ∀ h' n tk', Heap.ExtBut x h h' → h.get? n = none → h'.get? n = some (listObj #[]) → HdAt w h' x dx fa (kvs ++ [(key, .ref n)]) → R (.ok (.ret (.ref n))) ⟨h', g, d, tk', os⟩) :
  codeAny (model PG w) A (.call (.builtin "dict.__getitem__") ⟨[.ref x, .str key t], []⟩) R ⟨h, g, d, tk, os⟩ := by
 obtain ⟨es, ep, hx, r⟩ := id H
 refine getitem_miss X H hv h3 ?_
 refine missing_open (res := fun v => v) X T (hA.in1.mono (by decide) : AOk 3 A.in1) hx hxC (fun A' h₁ tk₁ nt dv E' Q hA' k1 q => ?_) (fun env h₂ tk₂ bm k2 hb => ⟨keep_bm hb, ?_⟩)
 ·obtain ⟨od, I, hl⟩ := (D.sub (h' := h₁) fun o e => k1 _ _ e).inst (k1 _ _ hx)
  exact wp_getattr_unfrozen (X.keeps k1) I (hl _) hA' fun h' tk' s => q h' tk' s
 ·refine bm_open (X.keeps k2) hb (k2 _ _ hx) ?_
  refine dd_missing (es := es) (ep := ep) (X.keeps k2) (H.at fun o e => k2 _ _ e) (F.mono k2) hv hz h3 (T.nolimit.keeps k2) ((hA.in1.deeper (env := env)).room) fun h' n tk' eb hn hn' H' => ?_
  exact hq h' n tk' (fun b o hb e => eb b o hb (k2 b o e)) (Sub.none k2 hn) hn' H'
theorem miss_f {loose : List Str} {mean : ExcName → Option Value} {mg mb : Str → Option Value} {lam : Addr} (X : (HK w.params).In h) (T : Top topProg loose mean mg mb h) (hA : AOk 6 A) (H : HdAt w h x dx fa kvs) (D : DxAt h dx (some (.ref lam))) (Lm : Lam h lam x) (F : Fac h fa) (hv : valueAt kvs key = none) (h3 : 3 < x) (hxC : x ≠ 108)
  (hq : ∀ h' n tk', Sub h h' → h.get? n = none → h'.get? n = some (listObj #[]) → R (.ok (.ret (.ref n))) ⟨h', g, d, tk', os⟩) :
  codeAny (model PG w) A (.call (.builtin "dict.__getitem__") ⟨[.ref x, .str key t], []⟩) R ⟨h, g, d, tk, os⟩ := by
 obtain ⟨es, ep, hx, r⟩ := id H
 refine getitem_miss X H hv h3 ?_
 refine missing_open (res := fun v => .ref lam) X T (hA.in1.mono (by decide) : AOk 3 A.in1) hx hxC (fun A' h₁ tk₁ nt dv E' Q hA' k1 q => ?_) (fun env h₂ tk₂ bm k2 hb => ⟨?_, ?_⟩)
 ·obtain ⟨od, I, hl⟩ := (D.sub (h' := h₁) fun o e => k1 _ _ e).inst (k1 _ _ hx)
  exact wp_getattr_frozen (X.keeps k1) I (hl _) rfl (q h₁ _ Sub.refl)
 ·obtain ⟨_, _, _, _, _, _, _, _, _, _, e, _⟩ := Lm.mono k2
  exact keep_fn e rfl
 ·refine lam_call (X.keeps k2) (Lm.mono k2) (F.mono k2) (k2 _ _ hx) (D.sub fun o e => k2 _ _ e) (T.nolimit.keeps k2) ((hA.in1.deeper (env := env)).mono (by decide)) fun h' n tk' k3 hn hn' => ?_
  exact hq h' n tk' (k2.trans k3) (Sub.none k2 hn) hn'
end
end Mine
namespace Mine
open PySem PySem.W PySem.Calls PySem.Spec PyProof.Rows
inductive IxR (g h : Heap) : List (Str × Value) → Book → List Addr → Prop
 | nil : IxR g h [] [] []
 | cons {k : Str} {r : Row} {l : Addr} {kvs : List (Str × Value)} {b : Book} {ls : List Addr} : AccL (r.map encP) l g h → IxR g h kvs b ls → IxR g h ((k, .ref l) :: kvs) ((k, r) :: b) (l :: ls)
theorem IxR.stab {g h g' h' : Heap} {kvs b ls} (x : IxR g h kvs b ls) (s : Sub g g') (k : ∀ a ∈ ls, ∀ o, h.get? a = some o → h'.get? a = some o) : IxR g' h' kvs b ls := by
 induction x with
 | nil => exact .nil
 | cons a _ ih => exact .cons (a.stab s (k _ (.head _))) (ih fun a m => k a (.tail _ m))
theorem IxR.keys {g h : Heap} {kvs b ls} (x : IxR g h kvs b ls) : kvs.map (·.1) = b.map (·.1) := by
 induction x with
 | nil => rfl
 | cons _ _ ih => simp [ih]
theorem IxR.len {g h : Heap} {kvs b ls} (x : IxR g h kvs b ls) : kvs.length = b.length := by
 induction x with
 | nil => rfl
 | cons _ _ ih => simp [ih]
theorem IxR.live {g h : Heap} {kvs b ls} (x : IxR g h kvs b ls) : ∀ a ∈ ls, ∃ n vs, h.get? a = some { cls := .type "list", data := .seq vs n } := by
 induction x with
 | nil => intro a m; cases m
 | cons a _ ih =>
  intro c m
  rcases List.mem_cons.mp m with rfl | m
  ·obtain ⟨vs, ⟨n, e⟩, _⟩ := a; exact ⟨n, _, e⟩
  ·exact ih c m
theorem IxR.not {g h : Heap} {kvs b ls} (x : IxR g h kvs b ls) {key : Str} (e : at? b key = none) : valueAt kvs key = none := by
 induction x with
 | nil => rfl
 | @cons k r l kvs b ls _ _ ih =>
  unfold at? at e
  unfold valueAt
  rw [List.find?_cons] at e ⊢
  by_cases hk : k = key
  ·simp [hk] at e
  ·simp only [hk, decide_false] at e ⊢
   exact ih e
theorem put_some {α : Type} {b : List (Str × α)} {key : Str} {v r : α} (e : at? b key = some r) : put b key v = b.map fun kv => if kv.1 = key then (kv.1, v) else kv := by
 unfold put
 rw [if_pos]
 unfold at? at e
 cases q : b.find? fun kv => kv.1 = key with
 | none => rw [q] at e; cases e
 | some kv =>
  rw [List.any_eq_true]
  have q2 := List.find?_some (p := fun kv : Str × α => decide (kv.1 = key)) q
  exact ⟨kv, List.mem_of_find?_eq_some q, q2⟩
theorem at_none {α : Type} {b : List (Str × α)} {key : Str} (e : at? b key = none) : ∀ kv ∈ b, kv.1 ≠ key := by
 unfold at? at e
 rw [Option.map_eq_none_iff, List.find?_eq_none] at e
 intro kv m q
 exact e kv m (by simpa using q)
theorem put_none {α : Type} {b : List (Str × α)} {key : Str} {v : α} (e : at? b key = none) : put b key v = b ++ [(key, v)] := by
 unfold put
 rw [if_neg]
 rw [List.any_eq_true]
 rintro ⟨kv, m, q⟩
 exact at_none e kv m (by simpa using q)
theorem IxR.upd {g h : Heap} {kvs b ls} (x : IxR g h kvs b ls) (hn : ls.Nodup) (hk : (b.map (·.1)).Nodup) {key : Str} {r : Row} (e : at? b key = some r) :
  ∃ l ∈ ls, valueAt kvs key = some (.ref l) ∧ AccL (r.map encP) l g h ∧ ∀ r' g'' h'', Sub g g'' → (∀ a ∈ ls, a ≠ l → ∀ o, h.get? a = some o → h''.get? a = some o) → AccL (r'.map encP) l g'' h'' → IxR g'' h'' kvs (put b key r') ls := by
 have key' : ∀ r', put b key r' = b.map fun kv => if kv.1 = key then (kv.1, r') else kv := fun r' => put_some e
 simp only [key']
 clear key'
 induction x with
 | nil => cases e
 | @cons k r₁ l kvs b ls a x ih =>
  obtain ⟨hl, hn'⟩ := List.nodup_cons.mp hn
  rw [List.map_cons] at hk
  obtain ⟨hk1, hk'⟩ := List.nodup_cons.mp hk
  unfold at? at e
  unfold valueAt
  rw [List.find?_cons] at e ⊢
  by_cases q : k = key
  ·simp only [q, decide_true, Option.map_some, Option.some.injEq] at e ⊢
   subst e
   refine ⟨l, .head _, rfl, a, fun r' g'' h'' s kp ac => ?_⟩
   rw [List.map_cons]
   simp only [if_true]
   have : (b.map fun kv => if kv.1 = key then (kv.1, r') else kv) = b := by
    rw [List.map_congr_left (g := id)]
    ·simp
    ·intro kv m
     have : kv.1 ≠ key := fun z => hk1 (List.mem_map.mpr ⟨kv, m, z.trans q.symm⟩)
     simp [this]
   rw [this]
   exact .cons ac (x.stab s fun a' m => kp a' (.tail _ m) fun z => hl (z ▸ m))
  ·simp only [q, decide_false] at e ⊢
   obtain ⟨l', m', e1, a', up⟩ := ih hn' hk' e
   refine ⟨l', .tail _ m', e1, a', fun r' g'' h'' s kp ac => ?_⟩
   rw [List.map_cons]
   simp only [q, if_false]
   exact .cons (a.stab s (kp l (.head _) fun z => hl (z ▸ m'))) (up r' g'' h'' s (fun a m => kp a (.tail _ m)) ac)
theorem IxR.snoc {g h : Heap} {kvs b ls} (x : IxR g h kvs b ls) {key : Str} {r : Row} {l : Addr} (a : AccL (r.map encP) l g h) : IxR g h (kvs ++ [(key, .ref l)]) (b ++ [(key, r)]) (ls ++ [l]) := by
 induction x with
 | nil => exact .cons a .nil
 | cons a' _ ih => exact .cons a' ih
structure IxAt (w : World) (g h : Heap) (x dx fa : Addr) (fz : Bool) (b : Book) (ls : List Addr) : Prop where
 kvs : ∃ kvs, HdAt w h x dx fa kvs ∧ IxR g h kvs b ls
 nd : ls.Nodup
 dict : if fz = true then ∃ lam, DxAt h dx (some (.ref lam)) ∧ Lam g lam x else DxAt h dx none
 fac : Fac g fa
 tab : TbAt g h 100 (pos105 w.params) (qual105 w.params)
 h3 : 3 < x
 ne : x ≠ dx
theorem IxAt.stab {w : World} {g h g' h' : Heap} {x dx fa : Addr} {fz : Bool} {b : Book} {ls : List Addr} (I : IxAt w g h x dx fa fz b ls) (s : Sub g g') (k : ∀ a ∈ x :: dx :: 100 :: ls, ∀ o, h.get? a = some o → h'.get? a = some o) : IxAt w g' h' x dx fa fz b ls where
 kvs := let ⟨kvs, H, R⟩ := I.kvs; ⟨kvs, H.at (k x (.head _)), R.stab s fun a m => k a (.tail _ (.tail _ (.tail _ m)))⟩
 nd := I.nd
 dict := by
  have := I.dict
  split
  ·rename_i q
   rw [if_pos q] at this
   obtain ⟨lam, D, L⟩ := this
   exact ⟨lam, D.sub (k dx (.tail _ (.head _))), L.mono s⟩
  ·rename_i q
   rw [if_neg q] at this
   exact this.sub (k dx (.tail _ (.head _)))
 fac := I.fac.mono s
 tab := I.tab.mono s (k 100 (.tail _ (.tail _ (.head _))))
 h3 := I.h3
 ne := I.ne
structure IxOwn (c : Cx) (x dx : Addr) (ls : List Addr) : Prop where
 own : ∀ a ∈ x :: dx :: 100 :: ls, a ∈ c.O
 nf : ∀ a ∈ x :: dx :: 100 :: ls, a ∉ foot c.env
noncomputable def addIx (fz : Bool) (b : Book) (key : Str) (p : Str × Int) : Book := if fz = true ∧ at? b key = none then b else put b key ((at? b key).getD [] ++ [p])
section
variable {c : Cx} {g : Heap} {s : Shared} {k : Nat} {pos : Pos} {x dx fa : Addr} {fz : Bool} {b : Book} {ls : List Addr}
theorem IxAt.keysNd {w : World} {h : Heap} (I : IxAt w g h x dx fa fz b ls) : (b.map (·.1)).Nodup := by
 obtain ⟨kvs, ⟨_, _, _, _, _, nd⟩, R⟩ := I.kvs
 rw [← R.keys]; exact nd
theorem IxAt.dxdict {w : World} {h : Heap} (I : IxAt w g h x dx fa fz b ls) : ∃ fv, DxAt h dx fv := by
 have := I.dict
 split at this
 ·obtain ⟨lam, D, _⟩ := this; exact ⟨_, D⟩
 ·exact ⟨_, this⟩
theorem IxAt.apart {w : World} {h : Heap} (I : IxAt w g h x dx fa fz b ls) : x ≠ 100 ∧ dx ≠ 100 ∧ (∀ l ∈ ls, l ≠ x ∧ l ≠ dx ∧ l ≠ 100) := by
 obtain ⟨kvs, ⟨es, ep, hx, _⟩, R⟩ := I.kvs
 obtain ⟨fv, D⟩ := I.dxdict
 obtain ⟨od, es', ep', hod, hdd, _⟩ := D
 obtain ⟨ps, hp, _⟩ := I.tab
 refine ⟨fun q => ?_, fun q => ?_, fun l m => ?_⟩
 ·rw [q, hp] at hx; cases hx
 ·rw [q, hp] at hod; cases hod; cases hdd
 ·obtain ⟨n, vs, e⟩ := R.live l m
  refine ⟨fun q => ?_, fun q => ?_, fun q => ?_⟩
  ·rw [q, hx] at e; cases e
  ·rw [q, hod] at e; cases e; cases hdd
  ·rw [q, hp] at e; cases e
theorem St.addOwn {n : Addr} (S : St c g s) (hn : ∃ o, s.heap.get? n = some o) (h0 : g.get? n = none) (h1 : c.s₀.heap.get? n = none) : St { c with W := n :: c.W, O := n :: c.O } g s := by
 refine ⟨S.sm, S.kp, ⟨S.fz.sub, fun a m => ?_⟩, fun a m => ?_, S.gl, S.vars, fun a m => .tail _ (S.inW a m), fun a m => ?_, .tail _ S.loc, fun x hx => ⟨(S.sto x hx).1, fun a l => ⟨.tail _ ((S.sto x hx).2 a l).1, ((S.sto x hx).2 a l).2⟩⟩, S.eg, S.eb⟩
 ·rcases List.mem_cons.mp m with rfl | m
  ·exact h0
  ·exact S.fz.off a m
 ·rcases List.mem_cons.mp m with rfl | m
  ·exact hn
  ·exact S.live a m
 ·rcases List.mem_cons.mp m with rfl | m
  ·exact ⟨.head _, h1⟩
  ·exact ⟨.tail _ (S.own a m).1, (S.own a m).2⟩
end
section
variable {c : Cx} {g : Heap} {s : Shared} {k : Nat} {pos : Pos} {x dx fa : Addr} {fz : Bool} {b : Book} {ls : List Addr} {E : Value → Shared → Prop}
theorem ne_108 {p : Params} {h : Heap} {es : Array DictEntry} {ep : Nat} {sl : Array (Option Value)} (X : (HK p).In h) (hx : h.get? x = some (hdObj dx es ep sl)) : x ≠ 108 := fun q => by
 have e := X _ _ (at108 p)
 rw [q, e] at hx
 have := congrArg (fun o : Option Obj => o.map Obj.data) hx
 simp only [Option.map_some] at this
 rw [show (ob108 p).data = .cls (cd108 p) from rfl] at this
 cases this
theorem St.hdItem (S : St c g s) (Ix : IxAt c.w g s.heap x dx fa fz b ls) (Ow : IxOwn c x dx ls) (hK : c.K = HK c.w.params) (hA : AOk 8 c.A) (hz : b.length ≤ sizeLine) {nm key : Str} {np : Pos} {i : Expr} {Q : Value → Shared → Prop} (hx : hasVar c.env nm = true) (hm : c.m nm = some (.ref x)) (hi : Does c (eval i c.env) (RdP (.str key)) g)
  (hs : ∀ o j, subscripted i false o j = operate [o, j] (getItem o j))
  (h : ∀ g' s' l N', St { c with W := N' ++ c.W, O := N' ++ c.O } g' s' → Sub g g' → AccL (((at? b key).getD []).map encP) l g' s'.heap → (l ∈ N' ∨ l ∈ ls) → l ∉ foot c.env → (∀ a ∈ N', a ∉ foot c.env ∧ a ∉ c.W) → (∀ a, a ≠ x → ∀ o, s.heap.get? a = some o → s'.heap.get? a = some o) →
   (∀ p g'' h'', Sub g' g'' → (∀ a, a ≠ l → ∀ o, s'.heap.get? a = some o → h''.get? a = some o) → AccL (((at? b key).getD [] ++ [p]).map encP) l g'' h'' → ∃ ls', IxAt c.w g'' h'' x dx fa fz (addIx fz b key p) ls' ∧ ∀ a ∈ ls', a ∈ ls ∨ a ∈ N') → Q (.ref l) s')
  (hd : (nm == ("__debug__" : Str)) = false := by decide) :
  wpAny (model PG c.w) c.A (eval (.Subscript (.Name nm np) i pos) c.env) Q E s := by
 refine Subscript_ (wpAny_Name (load_var S.vars hx hm (hi g s _ E Sub.refl S fun g₁ s₁ kv S₁ sg₁ sh₁ rk => ?_)) hd)
 obtain ⟨t, rfl⟩ := Rd.inv_str rk
 have I₁ : IxAt c.w g₁ s₁.heap x dx fa fz b ls := Ix.stab sg₁ fun a _ o e => sh₁ _ _ e
 obtain ⟨h₁, ga, dr, tk, os⟩ := s₁
 have X : (HK c.w.params).In h₁ := (hK ▸ S₁.gl.K).keeps S₁.fz.sub
 obtain ⟨_, _, _, _, T0⟩ := S₁.gl.top
 have T := T0.keeps S₁.fz.sub
 obtain ⟨kvs, H, R⟩ := I₁.kvs
 obtain ⟨a1, a2, a3⟩ := I₁.apart
 obtain ⟨es, ep, hxo, hH⟩ := id H
 have hxC := ne_108 X hxo
 have hxO : x ∈ c.O := Ow.own _ (.head _)
 have hxf : x ∉ foot c.env := Ow.nf _ (.head _)
 refine sub_108 X hxo ?_ (hs _ _)
 cases e : at? b key with
 | some r =>
  obtain ⟨l, ml, ev, ac, up⟩ := R.upd I₁.nd I₁.keysNd e
  refine getitem_hit X H ev ?_
  rw [e] at h
  refine h g₁ _ l [] S₁.toks sg₁ ac (.inr ml) (Ow.nf l (.tail _ (.tail _ (.tail _ ml)))) (fun a m => by cases m) (fun a _ o eo => sh₁ _ _ eo) fun p g'' h'' sg'' sb ac' => ⟨ls, ?_, fun a m => .inl m⟩
  have e2 : addIx fz b key p = put b key (r ++ [p]) := by
   unfold addIx
   rw [if_neg (by rw [e]; rintro ⟨_, q⟩; cases q), e]; rfl
  rw [e2]
  have nx : x ≠ l := fun q => (a3 l ml).1 q.symm
  have ndx : dx ≠ l := fun q => (a3 l ml).2.1 q.symm
  have n100 : 100 ≠ l := fun q => (a3 l ml).2.2 q.symm
  refine ⟨⟨kvs, H.at (sb x nx), up _ g'' h'' sg'' (fun a m hne o eo => sb a hne o eo) ac'⟩, I₁.nd, ?_, I₁.fac.mono sg'', I₁.tab.mono sg'' (sb 100 n100), I₁.h3, I₁.ne⟩
  have := I₁.dict
  split
  ·rename_i q
   rw [if_pos q] at this
   obtain ⟨lam, D, L⟩ := this
   exact ⟨lam, D.sub (sb dx ndx), L.mono sg''⟩
  ·rename_i q
   rw [if_neg q] at this
   exact this.sub (sb dx ndx)
 | none =>
  rw [e] at h
  have ev := R.not e
  cases fz with
  | false =>
   have D := I₁.dict
   rw [if_neg (by decide)] at D
   refine miss_u X T (hA.mono (by decide)) H D (I₁.fac.mono S₁.fz.sub) ev (by rw [R.len]; exact hz) I₁.h3 hxC fun h' n tk' eb hn hn' H' => ?_
   have lx : ∃ o, h'.get? x = some o := let ⟨_, _, e, _⟩ := H'; ⟨_, e⟩
   have S₂ : St c g₁ ⟨h', ga, dr, tk', os⟩ := S₁.turn ⟨_, _, rfl⟩ (.of_ext eb hxO lx.choose_spec) (S₁.vars.at fun a ha o e => eb a o (fun q => hxf (q ▸ ha)) e)
   have hng : g₁.get? n = none := Sub.none S₁.fz.sub hn
   have hnW : n ∉ c.W := fun q => by obtain ⟨o, z⟩ := S₁.live n q; rw [show (⟨h₁, ga, dr, tk, os⟩ : Shared).heap.get? n = none from hn] at z; cases z
   have S₃ := S₂.addOwn ⟨_, hn'⟩ hng (Sub.none S₁.kp hn)
   have hnx : n ≠ x := fun q => by rw [q, hxo] at hn; cases hn
   obtain ⟨od, _, _, hod, _⟩ := id D
   have hndx : n ≠ dx := fun q => by rw [q, hod] at hn; cases hn
   obtain ⟨ps, hps, _⟩ := id I₁.tab
   have hn100 : n ≠ 100 := fun q => by rw [q, hps] at hn; cases hn
   have hnl : n ∉ ls := fun q => by obtain ⟨_, _, z⟩ := R.live n q; rw [show h₁.get? n = none from hn] at z; cases z
   refine h g₁ _ n [n] S₃ sg₁ ⟨[], ⟨_, hn'⟩, .nil⟩ (.inl (.head _)) (fun q => hnW (S.inW n q)) (fun a m => by rw [List.mem_singleton.mp m]; exact ⟨fun q => hnW (S.inW n q), hnW⟩) (fun a hne o eo => eb a o hne (sh₁ _ _ eo)) fun p g'' h'' sg'' sb ac' => ⟨ls ++ [n], ?_, fun a m => (List.mem_append.mp m).elim .inl .inr⟩
   have e2 : addIx false b key p = b ++ [(key, [] ++ [p])] := by
    unfold addIx
    rw [if_neg (by rintro ⟨q, _⟩; cases q), e]; exact put_none e
   rw [e2]
   have kp : ∀ a, a ≠ x → a ≠ n → ∀ o, h₁.get? a = some o → h''.get? a = some o := fun a h1 h2 o eo => sb a h2 o (eb a o h1 eo)
   refine ⟨⟨kvs ++ [(key, .ref n)], H'.at (sb x hnx.symm), (R.stab sg'' fun a m => kp a (a3 a m).1 (fun q => hnl (q ▸ m))).snoc ac'⟩, ?_, ?_, I₁.fac.mono sg'', I₁.tab.mono sg'' (kp 100 a1.symm hn100.symm), I₁.h3, I₁.ne⟩
   ·rw [List.nodup_append]
    refine ⟨I₁.nd, by simp, ?_⟩
    intro a ha b' hb
    rw [List.mem_singleton.mp hb]
    exact fun q => hnl (q ▸ ha)
   ·rw [if_neg (by decide)]
    exact D.sub (kp dx I₁.ne.symm hndx.symm)
  | true =>
   have D := I₁.dict
   rw [if_pos rfl] at D
   obtain ⟨lam, D, Lm⟩ := D
   refine miss_f X T (hA.mono (by decide)) H D (Lm.mono S₁.fz.sub) (I₁.fac.mono S₁.fz.sub) ev I₁.h3 hxC fun h' n tk' kk hn hn' => ?_
   have S₂ : St c g₁ ⟨h', ga, dr, tk', os⟩ := S₁.step ⟨_, _, rfl⟩ kk
   have hng : g₁.get? n = none := Sub.none S₁.fz.sub hn
   have hnW : n ∉ c.W := fun q => by obtain ⟨o, z⟩ := S₁.live n q; rw [show (⟨h₁, ga, dr, tk, os⟩ : Shared).heap.get? n = none from hn] at z; cases z
   have S₃ := S₂.addOwn ⟨_, hn'⟩ hng (Sub.none S₁.kp hn)
   refine h g₁ _ n [n] S₃ sg₁ ⟨[], ⟨_, hn'⟩, .nil⟩ (.inl (.head _)) (fun q => hnW (S.inW n q)) (fun a m => by rw [List.mem_singleton.mp m]; exact ⟨fun q => hnW (S.inW n q), hnW⟩) (fun a _ o eo => kk _ _ (sh₁ _ _ eo)) fun p g'' h'' sg'' sb ac' => ⟨ls, ?_, fun a m => .inl m⟩
   have e2 : addIx true b key p = b := by
    unfold addIx
    rw [if_pos ⟨rfl, e⟩]
   rw [e2]
   refine I₁.stab sg'' fun a m o eo => ?_
   have hne : a ≠ n := fun q => by rw [q, show h₁.get? n = none from hn] at eo; cases eo
   exact sb a hne o (kk _ _ eo)
end
end Mine
namespace Mine
open PySem PySem.W PySem.Calls PySem.Spec PyProof.Rows Builtin
noncomputable def withN (c : Cx) (N : List Addr) : Cx := { c with W := N ++ c.W, O := N ++ c.O }
section
variable {c : Cx} {g : Heap} {s : Shared} {k : Nat} {pos : Pos} {x dx fa : Addr} {fz : Bool} {b : Book} {ls : List Addr} {E : Value → Shared → Prop} {Q : Flow → Shared → Prop} {rest : List Stmt}
theorem IxOwn.grow {N : List Addr} {ls' : List Addr} (Ow : IxOwn c x dx ls) (hl : ∀ a ∈ ls', a ∈ ls ∨ a ∈ N) (hN : ∀ a ∈ N, a ∉ foot c.env ∧ a ∉ c.W) : IxOwn (withN c N) x dx ls' := by
 have old : ∀ a ∈ x :: dx :: 100 :: ls', a ∈ x :: dx :: 100 :: ls ∨ a ∈ N := fun a m => by
  rcases List.mem_cons.mp m with rfl | m
  ·exact .inl (.head _)
  ·rcases List.mem_cons.mp m with rfl | m
   ·exact .inl (.tail _ (.head _))
   ·rcases List.mem_cons.mp m with rfl | m
    ·exact .inl (.tail _ (.tail _ (.head _)))
    ·exact (hl a m).imp (fun m => .tail _ (.tail _ (.tail _ m))) id
 exact ⟨fun a m => (old a m).elim (fun m => List.mem_append_right _ (Ow.own a m)) fun m => List.mem_append_left _ m, fun a m => (old a m).elim (fun m => Ow.nf a m) fun m => (hN a m).1⟩
theorem St.hdAppend (S : St c g s) (Ix : IxAt c.w g s.heap x dx fa fz b ls) (Ow : IxOwn c x dx ls) (hK : c.K = HK c.w.params) (hA : AOk 8 c.A) (hz : b.length ≤ sizeLine) {nm key : Str} {np sp ap cp : Pos} {i arg : Expr} {p : Str × Int} (hx : hasVar c.env nm = true) (hm : c.m nm = some (.ref x)) (hi : Does c (eval i c.env) (RdP (.str key)) g)
  (hzr : ((at? b key).getD []).length ≤ sizeLine) (harg : ∀ N, Does (withN c N) (eval arg c.env) (RdP (encP p)) g)
  (h : ∀ g' s' N ls', St (withN c N) g' s' → Sub g g' → IxAt c.w g' s'.heap x dx fa fz (addIx fz b key p) ls' → IxOwn (withN c N) x dx ls' → (∀ a ∈ N, a ∉ foot c.env ∧ a ∉ c.W) → (∀ a ∈ ls', a ∈ ls ∨ a ∈ N) → (∀ a ∈ c.W, a ≠ x → a ∉ ls → ∀ o, s.heap.get? a = some o → s'.heap.get? a = some o) → wpAny (model PG c.w) c.A (execs rest c.env) Q E s')
  (hs : ∀ o j, subscripted i false o j = operate [o, j] (getItem o j)) (hd : (nm == ("__debug__" : Str)) = false := by decide)
  (hbase : attributeBase (.Subscript (.Name nm np) i sp) "append" c.env (eval (.Subscript (.Name nm np) i sp) c.env) = eval (.Subscript (.Name nm np) i sp) c.env := by rfl)
  (hfew : ((backTo cp (starEach [arg] c.env)).all (fun x => !x.1) && (backToKw cp (keywordEach [] c.env)).all (fun x => x.1.isSome) && decide (([arg] : List Expr).length + ([] : List Keyword).length + (if ([] : List Keyword).isEmpty then 0 else 1) < 30)) = true := by rfl)
  (hline : (ap.endLine == cp.line) = true := by rfl) (hst : starEach [arg] c.env = (false, eval arg c.env) :: starEach [] c.env := by rfl) (hin : interactive c.env = false := by rfl)
  (hsw : swapsWith (.Call (.Attribute (.Subscript (.Name nm np) i sp) "append" ap) [arg] [] cp) none pos.line c.env = pure false := by rfl) :
  wpAny (model PG c.w) c.A (execs (.Expr (.Call (.Attribute (.Subscript (.Name nm np) i sp) "append" ap) [arg] [] cp) pos :: rest) c.env) Q E s := by
 refine wpAny_execs_cons (wpAny_Expr_any (wpAny_Call_method hbase hfew hline PySem.F.plainAttrs_list PySem.F.slot_list_append PySem.F.type_list_append (S.hdItem Ix Ow hK hA hz hx hm hi hs (fun g₁ s₁ l N S₁ sg₁ ac hlm hlf hN kx up => ?_) hd)) hin hsw)
 obtain ⟨vs, hl, rl⟩ := ac
 have hnd : ∀ b, Value.ref l = .ref b → ∃ ob, s₁.heap.get? b = some ob ∧ ob.dict = none := fun b e => by cases e; obtain ⟨n, e⟩ := hl; exact ⟨_, e, rfl⟩
 refine ⟨hl.isList.typeIs, hnd, callWith_method1 ?_ hst rfl⟩
 have S₁ : St (withN c N) g₁ s₁ := S₁
 have hlO : l ∈ (withN c N).O := hlm.elim (fun m => List.mem_append_left _ m) fun m => List.mem_append_right _ (Ow.own l (.tail _ (.tail _ (.tail _ m))))
 refine S₁.run sg₁ (ar_d (harg N) ar_nil hst : DoesA (withN c N) cp [arg] _ g) fun g₃ s₃ us S₃ sg₃ sh₃ q => ?_
 obtain ⟨u, _, rfl, pu, rfl⟩ := q
 have hvs : vs.toArray.size ≤ sizeLine := by
  have e1 := rl.length
  rw [List.length_map] at e1
  rw [List.size_toArray]; omega
 refine wpAny_list_append_plain (hsz := hvs) (hl.at fun o e => sh₃ _ _ e) fun h₆ hl₆ hs₆ => ?_
 obtain ⟨nD, hoD⟩ := id hl₆
 have S₄ : St (withN c N) g₃ { s₃ with heap := h₆ } := S₃.turn Sm.heap (.of_same hs₆ hlO hoD) (S₃.vars.at fun a ha o e => hs₆.extBut a o (fun q => hlf (q ▸ ha)) e)
 obtain ⟨ls', I', hl'⟩ := up p g₃ h₆ sg₃ (fun a hne o e => hs₆.extBut a o hne (sh₃ _ _ e)) ⟨vs ++ [u], by simpa using hl₆, by
  rw [List.map_append]; exact (rl.mono sg₃).append (.cons pu .nil)⟩
 exact h g₃ _ N ls' S₄ (sg₁.trans sg₃) I' (Ow.grow hl' hN) hN hl' fun a hW hne hnl o eo => hs₆.extBut a o (fun q => hlm.elim (fun m => (hN l m).2 (q ▸ hW)) fun m => hnl (q ▸ m)) (sh₃ _ _ (kx a hne o eo))
theorem freeze_meth {w : World} {A : Around} {h : Heap} {ga : Array GenState} {d : Drawn} {tk : Nat} {os : OsState} {es : Array DictEntry} {ep : Nat} {sl : Array (Option Value)} {fv : Option Value} {pl : Sem Bool} {Q : Value × List Value → Shared → Prop} (X : (HK w.params).In h) (hx : h.get? x = some (hdObj dx es ep sl)) (D : DxAt h dx fv) (hq : Q (.ref 105, [.ref x]) ⟨h, ga, d, tk, os⟩) :
  wpAny (model PG w) A (getMethod (.ref x) "freeze" pl) Q E ⟨h, ga, d, tk, os⟩ := by
 obtain ⟨od, I, hl⟩ := D.inst hx
 have hga : findIn (HK w.params) (.ref 108) "__getattribute__" = some (some (.builtin "collections.defaultdict.__getattribute__")) := by rfl
 have hk : findIn (HK w.params) (.ref 108) "__getattr__" = some none := by rfl
 have hf : findIn (HK w.params) (.ref 108) "freeze" = some (some (.ref 105)) := by rfl
 unfold getMethod specialOf
 refine wpAny_bind (wpAny_bind (I.type.here ((looks_findIn X hga).here ?_)))
 dsimp only
 rw [canon_dga, if_neg (by decide)]
 refine wpAny_bind (wpAny_bind (I.type.here ((looks_findIn X hk).here ?_)))
 refine wpAny_bind (wpAny_bind (I.type.here ((looks_findIn X hf).here (wpAny_bind ((looks_typeIn X (show typeIn (HK w.params) (.ref 105) = some (.type "function") from rfl)).here ?_)))))
 rw [if_neg (by decide +kernel)]
 refine wpAny_bind (wpAny_loadPart hx ?_)
 have hd := I.dict
 refine wpAny_bind (wpAny_bind (wpAny_loadPart hd ?_))
 rw [nsLook_of (hl "freeze")]
 refine wpAny_pure ?_
 rw [show (fzM fv "freeze").isSome = false from by unfold fzM; rw [if_neg (by decide)]; rfl]
 exact wpAny_bind (wpAny_rule (wpAny_pure hq))
theorem St.hdFreeze (S : St c g s) (Ix : IxAt c.w g s.heap x dx fa fz b ls) (Ow : IxOwn c x dx ls) (hK : c.K = HK c.w.params) (hA : AOk 8 c.A) {nm : Str} {np ap cp : Pos} (hx : hasVar c.env nm = true) (hm : c.m nm = some (.ref x))
  (h : ∀ g' s', St c g' s' → Sub g g' → IxAt c.w g' s'.heap x dx fa true b ls → (∀ a, a ≠ dx → a ≠ 100 → ∀ o, s.heap.get? a = some o → s'.heap.get? a = some o) → wpAny (model PG c.w) c.A (execs rest c.env) Q E s')
  (hd : (nm == ("__debug__" : Str)) = false := by decide) (hbase : attributeBase (.Name nm np) "freeze" c.env (eval (.Name nm np) c.env) = eval (.Name nm np) c.env := by rfl)
  (hline : (ap.endLine == cp.line) = true := by rfl) (hin : interactive c.env = false := by rfl)
  (hsw : swapsWith (.Call (.Attribute (.Name nm np) "freeze" ap) [] [] cp) none pos.line c.env = pure false := by rfl) :
  wpAny (model PG c.w) c.A (execs (.Expr (.Call (.Attribute (.Name nm np) "freeze" ap) [] [] cp) pos :: rest) c.env) Q E s := by
 have G : GL (HK c.w.params) g := hK ▸ S.gl
 have X := G.K.keeps S.fz.sub
 obtain ⟨kvs, H, R⟩ := Ix.kvs
 obtain ⟨a1, a2, a3⟩ := Ix.apart
 obtain ⟨es, ep, hxo, _⟩ := id H
 obtain ⟨fv, D⟩ := Ix.dxdict
 have hdO := Ow.own dx (.tail _ (.head _))
 have hdf := Ow.nf dx (.tail _ (.head _))
 have hPO := Ow.own 100 (.tail _ (.tail _ (.head _)))
 have hPf := Ow.nf 100 (.tail _ (.tail _ (.head _)))
 have hWl : ∀ a ∈ c.W, ∃ o, s.heap.get? a = some o := S.live
 refine wpAny_execs_cons (wpAny_Expr_any (call_gm (wpAny_Name (load_var S.vars hx hm fun pl => ?_) hd) hbase hline rfl) hin hsw)
 obtain ⟨h₀, ga, dr, tk, os⟩ := s
 refine freeze_meth X hxo D ?_
 refine callWith_F0 (first := [.ref x]) ⟨_, _, fd105 c.w.params, _, X _ _ (at105 _)⟩ (wpAny_call (freeze_run G S.fz.sub (hA.mono (by decide)) hxo D Ix.tab a2 a1 (S.fz.off _ (S.own _ hPO).1) (S.fz.off _ (S.own _ hdO).1) fun h' tk' lam kp D' nw => ?_))
 obtain ⟨od, _, _, hod, _⟩ := id D'
 have sgx : Sub g (hideAll h' c.W) := fun b o e => by
  refine hideAll_get _ (kp b o (fun q => ?_) (fun q => ?_) (S.fz.sub b o e)) (fun q => ?_)
  ·rw [q, S.fz.off _ (S.own _ hdO).1] at e; cases e
  ·rw [q, S.fz.off _ (S.own _ hPO).1] at e; cases e
  ·rw [S.fz.off b q] at e; cases e
 have nwx : NewIn h₀ h' (hideAll h' c.W) := fun a o e e' => hideAll_get _ e fun q => by obtain ⟨o', z⟩ := hWl a q; rw [show (⟨h₀, ga, dr, tk, os⟩ : Shared).heap.get? a = none from e'] at z; cases z
 obtain ⟨L, Tb⟩ := nw _ sgx nwx
 have tbl : ∃ ps, h'.get? 100 = some (tabObj ps) := let ⟨ps, e, _⟩ := Tb; ⟨ps, e⟩
 obtain ⟨ps', hps'⟩ := tbl
 have but : But c.O h₀ h' := fun b o e => by
  by_cases q1 : b = dx
  ·subst q1; exact ⟨od, hod, fun n => absurd hdO n⟩
  ·by_cases q2 : b = 100
   ·subst q2; exact ⟨_, hps', fun n => absurd hPO n⟩
   ·exact ⟨o, kp b o q1 q2 e, fun _ => rfl⟩
 have S₂ : St c g ⟨h', ga, dr, tk', os⟩ := S.turn ⟨_, _, rfl⟩ but (S.vars.at fun a ha o e => kp a o (fun q => hdf (q ▸ ha)) (fun q => hPf (q ▸ ha)) e)
 obtain ⟨S₃, sg₃⟩ := S₂.grow
 refine h _ _ S₃ sg₃ ⟨⟨kvs, H.at fun o e => kp x o Ix.ne a1 e, R.stab sg₃ fun a m o e => kp a o (a3 a m).2.1 (a3 a m).2.2 e⟩, Ix.nd, ?_, Ix.fac.mono sg₃, Tb, Ix.h3, Ix.ne⟩ fun a h1 h2 o e => kp a o h1 h2 e
 rw [if_pos rfl]
 exact ⟨lam, D', L⟩
end
end Mine
namespace Mine
open PySem PySem.W PySem.Calls PySem.Spec PyProof.Rows
section
variable {c : Cx} {g : Heap} {s : Shared} {pos : Pos} {Q : Flow → Shared → Prop} {E : Value → Shared → Prop} {P : Heap → Value → Prop} {k : Nat} {rest : List Stmt}
theorem St.reW {W' : List Addr} (S : St c g s) (h : ∀ a ∈ W', a ∈ c.W) (hf : ∀ a ∈ foot c.env, a ∈ W') (ho : ∀ a ∈ c.O, a ∈ W') : St { c with W := W' } g s :=
 ⟨S.sm, S.kp, ⟨S.fz.sub, fun a m => S.fz.off a (h a m)⟩, fun a m => S.live a (h a m), S.gl, S.vars, hf, fun a m => ⟨ho a m, (S.own a m).2⟩, S.loc, S.sto, S.eg, S.eb⟩
theorem St.unanchorN {g' : Heap} {s' : Shared} {m' : Str → Option Value} {W' O' : List Addr} (S : St c g s) (S' : St { c with m := m', W := W', O := O', s₀ := anchor s c.O } g' s') : St { c with m := m', W := W', O := O' } g' s' :=
 ⟨S.sm.trans (by obtain ⟨h, tk, e⟩ := S'.sm; exact ⟨h, tk, e⟩), fun x o e => S'.kp x o (hideAll_get _ (S.kp x o e) fun q => by rw [(S.own x q).2] at e; cases e), S'.fz, S'.live, S'.gl, S'.vars, S'.inW,
  fun a m => ⟨(S'.own a m).1, by
   cases e : c.s₀.heap.get? a with
   | none => rfl
   | some o =>
    have h1 := (S'.own a m).2
    have h2 : (anchor s c.O).heap.get? a = some o := hideAll_get _ (S.kp a o e) fun q => by rw [(S.own a q).2] at e; cases e
    rw [show ({ c with m := m', W := W', O := O', s₀ := anchor s c.O } : Cx).s₀.heap.get? a = some o from h2] at h1
    cases h1⟩, S'.loc, S'.sto, S'.eg, S'.eb⟩
theorem wp_forN {target iter : Expr} {body : List Stmt} {n : Nat} {V : Nat → Heap → Value → Prop} (hP : Does c (eval iter c.env) P g) (hI : ∀ g' x, Sub g g' → P g' x → DoesIt c target (pyIter x) n V g') (S : St c g s)
  (Inv : Nat → (Str → Option Value) → List Addr → Heap → Heap → Prop) (h0 : Inv 0 c.m [] g s.heap)
  (stab : ∀ i m N g h g' h', Inv i m N g h → Sub g g' → (∀ a ∈ N ++ c.O, ∀ o, h.get? a = some o → h'.get? a = some o) → Inv i m N g' h')
  (turn : ∀ W' N s₀' i m g₁ s₁ v, (∀ a ∈ N ++ c.W, a ∈ W') → i < n → St { c with m := m, W := W', O := N ++ c.O, s₀ := s₀' } g₁ s₁ → Inv i m N g₁ s₁.heap → V i g₁ v → Sub g g₁ →
   wpAny (model PG c.w) c.A (assign target c.env v) (fun _ s₂ => wpAny (model PG c.w) c.A (execs body c.env) (fun f s₃ => match f with
    | .next | .cont => ∃ m' g₂ N', St { c with m := m', W := N' ++ W', O := N' ++ (N ++ c.O), s₀ := s₀' } g₂ s₃ ∧ Sub g₁ g₂ ∧ Inv (i + 1) m' (N' ++ N) g₂ s₃.heap
    | _ => False) (fun _ _ => False) s₂) (fun _ _ => False) s₁)
  (done : ∀ m N g' s', St { c with m := m, W := N ++ c.W, O := N ++ c.O } g' s' → Sub g g' → Inv n m N g' s'.heap → Q .next s')
  (hs : ∀ x, foldedSetIterable iter c.env x = pure x := by intro _; rfl) :
  wpAny (model PG c.w) c.A (exec (.For target iter body [] pos) c.env) Q E s := by
 refine wpAny_For (hP g s _ E Sub.refl S fun g₁ s₁ x S₁ sg₁ sh₁ p => hI g₁ x sg₁ p g₁ s₁ _ E Sub.refl S₁ fun gI s₂ I fp J S₂ sg₂ sh₂ It0 j0 hf => ?_) hs
 have hfW : ∀ a ∈ fp, a ∉ c.W := fun a m q => by obtain ⟨o, e⟩ := S₁.live a q; rw [(hf a m).2.1] at e; cases e
 have hf0 : ∀ a ∈ fp, c.s₀.heap.get? a = none := fun a m => Sub.none S₁.kp (hf a m).2.1
 have hff : ∀ a ∈ fp, a ∉ foot c.env := fun a m q => hfW a m (S.inW a q)
 have hfO : ∀ a ∈ fp, a ∉ c.O := fun a m q => hfW a m (S.own a q).1
 refine codeAny_forLoop_any (fun k s' => ∃ i m N g', k = n + 1 - i ∧ i ≤ n ∧ St { c with m := m, W := N ++ (fp ++ c.W), O := N ++ c.O } g' s' ∧ Sub gI g' ∧ Inv i m N g' s'.heap ∧ J i s'.heap ∧ ∀ a ∈ N, a ∉ fp) ?_ (n + 1)
  ⟨0, c.m, [], gI, rfl, Nat.zero_le _, S₂.addW fun a m => ⟨(hf a m).1, (hf a m).2.2⟩, Sub.refl, stab _ _ _ _ _ _ _ h0 (sg₁.trans sg₂) fun a _ o e => sh₂ _ _ (sh₁ _ _ e), j0, fun a m => by cases m⟩
 rintro k s₃ ⟨i, m, N, g₃, rfl, hi, S₃, sg₃, inv, j, hNf⟩
 have hfN : ∀ a ∈ fp, a ∉ N ++ c.O := fun a m q => (List.mem_append.mp q).elim (fun q => hNf a q m) (hfO a m)
 have memW : ∀ a ∈ fp, a ∈ N ++ (fp ++ c.W) := fun a q => List.mem_append_right _ (List.mem_append_left _ q)
 by_cases hlt : i < n
 ·refine It0.item i s₃ _ _ hlt j (sg₃.trans S₃.fz.sub) fun v s₄ JM sm₄ b₄ j₄ own hV => ?_
  have S₄ : St { c with m := m, W := N ++ (fp ++ c.W), O := N ++ c.O } g₃ s₄ := S₃.iter sm₄ b₄ fun a q => ⟨memW a q, hf0 a q, hff a q⟩
  refine own s₄ _ _ j₄ fun s₅ sm₅ b₅ j₅ => ?_
  have S₅ : St { c with m := m, W := N ++ (fp ++ c.W), O := N ++ c.O } g₃ s₅ := S₄.iter sm₅ b₅ fun a q => ⟨memW a q, hf0 a q, hff a q⟩
  obtain ⟨S₆, sg₆⟩ := S₅.grow
  have kO : ∀ a ∈ N ++ c.O, ∀ o, s₃.heap.get? a = some o → s₅.heap.get? a = some o := fun a q o e => b₅.keep (fun z => hfN a z q) (b₄.keep (fun z => hfN a z q) e)
  have hv : V i (hideAll s₅.heap (N ++ (fp ++ c.W))) v := hV _ (sg₃.trans sg₆) fun a o e e' => hideAll_get _ (b₅.keep (fun z => by obtain ⟨o', z'⟩ := S₃.live a (memW a z); rw [e'] at z'; cases z') e) fun z => by obtain ⟨o', z'⟩ := S₃.live a z; rw [e'] at z'; cases z'
  have t := turn (N ++ (fp ++ c.W)) N (anchor s₅ (N ++ c.O)) i m _ s₅ v (fun a q => (List.mem_append.mp q).elim (fun q => List.mem_append_left _ q) fun q => List.mem_append_right _ (List.mem_append_right _ q)) hlt S₆.anchored (stab _ _ _ _ _ _ _ inv sg₆ kO) hv (((sg₁.trans sg₂).trans sg₃).trans sg₆)
  have fin : ∀ m' g₂ N' s₇, St { c with m := m', W := N' ++ (N ++ (fp ++ c.W)), O := N' ++ (N ++ c.O), s₀ := anchor s₅ (N ++ c.O) } g₂ s₇ → Sub (hideAll s₅.heap (N ++ (fp ++ c.W))) g₂ → St { c with m := m', W := (N' ++ N) ++ (fp ++ c.W), O := (N' ++ N) ++ c.O } g₂ s₇ ∧ Sub gI g₂ ∧ J (i + 1) s₇.heap ∧ ∀ a ∈ N' ++ N, a ∉ fp := fun m' g₂ N' s₇ S₇ sg₇ => by
   refine ⟨?_, (sg₃.trans sg₆).trans sg₇, It0.frame _ _ _ j₅ (fun a q o e => S₇.kp a o (hideAll_get _ e (hfN a q))) ((sg₃.trans sg₆).trans S₆.fz.sub) (((sg₃.trans sg₆).trans sg₇).trans S₇.fz.sub), fun a q z => ?_⟩
   ·have := St.unanchorN (c := { c with m := m, W := N ++ (fp ++ c.W), O := N ++ c.O }) S₆ S₇
    rw [List.append_assoc, List.append_assoc]
    exact this
   ·rcases List.mem_append.mp q with q | q
    ·have h1 := (S₇.own a (List.mem_append_left _ q)).2
     obtain ⟨o, e⟩ := S₅.live a (memW a z)
     have h2 : (anchor s₅ (N ++ c.O)).heap.get? a = some o := hideAll_get _ e (hfN a z)
     rw [show ({ c with m := m', W := N' ++ (N ++ (fp ++ c.W)), O := N' ++ (N ++ c.O), s₀ := anchor s₅ (N ++ c.O) } : Cx).s₀.heap.get? a = some o from h2] at h1
     cases h1
    ·exact hNf a q z
  refine wpAny_mono t (fun _ s₆ h₆ => wpAny_mono h₆ (fun f s₇ h₇ => ?_) fun _ _ e => e.elim) fun _ _ e => e.elim
  cases f with
  | next =>
   obtain ⟨m', g₂, N', S₇, sg₇, i₇⟩ := h₇
   obtain ⟨x, y, z, u⟩ := fin m' g₂ N' s₇ S₇ sg₇
   exact ⟨n + 1 - (i + 1), turn_lt hlt, i + 1, m', N' ++ N, g₂, rfl, hlt, x, y, i₇, z, u⟩
  | cont =>
   obtain ⟨m', g₂, N', S₇, sg₇, i₇⟩ := h₇
   obtain ⟨x, y, z, u⟩ := fin m' g₂ N' s₇ S₇ sg₇
   exact ⟨n + 1 - (i + 1), turn_lt hlt, i + 1, m', N' ++ N, g₂, rfl, hlt, x, y, i₇, z, u⟩
  | brk => exact h₇.elim
  | ret v => exact h₇.elim
 ·have hin : i = n := by omega
  subst hin
  refine It0.done s₃ _ _ j (sg₃.trans S₃.fz.sub) fun s₄ sm₄ b₄ => ?_
  have S₃' : St { c with m := m, W := fp ++ (N ++ c.W), O := N ++ c.O } g₃ s₃ := St.reW (c := { c with m := m, W := N ++ (fp ++ c.W), O := N ++ c.O }) S₃
   (fun a q => (List.mem_append.mp q).elim (fun q => memW a q) fun q => (List.mem_append.mp q).elim (fun q => List.mem_append_left _ q) fun q => List.mem_append_right _ (List.mem_append_right _ q))
   (fun a q => List.mem_append_right _ (List.mem_append_right _ (S.inW a q))) fun a q => List.mem_append_right _ ((List.mem_append.mp q).elim (fun q => List.mem_append_left _ q) fun q => List.mem_append_right _ (S.own a q).1)
  have S₅ := St.dropW (c := { c with m := m, W := N ++ c.W, O := N ++ c.O }) S₃' sm₄ b₄ (fun a q => ⟨fun z => (List.mem_append.mp z).elim (fun z => hNf a z q) (hfW a q), hf0 a q⟩) (fun a q => List.mem_append_right _ (S.inW a q)) fun a q => (List.mem_append.mp q).elim (fun q => List.mem_append_left _ q) fun q => List.mem_append_right _ (S.own a q).1
  exact wpAny_execs_nil (done m N g₃ s₄ S₅ ((sg₁.trans sg₂).trans sg₃) (stab _ _ _ _ _ _ _ inv Sub.refl fun a q o e => b₄ a o (fun z => hfN a z q) e))
theorem St.loopN (S : St c g s) {target iter : Expr} {body : List Stmt} {n : Nat} {V : Nat → Heap → Value → Prop} (hP : Does c (eval iter c.env) P g) (hI : ∀ g' x, Sub g g' → P g' x → DoesIt c target (pyIter x) n V g')
  (Inv : Nat → (Str → Option Value) → List Addr → Heap → Heap → Prop) (h0 : Inv 0 c.m [] g s.heap)
  (stab : ∀ i m N g h g' h', Inv i m N g h → Sub g g' → (∀ a ∈ N ++ c.O, ∀ o, h.get? a = some o → h'.get? a = some o) → Inv i m N g' h')
  (turn : ∀ W' N s₀' i m g₁ s₁ v, (∀ a ∈ N ++ c.W, a ∈ W') → i < n → St { c with m := m, W := W', O := N ++ c.O, s₀ := s₀' } g₁ s₁ → Inv i m N g₁ s₁.heap → V i g₁ v → Sub g g₁ →
   wpAny (model PG c.w) c.A (PySem.assign target c.env v) (fun _ s₂ => wpAny (model PG c.w) c.A (execs body c.env) (fun f s₃ => match f with
    | .next | .cont => ∃ m' g₂ N', St { c with m := m', W := N' ++ W', O := N' ++ (N ++ c.O), s₀ := s₀' } g₂ s₃ ∧ Sub g₁ g₂ ∧ Inv (i + 1) m' (N' ++ N) g₂ s₃.heap
    | _ => False) (fun _ _ => False) s₂) (fun _ _ => False) s₁)
  (done : ∀ m N g' s', St { c with m := m, W := N ++ c.W, O := N ++ c.O } g' s' → Sub g g' → Inv n m N g' s'.heap → wpAny (model PG c.w) c.A (execs rest c.env) Q E s')
  (hs : ∀ x, foldedSetIterable iter c.env x = pure x := by intro _; rfl) :
  wpAny (model PG c.w) c.A (execs (.For target iter body [] pos :: rest) c.env) Q E s := wpAny_execs_cons (wp_forN hP hI S Inv h0 stab turn done hs)
end
section
variable {c : Cx} {g : Heap} {s : Shared} {pos : Pos} {Q : Flow → Shared → Prop} {E : Value → Shared → Prop} {k : Nat} {rest : List Stmt}
theorem fac_of {h : Heap} {f c' : Addr} {name qual : Str} {pm ctv : Value} {bp : Pos} (e : h.get? f = some (kla_obj name qual noPar (.List [] bp) noScope [] pm c' ctv)) (r : h.CodeRec (.ref c') qual) : Fac h f := ⟨_, _, _, _, _, _, e, r⟩
theorem St.makeIdx (S : St c g s) (hK : c.K = HK c.w.params) (hA : AOk 4 c.A) {nm : Str} {px np bp lp cp : Pos} (hnm : nm ∈ c.S) (hco : c.env.code = .ref 229) (hO : 225 ∈ c.O) (hf : 225 ∉ foot c.env) (tab : s.heap.get? 225 = some (tabObj #[])) (hclo : closureFor noScope c.env = pure [])
  (hPO : 100 ∈ c.O) (hPf : 100 ∉ foot c.env) (tb : TbAt g s.heap 100 (pos105 c.w.params) (qual105 c.w.params)) (hkn : c.env.kindOf "FreezableDefaultDict" = some .globalImplicit)
  (h : ∀ g' s' x dx fa, St { c with m := upd c.m nm (.ref x), W := x :: dx :: c.W, O := x :: dx :: c.O } g' s' → Sub g g' → IxAt c.w g' s'.heap x dx fa false [] [] → (x ∉ foot c.env ∧ dx ∉ foot c.env ∧ x ∉ c.W ∧ dx ∉ c.W) → GrownAt 225 s'.heap → wpAny (model PG c.w) c.A (execs rest c.env) Q E s')
  (he : eval (.Call (.Name "FreezableDefaultDict" np) [.Lambda noPar (.List [] bp) noScope lp] [] cp) c.env = (do callWith cp (← eval (.Name "FreezableDefaultDict" np) c.env) [] (backTo cp (starEach [.Lambda noPar (.List [] bp) noScope lp] c.env)) (backToKw cp (keywordEach [] c.env))) := by rfl)
  (hs : swapsWith (.Call (.Name "FreezableDefaultDict" np) [.Lambda noPar (.List [] bp) noScope lp] [] cp) (some (.Name nm px)) pos.line c.env = pure false := by rfl) :
  wpAny (model PG c.w) c.A (execs (.Assign [.Name nm px] (.Call (.Name "FreezableDefaultDict" np) [.Lambda noPar (.List [] bp) noScope lp] [] cp) pos :: rest) c.env) Q E s := by
 have G : GL (HK c.w.params) g := hK ▸ S.gl
 obtain ⟨_, _, mg, mb, T0⟩ := G.top
 refine wpAny_execs_cons (wpAny_Assign_Name (Call_ ((gv_global (v := .ref 108) (P := fun _ v => v = .ref 108) hkn (by rw [hK]; rfl) (fun _ _ => rfl) : Does c _ _ g) g s _ E Sub.refl S fun g₁ s₁ v S₁ sg₁ sh₁ p => ?_) he) hs)
 subst p
 have tab₁ := sh₁ _ _ tab
 have tb₁ := tb.mono sg₁ (h' := s₁.heap) fun o e => sh₁ _ _ e
 have hS1 := S₁
 obtain ⟨h₀, ga, dr, tk, os⟩ := s₁
 have n225 : g₁.get? 225 = none := S₁.fz.off _ (S.own _ hO).1
 have G₁ := G.mono sg₁
 have T₁ := T0.keeps sg₁
 obtain ⟨hb, hgP⟩ := blt_of T₁ S₁.fz.sub n225
 have X₁ := G₁.K.keeps S₁.fz.sub
 refine callWith_any1 ?_
 show wpAny _ _ (eval (.Lambda noPar (.List [] bp) noScope lp) c.env) _ _ _
 refine kla_eval rfl ?_
 refine kla_makeFunction (mg := mg) hclo S.eg (T₁.g.keeps S₁.fz.sub) hco (codeHd229 X₁) tab₁ trivial rfl hgP hb fun c' ctv h' tk' hx hge hlt hrec htb => ?_
 have hlam : (h'.push (kla_obj "<lambda>" (c.env.qual ++ "<lambda>") noPar (.List [] bp) noScope [] ((mg "__name__").getD .none) c' ctv)).get? h'.objs.size = some (kla_obj "<lambda>" (c.env.qual ++ "<lambda>") noPar (.List [] bp) noScope [] ((mg "__name__").getD .none) c' ctv) := Heap.get?_push_size _ rfl
 have hrec' : (h'.push (kla_obj "<lambda>" (c.env.qual ++ "<lambda>") noPar (.List [] bp) noScope [] ((mg "__name__").getD .none) c' ctv)).CodeRec (.ref c') (c.env.qual ++ "<lambda>") := hrec.push _
 have tab₂ : (h'.push (kla_obj "<lambda>" (c.env.qual ++ "<lambda>") noPar (.List [] bp) noScope [] ((mg "__name__").getD .none) c' ctv)).get? 225 = some _ := Heap.get?_push_of_some _ htb
 have kp : ∀ b o, b ≠ 225 → h₀.get? b = some o → (h'.push (kla_obj "<lambda>" (c.env.qual ++ "<lambda>") noPar (.List [] bp) noScope [] ((mg "__name__").getD .none) c' ctv)).get? b = some o := fun b o n e => Heap.get?_push_of_some _ (hx b o n e)
 have hsz : h₀.objs.size ≤ h'.objs.size := Nat.le_trans hge (Nat.le_of_lt hlt)
 have hcf : h₀.get? c' = none := none_of_ge hge
 have hlf : h₀.get? h'.objs.size = none := none_of_ge hsz
 generalize hh1 : h'.push (kla_obj "<lambda>" (c.env.qual ++ "<lambda>") noPar (.List [] bp) noScope [] ((mg "__name__").getD .none) c' ctv) = h₁ at hlam hrec' tab₂ kp ⊢
 generalize h'.objs.size = fa at hlam hlf ⊢
 have but : But c.O h₀ h₁ := fun b o e => by
  by_cases q : b = 225
  ·subst q; exact ⟨_, tab₂, fun n => absurd hO n⟩
  ·exact ⟨o, kp b o q e, fun _ => rfl⟩
 have S₂ : St c g₁ ⟨h₁, ga, dr, tk', os⟩ := S₁.turn ⟨_, _, rfl⟩ but (S₁.vars.at fun a ha o e => kp a o (fun q => hf (q ▸ ha)) e)
 have X₂ := G₁.K.keeps S₂.fz.sub
 refine ⟨⟨_, Looks.of_peek X₂ (by rfl)⟩, wpAny_call (make_108 G₁.K S₂.fz.sub ⟨_, hlam, rfl⟩ fun h₂ e1 e2 k2 => ?_)⟩
 have S₃ : St c g₁ ⟨h₂, ga, dr, tk', os⟩ := S₂.step ⟨_, _, rfl⟩ k2
 have fr : ∀ a, h₁.objs.size ≤ a → g₁.get? a = none ∧ c.s₀.heap.get? a = none ∧ a ∉ c.W := fun a ha => by
  have hn : h₁.get? a = none := none_of_ge ha
  exact ⟨Sub.none S₂.fz.sub hn, Sub.none S₂.kp hn, fun q => by obtain ⟨o, z⟩ := S₂.live a q; rw [show (⟨h₁, ga, dr, tk', os⟩ : Shared).heap.get? a = none from hn] at z; cases z⟩
 obtain ⟨d1, d2, d3⟩ := fr h₁.objs.size (Nat.le_refl _)
 obtain ⟨x1, x2, x3⟩ := fr (h₁.objs.size + 1) (Nat.le_succ _)
 have h3 : 3 < h₁.objs.size + 1 := Nat.lt_succ_of_lt S₂.gt3
 have hlx : fa ≠ h₁.objs.size ∧ fa ≠ h₁.objs.size + 1 := by
  have := Heap.lt_size hlam
  exact ⟨Nat.ne_of_lt this, Nat.ne_of_lt (Nat.lt_succ_of_lt this)⟩
 have hcx : c' ≠ h₁.objs.size ∧ c' ≠ h₁.objs.size + 1 := by
  obtain ⟨_, _, _, _, q, z, _⟩ := hrec'
  cases q
  have := Heap.lt_size z
  exact ⟨Nat.ne_of_lt this, Nat.ne_of_lt (Nat.lt_succ_of_lt this)⟩
 have hdx : h₁.objs.size ≠ h₁.objs.size + 1 := Nat.ne_of_lt (Nat.lt_succ_self _)
 have tab₃ := k2 _ _ tab₂
 have n225' : ∀ a, h₁.objs.size ≤ a → a ≠ 225 := fun a ha q => by
  have := Heap.lt_size tab₂
  rw [← q] at this
  exact absurd this (Nat.not_lt.mpr ha)
 generalize h₁.objs.size + 1 = x at *
 generalize h₁.objs.size = dx at *
 have S₄ : St { c with W := x :: dx :: c.W, O := x :: dx :: c.O } g₁ ⟨h₂, ga, dr, tk', os⟩ := St.addOwn (c := { c with W := dx :: c.W, O := dx :: c.O }) (S₃.addOwn ⟨_, e1⟩ d1 d2) ⟨_, e2⟩ x1 x2
 obtain ⟨S₅, sg₅⟩ := S₄.grow
 have S₅ : St { c with W := x :: dx :: c.W, O := x :: dx :: c.O } (hideAll h₂ (x :: dx :: c.W)) ⟨h₂, ga, dr, tk', os⟩ := S₅
 have offW : ∀ a, h₀.get? a = none → a ≠ x → a ≠ dx → ∀ o, h₂.get? a = some o → (hideAll h₂ (x :: dx :: c.W)).get? a = some o := fun a h1 h2 h3 o e => hideAll_get _ e fun q => by
  rcases List.mem_cons.mp q with q | q
  ·exact h2 q
  ·rcases List.mem_cons.mp q with q | q
   ·exact h3 q
   ·obtain ⟨o', z⟩ := hS1.live a q
    rw [show (⟨h₀, ga, dr, tk, os⟩ : Shared).heap.get? a = none from h1] at z; cases z
 have xf : x ∉ foot c.env := fun q => x3 (S.inW _ q)
 have dxf : dx ∉ foot c.env := fun q => d3 (S.inW _ q)
 have F : Fac (hideAll h₂ (x :: dx :: c.W)) fa := by
  refine fac_of (offW _ hlf hlx.2 hlx.1 _ (k2 _ _ hlam)) ?_
  obtain ⟨c₂, oc, vs, tq, q, hoc, r⟩ := hrec'
  cases q
  exact ⟨c', oc, vs, tq, rfl, offW _ hcf hcx.2 hcx.1 _ (k2 _ _ hoc), r⟩
 refine st_store (c := { c with W := x :: dx :: c.W, O := x :: dx :: c.O }) S₅ hnm fun s₆ S₆ b₆ => ?_
 refine h _ s₆ x dx fa S₆ (sg₁.trans sg₅) ⟨⟨[], ⟨#[], 0, b₆.keep xf e2, fun _ h => by simp at h, .nil, List.nodup_nil⟩, .nil⟩, List.nodup_nil, ?_, F, (tb₁.mono sg₅ fun o e => b₆.keep hPf (k2 _ _ (kp 100 o (by decide) e))), h3, fun q => hdx q.symm⟩ ⟨xf, dxf, x3, d3⟩ ⟨_, b₆.keep hf tab₃⟩
 rw [if_neg (by decide)]
 exact .new (b₆.keep dxf e1)
end
noncomputable def fd230 (p : Params) : FuncData := fdOf (l := (HK p).lookup 230) rfl rfl
noncomputable def ob230 (p : Params) : Obj := objOf (l := (HK p).lookup 230) rfl
noncomputable def bd230 (p : Params) : List Stmt := bodyOf (fd := fd230 p) rfl
noncomputable def en230 (p : Params) (L : Addr) : Env := callEnvC (fd230 p) L 230
noncomputable def ss230 : List Str := ["heads", "i", "one"]
noncomputable def IdxP (w : World) (b : Book) : Heap → Value → Prop := fun g v => ∃ x dx fa lam kvs, v = .ref x ∧ HdAt w g x dx fa kvs ∧ KvR g kvs (encB b) ∧ DxAt g dx (some (.ref lam)) ∧ Lam g lam x ∧ Fac g fa ∧ 3 < x
theorem IdxP.mono {w : World} {b : Book} : Mono (IdxP w b) := fun g g' v s ⟨x, dx, fa, lam, kvs, e, H, R, D, L, F, h⟩ => ⟨x, dx, fa, lam, kvs, e, H.at (s x), R.mono s, D.sub (s dx), L.mono s, F.mono s, h⟩
noncomputable def ixOk (num : Str → Int) (one : Str) : Bool := (one != "") && (decide (num one < 256) && (!(num one == 0) && true))
noncomputable def ixStep (st : Nat) (num : Str → Int) (i : Nat) (b : Book) (one : Str) : Book := if ixOk num one = true then addIx (decide (st ≤ i)) b (headOf one) (one, num one) else b
noncomputable def ixTo (puts : List Str) (st : Nat) (num : Str → Int) (n : Nat) : Book := (List.range n).foldl (fun b i => (ones (puts.getD i "")).foldl (ixStep st num i) b) []
theorem ixTo_succ {puts : List Str} {st : Nat} {num : Str → Int} {n : Nat} : ixTo puts st num (n + 1) = (ones (puts.getD n "")).foldl (ixStep st num n) (ixTo puts st num n) := by
 unfold ixTo; rw [List.range_succ, List.foldl_append]; rfl
theorem Few.ix {b : Book} {n : Nat} (h : Few b n) (fz : Bool) (one : Str) (m : Int) : Few (addIx fz b (headOf one) (one, m)) (n + 1) := by
 unfold addIx
 split
 ·exact ⟨Nat.le_succ_of_le h.1, fun kv hm => Nat.le_succ_of_le (h.2 kv hm)⟩
 ·exact h.add one m
theorem Few.ixs {b : Book} {n : Nat} (h : Few b n) (st : Nat) (num : Str → Int) (i : Nat) (one : Str) : Few (ixStep st num i b one) (n + 1) := by
 unfold ixStep
 split
 ·exact h.ix _ _ _
 ·exact ⟨Nat.le_succ_of_le h.1, fun kv hm => Nat.le_succ_of_le (h.2 kv hm)⟩
theorem few_ix {puts : List Str} {st : Nat} {num : Str → Int} : ∀ n, Few (ixTo puts st num n) (2 * n)
 | 0 => ⟨Nat.le_refl _, fun kv hm => by cases hm⟩
 | n + 1 => by
  rw [ixTo_succ]
  exact ((few_ix n).ixs st num n _).ixs st num n _
section
variable {c : Cx} {g : Heap} {s : Shared} {k : Nat}
theorem St.reWO {W' O' : List Addr} (S : St c g s) (hW : ∀ a ∈ W', a ∈ c.W) (hf : ∀ a ∈ foot c.env, a ∈ W') (hO : ∀ a ∈ O', a ∈ c.O ∧ a ∈ W') (hl : c.env.locals ∈ O') : St { c with W := W', O := O', S := [] } g s :=
 ⟨S.sm, S.kp, ⟨S.fz.sub, fun a m => S.fz.off a (hW a m)⟩, fun a m => S.live a (hW a m), S.gl, S.vars, hf, fun a m => ⟨(hO a m).2, (S.own a (hO a m).1).2⟩, hl, (fun x hx => by cases hx), S.eg, S.eb⟩
noncomputable def GivesX (c : Cx) (s₀ : Shared) (g : Heap) (P : Heap → Value → Prop) (R : Heap → Prop) (f : Flow) (s' : Shared) : Prop :=
 ∃ v c' g'', f = .ret v ∧ c'.K = c.K ∧ (∀ a ∈ c.W, a ∈ c'.W) ∧ c'.s₀ = s₀ ∧ St c' g'' s' ∧ Sub g g'' ∧ P g'' v ∧ R s'.heap
theorem IxR.kvr {g h g3 : Heap} {kvs b ls} (x : IxR g h kvs b ls) (s : Sub g g3) (k : ∀ a ∈ ls, ∀ o, h.get? a = some o → g3.get? a = some o) : KvR g3 kvs (encB b) := by
 induction x with
 | nil => exact .nil
 | cons a _ ih => exact .cons (AccL.res _ _ _ _ a s (k _ (.head _))) (ih fun a m => k a (.tail _ m))
theorem three {P : Addr → Prop} {x y z : Addr} {ls : List Addr} (hx : P x) (hy : P y) (hz : P z) (h : ∀ a ∈ ls, P a) : ∀ a ∈ x :: y :: z :: ls, P a := fun a m =>
 (List.mem_cons.mp m).elim (fun q => q ▸ hx) fun m => (List.mem_cons.mp m).elim (fun q => q ▸ hy) fun m => (List.mem_cons.mp m).elim (fun q => q ▸ hz) (h a)
theorem index_body {vp vs vn : Value} {bnd : Str → Option Value} (hbnd : bnd = bindM [("puts", vp), ("stop", vs), ("numbers", vn)]) {puts : List Str} {st : Nat} {okv : List (Str × PyData)} {num : Str → Int} {L : Addr} {W O : List Addr} {s₀ : Shared} {g' : Heap} (hA : AOk 12 c.A) (hK : c.K = HK c.w.params) (hz : 4 * puts.length + 8 ≤ sizeLine)
  (hlen : ∀ p ∈ puts, p.length ≤ sizeLine) (hnum : ∀ p ∈ puts, ∀ one ∈ ones p, (one != ("" : Str)) = true → at? okv one = some (.int (num one)))
  (hp : Rd g' vp (.list (dStrs puts))) (hs : Rd g' vs (.int (st : Int))) (ho : DcP c.w okv g' vn)
  (S : St (fnCx c (en230 c.w.params L) (bnd) W O ss230 s₀) g' s) (hO1 : 225 ∈ O) (hO2 : 100 ∈ O) (hf1 : 225 ∉ foot (en230 c.w.params L)) (hf2 : 100 ∉ foot (en230 c.w.params L)) (tab : s.heap.get? 225 = some (tabObj #[])) (tb : TbAt g' s.heap 100 (pos105 c.w.params) (qual105 c.w.params)) :
  wpAny (model PG c.w) (c.A.deeper (en230 c.w.params L)) (execs (bd230 c.w.params) (en230 c.w.params L))
   (fun f s'' => GivesX (fnCx c (en230 c.w.params L) (bnd) W O ss230 s₀) s₀ g' (IdxP c.w (ixTo puts st num puts.length)) (fun h => GrownAt 225 h ∧ GrownAt 100 h) f s'') (fun _ _ => False) s := by
 have hA' : AOk 11 (c.A.deeper (en230 c.w.params L)) := AOk.deeper (n := 11) hA
 have b1 : bnd "puts" = some vp := by rw [hbnd]; rfl
 have b2 : bnd "stop" = some vs := by rw [hbnd]; rfl
 have b3 : bnd "numbers" = some vn := by rw [hbnd]; rfl
 have hlp : (dStrs puts).length = puts.length := List.length_map ..
 have hz' := hz
 rw [sizeLine_eq] at hz
 have hloc : L ∈ W := S.inW _ (.head _)
 have hLO : L ∈ O := S.loc
 have hW1 : 225 ∈ W := (S.own _ hO1).1
 have hW2 : 100 ∈ W := (S.own _ hO2).1
 have hfW : ∀ a ∈ foot (en230 c.w.params L), a ∈ W := S.inW
 refine S.makeIdx hK (hA'.mono (by decide)) (.head _) rfl hO1 hf1 tab rfl hO2 hf2 tb rfl fun g₁ s₁ x dx fa S₁ sg₁ I₁ hxd gr₁ => ?_
 obtain ⟨hxf, hdf, hxW, hdW⟩ := hxd
 have S₁ : St (fnCx c (en230 c.w.params L) (upd bnd "heads" (.ref x)) (x :: dx :: W) (x :: dx :: O) ss230 s₀) g₁ s₁ := S₁
 have d1 : upd bnd "heads" (.ref x) "puts" = some vp := (upd_ne (by decide)).trans b1
 have d2 : upd bnd "heads" (.ref x) "stop" = some vs := (upd_ne (by decide)).trans b2
 have d3 : upd bnd "heads" (.ref x) "numbers" = some vn := (upd_ne (by decide)).trans b3
 have d4 : upd bnd "heads" (.ref x) "heads" = some (.ref x) := upd_eq
 have p1 : Rd g₁ vp (.list (dStrs puts)) := hp.mono sg₁
 have p2 : Rd g₁ vs (.int (st : Int)) := hs.mono sg₁
 have p3 : DcP c.w okv g₁ vn := DcP.mono _ _ _ sg₁ ho
 have ownOf : ∀ {m : Str → Option Value} {W' : List Addr} {s' : Shared} {N ls : List Addr}, (∀ a ∈ ls, a ∈ N) → (∀ a ∈ N, a ∉ foot (en230 c.w.params L) ∧ a ∉ W) → IxOwn (fnCx c (en230 c.w.params L) m W' (N ++ x :: dx :: O) ss230 s') x dx ls := fun {m W' s' N ls} h1 h2 => by
  exact ⟨three (List.mem_append_right _ (.head _)) (List.mem_append_right _ (.tail _ (.head _))) (List.mem_append_right _ (.tail _ (.tail _ hO2))) fun a m => List.mem_append_left _ (h1 a m), three hxf hdf hf2 fun a m => (h2 a (h1 a m)).1⟩
 have n225x : (225 : Nat) ≠ x := fun q => hxW (q ▸ hW1)
 have n225d : (225 : Nat) ≠ dx := fun q => hdW (q ▸ hW1)
 let Inv : Nat → (Str → Option Value) → List Addr → Heap → Heap → Prop := fun i m N g h => Keep ["i", "one"] (upd bnd "heads" (.ref x)) m ∧ (∃ ls, IxAt c.w g h x dx fa (decide (st < i)) (ixTo puts st num i) ls ∧ ∀ a ∈ ls, a ∈ N) ∧ (∀ a ∈ N, a ∉ foot (en230 c.w.params L) ∧ a ∉ W) ∧ GrownAt 225 h
 refine S₁.loopN (n := puts.length)
  (gv_range (gv_bi rfl hK rfl (by rfl) (by decide)) (by
   rw [← hlp]
   exact gv_len_list (by rw [sizeLine_eq]; omega) (gv_bi rfl hK rfl (by rfl) (by decide)) (gv_var rfl d1 p1)))
  (fun g' x sg p => it_range hA' (by omega) p) Inv ⟨fun _ _ => rfl, ⟨[], I₁, fun a m => nomatch m⟩, fun a m => (nomatch m), gr₁⟩
  (fun i m N g h g' h' ⟨q, ⟨ls, I, hl⟩, hN, ps, hps⟩ sg kp => ⟨q, ⟨ls, I.stab sg fun a mem => kp a ((ownOf (m := m) (W' := []) (s' := s) hl hN).own a mem), hl⟩, hN, ps, kp 225 (List.mem_append_right _ (.tail _ (.tail _ hO1))) _ hps⟩) ?_ ?_
 ·intro W₂ N s₂' i m g₂ s₂ v hW₂ hi S₂ inv hv sg₂
  obtain ⟨hm, ⟨ls, I₂, hl⟩, hN, gr₂⟩ := inv
  obtain ⟨ti, rfl⟩ := hv
  have hpi : puts.getD i "" ∈ puts := getD_mem hi
  have S₂ : St (fnCx c (en230 c.w.params L) m W₂ (N ++ x :: dx :: O) ss230 s₂') g₂ s₂ := S₂
  have hWW : ∀ a ∈ W, a ∈ W₂ := fun a q => hW₂ a (List.mem_append_right _ (.tail _ (.tail _ q)))
  refine S₂.storeName (.tail _ (.head _)) fun s₃ S₃ b₃ => ?_
  have S₃ : St (fnCx c (en230 c.w.params L) (upd m "i" (.int i ti)) W₂ (N ++ x :: dx :: O) ss230 s₂') g₂ s₃ := S₃
  have Ow : ∀ {m : Str → Option Value} {W' : List Addr} {s' : Shared}, IxOwn (fnCx c (en230 c.w.params L) m W' (N ++ x :: dx :: O) ss230 s') x dx ls := fun {m W' s'} => ownOf hl hN
  have I₃ : IxAt c.w g₂ s₃.heap x dx fa (decide (st < i)) (ixTo puts st num i) ls := I₂.stab Sub.refl fun a q o e => b₃.keep ((Ow (m := m) (W' := W₂) (s' := s)).nf a q) e
  have gr₃ : GrownAt 225 s₃.heap := let ⟨ps, e⟩ := gr₂; ⟨ps, b₃.keep hf1 e⟩
  have m1 : Keep ["i", "one"] (upd (bnd) "heads" (.ref x)) (upd m "i" (.int i ti)) := fun y hy => by
   rw [← hm y hy]
   exact upd_ne (nc_head hy)
  have e1 : upd m "i" (.int i ti) "puts" = some vp := (m1 "puts" rfl).trans d1
  have e2 : upd m "i" (.int i ti) "stop" = some vs := (m1 "stop" rfl).trans d2
  have e3 : upd m "i" (.int i ti) "numbers" = some vn := (m1 "numbers" rfl).trans d3
  have e4 : upd m "i" (.int i ti) "heads" = some (.ref x) := (m1 "heads" rfl).trans d4
  have e5 : upd m "i" (.int i ti) "i" = some (.int i ti) := upd_eq
  refine S₃.iteJ (x := ((i : Int) == (st : Int))) (fun g s => IxAt c.w g s.heap x dx fa (decide (st ≤ i)) (ixTo puts st num i) ls ∧ GrownAt 225 s.heap)
   (ts_compare1 RdP.mono (gv_var rfl e5 Rd.int) (gv_var rfl e2 (p2.mono sg₂)) fun g₁ a b _ p q => op_eq_int p q) (fun g₄ s₄ Q sg₄ S₄ sh₄ q => ?_) fun g₄ s₄ S₄ sg₄ inv₄ => ?_
  ·have S₄ : St (fnCx c (en230 c.w.params L) (upd m "i" (.int i ti)) W₂ (N ++ x :: dx :: O) ss230 s₂') g₄ s₄ := S₄
   have I₄ := I₃.stab (g' := g₄) (h' := s₄.heap) sg₄ fun a _ o e => sh₄ _ _ e
   obtain ⟨ps, hps⟩ := gr₃
   have hps := sh₄ _ _ hps
   cases hx : ((i : Int) == (st : Int)) with
   | true =>
    simp only [hx, if_true]
    have hi2 : i = st := by have := eq_of_beq hx; omega
    refine S₄.hdFreeze I₄ Ow hK (hA'.mono (by decide)) rfl e4 fun g₅ s₅ S₅ sg₅ I₅ kp => wpAny_execs_nil (q g₅ s₅ S₅ sg₅ ⟨?_, ps, kp 225 n225d (by decide) _ hps⟩)
    rw [show decide (st ≤ i) = true from by simp [hi2]]
    exact I₅
   | false =>
    simp only [hx, Bool.false_eq_true, if_false]
    have hi2 : ¬ (i = st) := fun z => by rw [z] at hx; simp at hx
    refine wpAny_execs_nil (q g₄ s₄ S₄ Sub.refl ⟨?_, ps, hps⟩)
    rw [show decide (st ≤ i) = decide (st < i) from by
     rw [Bool.eq_iff_iff, decide_eq_true_iff, decide_eq_true_iff]; omega]
    exact I₄
  ·have S₄ : St (fnCx c (en230 c.w.params L) (upd m "i" (.int i ti)) W₂ (N ++ x :: dx :: O) ss230 s₂') g₄ s₄ := S₄
   obtain ⟨I₄, gr₄⟩ := inv₄
   have sg14 := sg₂.trans sg₄
   have item : ∀ {g₂ : Heap} {c' : Cx}, Sub g₄ g₂ → c'.env = en230 c.w.params L → c'.m "puts" = some vp → c'.m "i" = some (.int i ti) → ∀ {e1 e2 : Pos} {p : Pos}, Does c' (eval (.Subscript (.Name "puts" e1) (.Name "i" e2) p) c'.env) (RdP (.str (puts.getD i ""))) g₂ := fun sg he h1 h2 => fun {_ _ _} =>
    gv_list_item (j := i) (by rw [hlp, sizeLine_eq]; omega) (strs_get hi) (gv_var (by rw [he]; rfl) h1 ((p1.mono sg14).mono sg)) (gv_var (by rw [he]; rfl) h2 Rd.int)
   have memO : ∀ {N' ls' : List Addr}, (∀ a ∈ ls', a ∈ N' ++ N) → ∀ a ∈ x :: dx :: 100 :: ls', a ∈ N' ++ (N ++ x :: dx :: O) := fun {N' ls'} h1 =>
    three (List.mem_append_right _ (List.mem_append_right _ (.head _))) (List.mem_append_right _ (List.mem_append_right _ (.tail _ (.head _)))) (List.mem_append_right _ (List.mem_append_right _ (.tail _ (.tail _ hO2))))
     fun a q => (List.mem_append.mp (h1 a q)).elim (List.mem_append_left _) fun q => List.mem_append_right _ (List.mem_append_left _ q)
   have memF : ∀ {N' ls' : List Addr}, (∀ a ∈ ls', a ∈ N' ++ N) → (∀ a ∈ N' ++ N, a ∉ foot (en230 c.w.params L) ∧ a ∉ W) → ∀ a ∈ x :: dx :: 100 :: ls', a ∉ foot (en230 c.w.params L) := fun {N' ls'} h1 h2 => three hxf hdf hf2 fun a q => (h2 a (h1 a q)).1
   let InvJ : Nat → (Str → Option Value) → List Addr → Heap → Heap → Prop := fun j m' N' g h => Keep ["one"] (upd m "i" (.int i ti)) m' ∧ (∃ ls', IxAt c.w g h x dx fa (decide (st ≤ i)) (((ones (puts.getD i "")).take j).foldl (ixStep st num i) (ixTo puts st num i)) ls' ∧ ∀ a ∈ ls', a ∈ N' ++ N) ∧ (∀ a ∈ N' ++ N, a ∉ foot (en230 c.w.params L) ∧ a ∉ W) ∧ GrownAt 225 h
   refine S₄.loopN (n := 2) (V := VD (dStrs (ones (puts.getD i ""))))
    (gv_list (ds := dStrs (ones (puts.getD i ""))) (ar_d (item Sub.refl rfl e1 e5) (ar_d (gv_rstrip (hlen _ hpi) (item Sub.refl rfl e1 e5) gv_str) ar_nil)) (by rw [sizeLine_eq]; show 2 ≤ _; decide)) (fun g' x sg p => it_listN hA' p rfl)
    InvJ ⟨fun _ _ => rfl, ⟨ls, I₄, hl⟩, hN, gr₄⟩
    (fun j m N' g h g' h' ⟨q, ⟨ls', I, hl'⟩, hN', ps, hps⟩ sg kp => ⟨q, ⟨ls', I.stab sg fun a mem => kp a (memO hl' a mem), hl'⟩, hN', ps, kp 225 (List.mem_append_right _ (List.mem_append_right _ (.tail _ (.tail _ hO1)))) _ hps⟩) ?_ ?_
   ·intro W₄ N' s₄' j m₄ g₅ s₅ u hW₄ hj S₅ inv₅ hu sg₅
    obtain ⟨hm₄, ⟨ls', I₅, hl'⟩, hN', gr₅⟩ := inv₅
    obtain ⟨_, ru⟩ := vd_at (h := PyData.str) (d := "") hu
    have S₅ : St (fnCx c (en230 c.w.params L) m₄ W₄ (N' ++ (N ++ x :: dx :: O)) ss230 s₄') g₅ s₅ := S₅
    have hWW4 : ∀ a ∈ W, a ∈ W₄ := fun a q => hW₄ a (List.mem_append_right _ (hWW a q))
    refine S₅.storeName (.tail _ (.tail _ (.head _))) fun s₆ S₆ b₆ => ?_
    have S₆ : St (fnCx c (en230 c.w.params L) (upd m₄ "one" u) W₄ (N' ++ (N ++ x :: dx :: O)) ss230 s₄') g₅ s₆ := S₆
    have hm6 : upd m₄ "one" u "one" = some u := upd_eq
    have I₆ := I₅.stab (g' := g₅) (h' := s₆.heap) Sub.refl fun a q o e => b₆.keep (memF hl' hN' a q) e
    have gr₆ : GrownAt 225 s₆.heap := let ⟨ps, e⟩ := gr₅; ⟨ps, b₆.keep hf1 e⟩
    generalize hone : (ones (puts.getD i "")).getD j ("" : Str) = one at ru
    have hjl : j < (ones (puts.getD i "")).length := hj
    have hmem : one ∈ ones (puts.getD i "") := by rw [← hone]; exact getD_mem hjl
    have honez : one.length ≤ sizeLine := by
     rcases List.mem_cons.mp hmem with h | h
     ·rw [h]; exact hlen _ hpi
     ·rw [List.mem_singleton.mp h]; exact Nat.le_trans (rstrip_len _ _) (hlen _ hpi)
    have m2 : Keep ["one"] (upd m "i" (.int i ti)) (upd m₄ "one" u) := fun y hy => by
     rw [← hm₄ y hy]
     exact upd_ne (nc_head hy)
    have f3 : upd m₄ "one" u "numbers" = some vn := (m2 "numbers" rfl).trans e3
    have f4 : upd m₄ "one" u "heads" = some (.ref x) := (m2 "heads" rfl).trans e4
    generalize hb : ((ones (puts.getD i "")).take j).foldl (ixStep st num i) (ixTo puts st num i) = b at I₆
    have next : ((ones (puts.getD i "")).take (j + 1)).foldl (ixStep st num i) (ixTo puts st num i) = ixStep st num i b one := by
     rw [List.take_add_one, List.foldl_append, hb, getD_some' (l := ones (puts.getD i "")) (d := ("" : Str)) hjl, hone]; rfl
    have few : Few b (2 * i + j) := by
     rw [← hb]
     have f0 := few_ix (puts := puts) (st := st) (num := num) i
     rcases j with _ | _ | j
     ·exact f0
     ·exact f0.ixs st num i _
     ·exact absurd hj (by omega)
    have hnumOk : (one != "") = true → at? okv one = some (.int (num one)) := hnum _ hpi one hmem
    have sg15 := sg14.trans sg₅
    have numAt : ∀ {g₂ : Heap} {c' : Cx}, (one != "") = true → Sub g₅ g₂ → c'.w = c.w → c'.env = en230 c.w.params L → c'.m = upd m₄ "one" u → ∀ {q1 q2 q3 : Pos}, Does c' (eval (.Subscript (.Name "numbers" q1) (.Name "one" q2) q3) c'.env) (RdP (.int (num one))) g₂ := fun {g₂ c'} h1 sg hw he hm => fun {_ _ _} =>
     gv_dict_item (hnumOk h1) (gv_name (by rw [he]; rfl) (by rw [hm]; exact f3) fun g' s' => by rw [hw]; exact DcP.mono _ _ _ ((sg15.trans sg).trans s') p3) (gv_var (by rw [he]; rfl) (by rw [hm]; exact hm6) (ru.mono sg))
    refine S₆.ite (x := ixOk num one) ?_ fun g₇ s₇ sg₇ S₇ sh₇ => ?_
    ·refine ts_bool (ta_and (ts_compare1 RdP.mono (gv_var rfl hm6 ru) gv_str fun g₁ a b _ p q => op_ne_str p q) fun h1 =>
      ta_and (ts_value (gv_call_d (o := ob216 c.w.params) (fd := fd216 c.w.params) (by show c.K.lookup _ = _; rw [hK]; rfl) rfl (gv_global (v := .ref 216) (P := fun _ v => v = .ref 216) rfl (by show nsIn c.K _ _ = _; rw [hK]; rfl) fun _ _ => rfl) (ar_d (numAt h1 Sub.refl (by rfl) (by rfl) (by rfl)) ar_nil) fun g₁ vs sg r => ?_)) fun h2 =>
      ta_and (ts_not (ts_value (gv_call_d (o := ob223 c.w.params) (fd := fd223 c.w.params) (by show c.K.lookup _ = _; rw [hK]; rfl) rfl (gv_global (v := .ref 223) (P := fun _ v => v = .ref 223) rfl (by show nsIn c.K _ _ = _; rw [hK]; rfl) fun _ _ => rfl) (ar_d (numAt h1 Sub.refl (by rfl) (by rfl) (by rfl)) ar_nil) fun g₁ vs sg r => ?_))) fun _ => ta_and_nil)
     ·obtain ⟨v, _, rfl, p, rfl⟩ := r
      exact call_ISTERMINAL hK (hA'.mono (by decide)) p
     ·obtain ⟨v, _, rfl, p, rfl⟩ := r
      exact call_ISEOF hK (hA'.mono (by decide)) p
    ·have S₇ : St (fnCx c (en230 c.w.params L) (upd m₄ "one" u) W₄ (N' ++ (N ++ x :: dx :: O)) ss230 s₄') g₇ s₇ := S₇
     have I₇ := I₆.stab (g' := g₇) (h' := s₇.heap) sg₇ fun a _ o e => sh₇ _ _ e
     obtain ⟨ps, hps⟩ := gr₆
     have hps := sh₇ _ _ hps
     cases hok : ixOk num one with
     | false =>
      simp only [hok, Bool.false_eq_true, if_false]
      refine wpAny_execs_nil (wpAny_execs_nil ⟨_, g₇, [], S₇, sg₇, fun y hy => ?_, ⟨ls', ?_, hl'⟩, hN', ps, hps⟩)
      ·exact m2 y hy
      ·rw [next]
       unfold ixStep
       rw [hok]
       exact I₇
     | true =>
      simp only [hok, if_true]
      have h1 : (one != "") = true := (Bool.and_eq_true_iff.mp hok).1
      refine S₇.hdAppend (p := (one, num one)) I₇ ⟨memO hl', memF hl' hN'⟩ hK (hA'.mono (by decide)) (by rw [sizeLine_eq]; have := few.1; omega) rfl f4 (gv_head h1 honez (gv_var rfl hm6 (ru.mono sg₇)) gv_int) (by rw [sizeLine_eq]; have := few.at (headOf one); omega)
       (fun N => gv_tuple (ds := [.str one, .int (num one)]) (ar_d (gv_var rfl hm6 (ru.mono sg₇)) (ar_d (numAt h1 sg₇ (by rfl) (by rfl) (by rfl)) ar_nil)) (by rw [sizeLine_eq]; show 2 ≤ _; decide))
       (fun g₈ s₈ N₈ ls₈ S₈ sg₈ I₈ Ow₈ hN₈ hl₈ kp₈ => ?_) (by intro _ _; with_unfolding_all rfl)
      refine wpAny_execs_nil (wpAny_execs_nil ⟨_, g₈, N₈, S₈, sg₇.trans sg₈, fun y hy => m2 y hy, ⟨ls₈, ?_, fun a q => ?_⟩, fun a q => ?_, ps, ?_⟩)
      ·rw [next]
       unfold ixStep
       rw [hok]
       exact I₈
      ·rw [List.append_assoc]
       exact (hl₈ a q).elim (fun q => List.mem_append_right _ (hl' a q)) fun q => List.mem_append_left _ q
      ·rw [List.append_assoc] at q
       rcases List.mem_append.mp q with q | q
       ·exact ⟨(hN₈ a q).1, fun z => (hN₈ a q).2 (hWW4 a z)⟩
       ·exact hN' a q
      ·exact kp₈ 225 (hWW4 _ hW1) n225x (fun q => (hN' _ (hl' _ q)).2 hW1) _ hps
   ·intro m₅ N' g₅ s₅ S₅ sg₅ inv₅
    obtain ⟨hm₅, ⟨ls', I₅, hl'⟩, hN', gr₅⟩ := inv₅
    refine wpAny_execs_nil ⟨m₅, g₅, N', S₅, sg₄.trans sg₅, fun y hy => ?_, ⟨ls', ?_, hl'⟩, hN', gr₅⟩
    ·rw [hm₅ y (nc_one (nc_head (nc_tail hy)))]
     exact m1 y hy
    ·rw [ixTo_succ, show decide (st < i + 1) = decide (st ≤ i) from by
      rw [Bool.eq_iff_iff, decide_eq_true_iff, decide_eq_true_iff]; omega]
     exact I₅
 ·intro m N g₂ s₂ S₂ sg₂ inv
  obtain ⟨hm, ⟨ls, I₂, hl⟩, hN, ps, hps⟩ := inv
  have S₂ : St (fnCx c (en230 c.w.params L) m (N ++ x :: dx :: W) (N ++ x :: dx :: O) ss230 s₀) g₂ s₂ := S₂
  have e4 : m "heads" = some (.ref x) := (hm "heads" rfl).trans d4
  refine S₂.hdFreeze I₂ (ownOf hl hN) hK (hA'.mono (by decide)) rfl e4 fun g₃ s₃ S₃ sg₃ I₃ kp => ?_
  have hps₃ := kp 225 n225d (by decide) _ hps
  refine ex_return (P := fun _ v => v = .ref x) (gv_name rfl e4 (fun _ _ => rfl)) S₃ fun g₄ s₄ v sg₄ q S₄ sh₄ => ?_
  subst q
  have S₄ : St (fnCx c (en230 c.w.params L) m (N ++ x :: dx :: W) (N ++ x :: dx :: O) ss230 s₀) g₄ s₄ := S₄
  have S₅ : St (fnCx c (en230 c.w.params L) m W [L] [] s₀) g₄ s₄ := S₄.reWO (W' := W) (O' := [L]) (fun a q => List.mem_append_right _ (.tail _ (.tail _ q))) hfW (fun a q => by rw [List.mem_singleton.mp q]; exact ⟨List.mem_append_right _ (.tail _ (.tail _ hLO)), hloc⟩) (.head _)
  obtain ⟨S₆, sg₆⟩ := S₅.grow
  have S₆ : St (fnCx c (en230 c.w.params L) m W [L] [] s₀) (hideAll s₄.heap W) s₄ := S₆
  have sg₆ : Sub g₄ (hideAll s₄.heap W) := sg₆
  have I₄ := I₃.stab (g' := g₄) (h' := s₄.heap) sg₄ fun a _ o e => sh₄ _ _ e
  obtain ⟨kvs, H, R⟩ := I₄.kvs
  have D := I₄.dict
  rw [if_pos rfl] at D
  obtain ⟨lam, D, Lm⟩ := D
  have keepW : ∀ a, a ∉ W → ∀ o, s₄.heap.get? a = some o → (hideAll s₄.heap W).get? a = some o := fun a n o e => hideAll_get _ e n
  obtain ⟨ps2, hps2, _⟩ := I₄.tab
  exact ⟨.ref x, fnCx c (en230 c.w.params L) m W [L] [] s₀, _, rfl, rfl, fun _ q => q, rfl, S₆, ((sg₁.trans sg₂).trans (sg₃.trans sg₄)).trans sg₆,
   ⟨x, dx, fa, lam, kvs, rfl, H.at (keepW x hxW), R.kvr sg₆ fun a q => keepW a (hN a (hl a q)).2, D.sub (keepW dx hdW), Lm.mono sg₆, I₄.fac.mono sg₆, I₄.h3⟩, ⟨ps, sh₄ _ _ hps₃⟩, ⟨ps2, hps2⟩⟩
end
section
variable {c : Cx} {g : Heap} {s : Shared} {k : Nat}
theorem St.withX {env : Env} {m : Str → Option Value} {W : List Addr} {S : List Str} {s₁ : Shared} (X : List Addr) (S₁ : St (fnCx c env m W (foot env) S s) g s₁) (hX : ∀ a ∈ X, a ∈ W) :
  St (fnCx c env m W (X ++ foot env) S (anchor s X)) g s₁ :=
 ⟨by obtain ⟨h, tk, e⟩ := S₁.sm; exact ⟨h, tk, e⟩, fun b o e => S₁.kp b o (Sub.hide _ _ e), S₁.fz, S₁.live, S₁.gl, S₁.vars, S₁.inW,
  fun a q => (List.mem_append.mp q).elim (fun q => ⟨hX a q, hideAll_none _ q⟩) fun q => ⟨(S₁.own a q).1, Sub.none Sub.hide (S₁.own a q).2⟩, List.mem_append_right _ S₁.loc, fun x hx => ⟨(S₁.sto x hx).1, fun a l => ⟨List.mem_append_right _ ((S₁.sto x hx).2 a l).1, ((S₁.sto x hx).2 a l).2⟩⟩, S₁.eg, S₁.eb⟩
theorem St.backX {c' : Cx} {g' : Heap} {s' : Shared} {X : List Addr} (S : St c g s) (hX : ∀ a ∈ X, a ∈ c.O ∧ a ∉ foot c.env) (S' : St c' g' s') (hK : c'.K = c.K) (hW : ∀ a ∈ c.W, a ∈ c'.W) (h1 : c'.s₀ = anchor s X) : St c g' s' := by
 have kp : ∀ b o, b ∉ X → s.heap.get? b = some o → s'.heap.get? b = some o := fun b o n e => by
  have := S'.kp
  rw [h1] at this
  exact this b o (hideAll_get _ e n)
 refine ⟨S.sm.trans ?_, fun b o e => kp b o (fun q => by rw [(S.own b (hX b q).1).2] at e; cases e) (S.kp b o e), S'.fz.mono hW, fun a m => S'.live a (hW a m), hK ▸ S'.gl, S.vars.at fun a ha o e => kp a o (fun q => (hX a q).2 ha) e, S.inW, S.own, S.loc, S.sto, S.eg, S.eb⟩
 have := S'.sm
 rw [h1] at this
 obtain ⟨h, tk, e⟩ := this
 exact ⟨h, tk, e⟩
theorem call_index {vp vs vn : Value} {puts : List Str} {st : Nat} {okv : List (Str × PyData)} (num : Str → Int) {Q : Value → Shared → Prop} {E : Value → Shared → Prop} (hK : c.K = HK c.w.params) (hA : AOk 12 c.A) (hz : 4 * puts.length + 8 ≤ sizeLine)
  (hlen : ∀ p ∈ puts, p.length ≤ sizeLine) (hnum : ∀ p ∈ puts, ∀ one ∈ ones p, (one != ("" : Str)) = true → at? okv one = some (.int (num one)))
  (hp : Rd g vp (.list (dStrs puts))) (hs : Rd g vs (.int (st : Int))) (ho : DcP c.w okv g vn) (S : St c g s) (hO1 : 225 ∈ c.O) (hO2 : 100 ∈ c.O) (hf1 : 225 ∉ foot c.env) (hf2 : 100 ∉ foot c.env)
  (tab : s.heap.get? 225 = some (tabObj #[])) (tb : s.heap.get? 100 = some (tabObj #[]))
  (h : ∀ g' s' v, St c g' s' → Sub g g' → IdxP c.w (ixTo puts st num puts.length) g' v → GrownAt 225 s'.heap → GrownAt 100 s'.heap → (∀ a ∉ [225, 100], ∀ o, s.heap.get? a = some o → s'.heap.get? a = some o) → Q v s') :
  wpAny (model PG c.w) c.A (call (.ref 230) [vp, vs, vn]) Q E s := by
 have X := (hK ▸ S.gl.K : (HK c.w.params).In g).keeps S.fz.sub
 obtain ⟨_, _, _, _, T⟩ := S.gl.top
 have a1 : (225 : Nat) < s.heap.objs.size := Heap.lt_size tab
 have a2 : (100 : Nat) < s.heap.objs.size := Heap.lt_size tb
 refine wpAny_call (codeAny_call_cells (fd := fd230 c.w.params) (body := bd230 c.w.params) (binds := [("puts", vp), ("stop", vs), ("numbers", vn)]) hA.room (X _ (ob230 c.w.params) rfl) rfl (T.nolimit.keeps S.fz.sub) (codeRec_of X rfl) rfl (by rfl) rfl (fun y hy => .inl ?_) (fun s₁ x => ?_) rfl rfl rfl)
 ·rcases List.mem_cons.mp hy with rfl | hy
  ·rfl
  ·rcases List.mem_cons.mp hy with rfl | hy
   ·rfl
   ·rw [List.mem_singleton.mp hy]; rfl
 ·have S₂ := fn_St (S := ss230) S rfl rfl rfl rfl x
  have keep : Sub s.heap s₁.heap := by obtain ⟨h', tk, rfl, k⟩ := x.done; exact k
  have hXW : ∀ a ∈ [225, 100], a ∈ foot (callEnvC (fd230 c.w.params) s.heap.objs.size 230) ++ c.W := fun a q => by
   rcases List.mem_cons.mp q with rfl | q
   ·exact List.mem_append_right _ (S.own _ hO1).1
   ·rw [List.mem_singleton.mp q]; exact List.mem_append_right _ (S.own _ hO2).1
  have S₃ := S₂.withX [225, 100] hXW
  have nf : ∀ a, a < s.heap.objs.size → a ∉ foot (callEnvC (fd230 c.w.params) s.heap.objs.size 230) := fun a ha q => by
   rcases List.mem_cons.mp q with q | q
   ·rw [q] at ha; exact Nat.lt_irrefl _ ha
   ·cases q
  refine wpAny_mono (index_body (c := c) rfl hA hK hz hlen hnum hp hs ho S₃ (.head _) (.tail _ (.head _)) (nf _ a1) (nf _ a2) (keep _ _ tab) (.empty (keep _ _ tb))) (fun f s' hf => ?_) fun _ _ e => e.elim
  obtain ⟨v, c', g'', rfl, hK', hW, hs', S₄, sg₄, p, gr1, gr2⟩ := hf
  have hX : ∀ a ∈ [225, 100], a ∈ c.O ∧ a ∉ foot c.env := fun a q => by
   rcases List.mem_cons.mp q with rfl | q
   ·exact ⟨hO1, hf1⟩
   ·rw [List.mem_singleton.mp q]; exact ⟨hO2, hf2⟩
  refine h g'' s' v (S.backX hX S₄ hK' (fun b m => hW b (List.mem_append_right _ m)) hs') sg₄ p gr1 gr2 fun a n o e => ?_
  have := S₄.kp
  rw [hs'] at this
  exact this a o (hideAll_get _ e n)
end
theorem heads_idx {w : World} {b : Book} : HeadsOf w b (IdxP w b) := fun c g v i pos key hw hK hA hv hi hs => by
 subst hw
 intro g₁ s Q E sg S k
 refine Subscript_ (hv g₁ s _ E sg S fun g₂ s₂ o S₂ sg₂ sh₂ p₁ => hi g₂ s₂ _ E (sg.trans sg₂) S₂ fun g₃ s₃ j S₃ sg₃ sh₃ p₂ => ?_)
 obtain ⟨t, rfl⟩ := Rd.inv_str p₂
 obtain ⟨x, dx, fa, lam, kvs, rfl, H, R, D, Lm, F, h3⟩ := IdxP.mono _ _ _ sg₃ p₁
 obtain ⟨h₃, ga, dr, tk, os⟩ := s₃
 have X : (HK c.w.params).In h₃ := (hK ▸ S₃.gl.K).keeps S₃.fz.sub
 obtain ⟨_, _, _, _, T0⟩ := S₃.gl.top
 have T := T0.keeps S₃.fz.sub
 have sf : Sub g₃ h₃ := S₃.fz.sub
 have H' := H.at (sf x)
 obtain ⟨es, ep, hxo, _⟩ := id H'
 have hxC := ne_108 X hxo
 refine sub_108 X hxo ?_ (hs _ _)
 have tot : Sub g₁ g₃ := sg₂.trans sg₃
 have toth : Sub s.heap h₃ := sh₂.trans sh₃
 cases e : at? b key with
 | some r =>
  obtain ⟨v, ev, rv⟩ := R.is (k := key) (d := encRow r) (by rw [at_encB, e]; rfl)
  refine getitem_hit X H' ev ?_
  rw [e] at k
  exact k g₃ _ v S₃.toks tot toth rv
 | none =>
  have ev := R.not (k := key) (by rw [at_encB, e]; rfl)
  rw [e] at k
  refine miss_f X T (hA.mono (by decide)) H' (D.sub (sf dx)) (Lm.mono sf) (F.mono sf) ev h3 hxC fun h' n tk' kk hn hn' => ?_
  have S₄ : St c g₃ ⟨h', ga, dr, tk', os⟩ := S₃.step ⟨_, _, rfl⟩ kk
  obtain ⟨S₅, sg₅⟩ := S₄.grow
  have nW : n ∉ c.W := fun q => by obtain ⟨o, z⟩ := S₃.live n q; rw [show (⟨h₃, ga, dr, tk, os⟩ : Shared).heap.get? n = none from hn] at z; cases z
  refine k _ _ _ S₅ (tot.trans sg₅) (toth.trans kk) ?_
  exact Rd.list (hideAll_get _ hn' nW) rfl rfl .nil
namespace MF
theorem slot_map_init : Slot "map" "__init__" "object.__init__" :=
 .of (owner := "object") (n := "__init__") (by rw [typeLookup_type, builtinLookup_eq_fast]; kernel_rfl) (by decide +kernel) (by decide +kernel) (by decide +kernel)
  (by first | exact .inl (by decide +kernel) | exact .inr (by decide +kernel)) (by rw [isSubtype_type]; kernel_rfl)
theorem slot_map_iter : Slot "map" "__iter__" "map.__iter__" :=
 .of (owner := "map") (n := "__iter__") (by rw [typeLookup_type, builtinLookup_eq_fast]; kernel_rfl) (by decide +kernel) (by decide +kernel) (by decide +kernel)
  (by first | exact .inl (by decide +kernel) | exact .inr (by decide +kernel)) (by rw [isSubtype_type]; kernel_rfl)
theorem slot_map_next : Slot "map" "__next__" "map.__next__" :=
 .of (owner := "map") (n := "__next__") (by rw [typeLookup_type, builtinLookup_eq_fast]; kernel_rfl) (by decide +kernel) (by decide +kernel) (by decide +kernel)
  (by first | exact .inl (by decide +kernel) | exact .inr (by decide +kernel)) (by rw [isSubtype_type]; kernel_rfl)
theorem args_map_iter (a : Value) : argsOk "map.__iter__" ⟨[a], []⟩ := by unfold argsOk; kernel_rfl
theorem args_map_next (a : Value) : argsOk "map.__next__" ⟨[a], []⟩ := by unfold argsOk; kernel_rfl
theorem entry_map_next : entryFor table "map.__next__" = some Builtin.«map.__next__» := entryFor_of_tree (by kernel_rfl)
theorem entry_map_new : entryFor table "map.__new__" = some Builtin.«map.__new__» := entryFor_of_tree (by kernel_rfl)
theorem entry_map_iter : entryFor table "map.__iter__" = some Builtin.«dict_keyiterator.__iter__» :=
 entryFor_alias (id' := "dict_keyiterator.__iter__") (by kernel_rfl) (by first | rfl | decide +kernel | (unfold String.splitOn; simp +decide [String.splitOnAux])) (by decide +kernel) (by kernel_rfl)
theorem mro_map : mroOf (.type "map") = pure [.type "map", .type "object"] := by rw [mroOf_type]; kernel_rfl
theorem lookup_map_new : typeLookup (.type "map") "__new__" = pure (some (.builtin "map.__new__")) := by rw [typeLookup_type, builtinLookup_eq_fast]; kernel_rfl
theorem called_map : TypeCalled "map" "map.__new__" "object.__init__" :=
 ⟨by decide +kernel, by decide +kernel, ⟨_, _, mro_map⟩, madeBy_type mro_map lookup_map_new (by decide +kernel), by decide +kernel, by rw [isSubtype_type]; kernel_rfl, slot_map_init⟩
theorem typeCall_map_2 (a b : Value) : checkTypeCall "map" ⟨[a, b], []⟩ = pure () := by kernel_rfl
theorem newCall_map_2 (a b : Value) : checkBuiltinCall "map.__new__" ⟨[.type "map", a, b], []⟩ = pure () := by kernel_rfl
theorem sub_map : isSubtype (.type "map") (.type "map") = pure true := by rw [isSubtype_type]; kernel_rfl
theorem map_no_len : typeLookup (.type "map") "__len__" = pure none := by rw [typeLookup_type, builtinLookup_eq_fast]; kernel_rfl
theorem map_no_hint : typeLookup (.type "map") "__length_hint__" = pure none := by rw [typeLookup_type, builtinLookup_eq_fast]; kernel_rfl
end MF
noncomputable abbrev IsMap (h : Heap) (M T : Addr) : Prop := h.get? M = some { cls := .type "map", dict := none, data := .fields #[.ref T, .builtin "str.strip"], slots := #[] }
noncomputable abbrev IsOne (h : Heap) (T i : Addr) : Prop := h.get? T = some { cls := .type "tuple", data := .seq #[.ref i] }
section
variable {prog : Program} {w : World} {A : Around} {E : Value → Shared → Prop} {s : Shared} {M T i l : Addr} {k : Nat} {xs : Array Value} {x : Str} {t : Tok}
theorem map_item {Q : Value → Shared → Prop} (hM : IsMap s.heap M T) (hT : IsOne s.heap T i) (hi : s.heap.IsListIter i l k) (hl : s.heap.IsList l xs) (hx : xs[k]? = some (.str x t)) (hz : x.length ≤ sizeLine) (n1 : M ≠ i)
  (hQ : ∀ h' t' tk, h'.IsListIter i l (k + 1) → Heap.SameBut i s.heap h' → Q (.str (Txt.strip x) t') { s with heap := h', toks := tk }) :
  wpAny (model prog w) A (Builtin.«map.__next__» ⟨[.ref M], []⟩) (fun fin s' => ∃ v, fin = .done (.ret v) ∧ Q v s') E s := by
 show wpAny _ _ (field (.ref M) 0 >>= _) _ _ _
 refine wpAny_bind (wpAny_field hM rfl (x := .ref T) rfl ?_)
 refine wpAny_bind (wpAny_seqItems hT rfl ?_)
 dsimp only
 refine wpAny_bind ?_
 simp only [List.forIn_toArray, List.forIn_cons, List.forIn_nil]
 refine wpAny_bind (wpAny_bind (wpAny_holding (wpAny_nextOf_list_item hi hl hx fun h₁ hi₁ hs₁ => wpAny_pure (wpAny_pure ?_))))
 have hM₁ : IsMap h₁ M T := hs₁.extBut _ _ n1 hM
 refine wpAny_bind (wpAny_field hM₁ rfl (x := .builtin "str.strip") rfl ?_)
 refine wpAny_bind (wpAny_holding (SC.strip (hsz := hz) fun t' tk => ?_))
 exact wpAny_bind (wpAny_letGo (wpAny_pure ⟨_, rfl, hQ h₁ t' tk hi₁ hs₁⟩))
theorem map_end {Q : Fin → Shared → Prop} (hh : A.handled = none) (hM : IsMap s.heap M T) (hT : IsOne s.heap T i) (hi : s.heap.IsListIter i l k) (hl : s.heap.IsList l xs) (hx : xs[k]? = none)
  (hE : ∀ h' e, Heap.ExtBut i s.heap h' → (∃ o, h'.get? e = some o ∧ o.cls = .type "StopIteration") → E (.ref e) { s with heap := h' }) :
  wpAny (model prog w) A (Builtin.«map.__next__» ⟨[.ref M], []⟩) Q E s := by
 show wpAny _ _ (field (.ref M) 0 >>= _) _ _ _
 refine wpAny_bind (wpAny_field hM rfl (x := .ref T) rfl ?_)
 refine wpAny_bind (wpAny_seqItems hT rfl ?_)
 dsimp only
 refine wpAny_bind ?_
 simp only [List.forIn_toArray, List.forIn_cons, List.forIn_nil]
 exact wpAny_bind (wpAny_bind (wpAny_holding (wpAny_nextOf_list_end hh hi hl hx fun h' e hs he => hE h' e hs he)))
theorem Walks.mapStrip (hh : A.handled = none) (n1 : M ≠ i) (n2 : T ≠ i) (n3 : l ≠ i) (ys : List Str) (hxs : ∀ (k : Nat) (v : Value), xs[k]? = some v → ∃ t, v = .str (ys.getD k "") t) (hz : ∀ k : Nat, (ys.getD k "").length ≤ sizeLine) :
  Walks prog w A M [M, T, i, l] [i] xs.size (fun k v => ∃ t, v = .str (Txt.strip (ys.getD k "")) t) (fun k h => IsMap h M T ∧ IsOne h T i ∧ h.IsListIter i l k ∧ h.IsList l xs) where
 sub := fun c hc => by rw [List.mem_singleton.mp hc]; simp
 frame := fun k h h' st hk => ⟨hk M (by simp) _ st.1, hk T (by simp) _ st.2.1, st.2.2.1.at fun o e => hk i (by simp) o e, st.2.2.2.at fun o e => hk l (by simp) o e⟩
 item := fun k s Q E hk st hQ => by
  obtain ⟨hM, hT, hi, hl⟩ := st
  have hx := Array.getElem?_eq_getElem hk
  obtain ⟨t, ht⟩ := hxs k _ hx
  have hTy : s.TypeIs (.ref M) "map" := ⟨_, hM, rfl⟩
  unfold pyNext
  refine wpAny_bind (wpAny_attempt (wpAny_callSpecial?_slot (name := Str.ofString "__next__") hTy MF.slot_map_next
   (wpAny_call_entry MF.slot_map_next hTy MF.entry_map_next (map_item hM hT hi hl (hx.trans (congrArg some ht)) (hz k) n1 fun h' t' tk hi' hs => wpAny_pure (hQ _ h' tk ⟨t', rfl⟩ ⟨hs.extBut _ _ n1 hM, hs.extBut _ _ n2 hT, hi', hl.at fun o e => hs.extBut _ _ n3 e⟩ fun b o hb e => hs.extBut _ _ (fun q => hb (q ▸ .head _)) e)) (MF.args_map_next _))))
 done := fun s Q E st hQ => by
  obtain ⟨hM, hT, hi, hl⟩ := st
  have hTy : s.TypeIs (.ref M) "map" := ⟨_, hM, rfl⟩
  unfold pyNext
  refine wpAny_bind (wpAny_attempt (wpAny_callSpecial?_slot (name := Str.ofString "__next__") hTy MF.slot_map_next
   (wpAny_call_entry MF.slot_map_next hTy MF.entry_map_next (map_end hh hM hT hi hl (Array.getElem?_eq_none (Nat.le_refl _)) fun h' e hs he => ?_) (MF.args_map_next _))))
  obtain ⟨o, ho, hc⟩ := he
  refine wpAny_bind (wpAny_isInstance (T := "StopIteration") (b := true) ⟨o, ho, hc⟩ isSubtype_stop ?_)
  exact wpAny_pure (hQ h' s.toks fun b o hb e => hs _ _ (fun q => hb (q ▸ .head _)) e)
 self := fun k s Q E st hQ => by
  have hTy : s.TypeIs (.ref M) "map" := ⟨_, st.1, rfl⟩
  refine wpAny_pyIter_slot hTy MF.slot_map_iter (wpAny_call_entry MF.slot_map_iter hTy MF.entry_map_iter ?_ (MF.args_map_iter _))
  show wpAny _ _ (ret (.ref M)) _ _ s
  exact wpAny_pure ⟨_, rfl, "map", _, hTy, MF.slot_map_next.lookup, hQ⟩
end
noncomputable abbrev mapH1 (h : Heap) (l : Addr) : Heap := h.push { cls := .type "list_iterator", data := .fields #[.ref l, .int 0 0] }
noncomputable abbrev mapH2 (h : Heap) (l : Addr) : Heap := (mapH1 h l).push { cls := .type "tuple", data := .seq #[.ref h.objs.size] }
noncomputable abbrev mapH3 (h : Heap) (l : Addr) : Heap := (mapH2 h l).push { cls := .type "map", data := .fields #[.ref (mapH1 h l).objs.size, .builtin "str.strip"] }
theorem meets_map_new (l : Addr) (xs : Array Value) :
  Meets (Builtin.«map.__new__» ⟨[.type "map", .builtin "str.strip", .ref l], []⟩) (fun _ R s => s.heap.IsList l xs ∧ R (.ok (.ret (.ref (mapH2 s.heap l).objs.size))) { s with heap := mapH3 s.heap l }) :=
 .of_wp fun prog w A R s h => by
  obtain ⟨hp, g, d, tk, os⟩ := s; obtain ⟨hl1, h⟩ := h
  have hsub := MF.sub_map
  have hL1 : Heap.IsList (Shared.heap ⟨hp, g, d, tk, os⟩) l xs := hl1
  wp_walk using wpAny_pyIter_list hL1
  exact ⟨_, rfl, h⟩
section
variable {prog : Program} {w : World} {A : Around} {E : Value → Shared → Prop} {s : Shared} {l : Addr} {xs : Array Value}
theorem call_map_2 {Q : Value → Shared → Prop} (hl : s.heap.IsList l xs)
  (h : ∀ h' M T i, IsMap h' M T → IsOne h' T i → h'.IsListIter i l 0 → (∀ c o, s.heap.get? c = some o → h'.get? c = some o) → s.heap.get? i = none → M ≠ i → T ≠ i → l ≠ i → Q (.ref M) { s with heap := h' }) :
  wpAny (model prog w) A (call (.type "map") [.builtin "str.strip", .ref l]) Q E s := by
 refine callType_new MF.called_map (by decide) (MF.typeCall_map_2 _ _) (MF.newCall_map_2 _ _) (fun obj => F.args_object_init_3 obj _ _) MF.entry_map_new (meets_map_new l xs) ⟨hl, ?_⟩
 have z1 : (mapH1 s.heap l).objs.size = s.heap.objs.size + 1 := Heap.size_push ..
 have z2 : (mapH2 s.heap l).objs.size = s.heap.objs.size + 2 := by rw [Heap.size_push, z1]
 have g3 : (mapH3 s.heap l).get? (mapH2 s.heap l).objs.size = some _ := Heap.get?_push_size _ rfl
 have g2 : (mapH3 s.heap l).get? (mapH1 s.heap l).objs.size = some _ := Heap.get?_push_of_some _ (Heap.get?_push_size _ rfl)
 have g1 : (mapH3 s.heap l).get? s.heap.objs.size = some _ := Heap.get?_push_of_some _ (Heap.get?_push_of_some _ (Heap.get?_push_size _ rfl))
 obtain ⟨ol, hol, _⟩ := id hl
 have hlt : l < s.heap.objs.size := Heap.lt_size hol
 refine ⟨⟨_, g3, rfl⟩, h _ _ _ _ g3 g2 ⟨_, g1, rfl, rfl⟩ (fun c o x => Heap.get?_push_of_some _ (Heap.get?_push_of_some _ (Heap.get?_push_of_some _ x))) (none_of_ge (Nat.le_refl _)) ?_ ?_ (Nat.ne_of_lt hlt)⟩
 ·rw [z2]; exact Nat.ne_of_gt (Nat.lt_succ_of_lt (Nat.lt_succ_self _))
 ·rw [z1]; exact Nat.ne_of_gt (Nat.lt_succ_self _)
theorem collect_map {I : Addr} {fp wr : List Addr} {n : Nat} {P : Nat → Value → Prop} {St : Nat → Heap → Prop} {Q : List Value → Shared → Prop} (W : Walks prog w A.in1 I fp wr n P St) (hT : ∀ i (s : Shared), St i s.heap → s.TypeIs (.ref I) "map") (hst : St 0 s.heap) (hfp : ∀ b ∈ fp, b < s.heap.objs.size) (hI : I ∈ fp)
  (hQ : ∀ s' acc, Sm s s' → Off wr s.heap s'.heap → ItemsOf P acc n → Q acc.toList s') (hn : n ≤ sizeLine) : wpAny (model prog w) A (collect (.ref I)) Q E s := by
 have hSf : s.heap.objs.size ∉ fp := fun hm => Nat.lt_irrefl _ (hfp _ hm)
 have hSI : s.heap.objs.size ≠ I := fun e => hSf (e ▸ hI)
 have WS := W.toS
 unfold collect
 refine wpAny_bind (wpAny_runValue (codeAny_builtin F.entry_proto_collect ?_))
 rw [Around.under_plainId F.plain_proto_collect _]
 show wpAny _ A.in1 (newList [] >>= fun l => again (.builtin "list.__iadd__" ⟨[l, .ref I], []⟩)) _ _ s
 refine wpAny_bind (wpAny_newObj_type ?_)
 refine wpAny_pure ⟨plainId_quiet F.plain_list_iadd _, codeAny_builtin F.entry_list_iadd ?_⟩
 rw [Around.under_plainId F.plain_list_iadd _]
 have hst₁ : St 0 (s.heap.push { cls := .type "list", data := .seq ([] : List Value).toArray }) := W.frame 0 _ _ hst fun b _ o e => Heap.get?_push_of_some _ e
 have hS₁ : (s.heap.push { cls := .type "list", data := .seq ([] : List Value).toArray }).get? s.heap.objs.size = some { cls := .type "list", data := .seq ([] : List Value).toArray } := Heap.get?_push_size _ rfl
 show wpAny _ A.in1 (Builtin.List.listExtendWith (.ref s.heap.objs.size) (.ref I) (.ref s.heap.objs.size)) _ _ _
 unfold Builtin.List.listExtendWith
 refine wpAny_bind (wpAny_typeOf (hT 0 _ hst₁) ?_)
 have h1 : Builtin.List.listSameRef (.ref s.heap.objs.size) (.ref I) = false := by simp [Builtin.List.listSameRef, hSI]
 have h2 : (Value.type "map" == Value.type "list") = false := by decide
 have h3 : (Value.type "map" == Value.type "tuple") = false := by decide
 simp only [h1, h2, h3, Bool.or_false, Bool.false_eq_true, if_false]
 refine wpAny_bind (W.self 0 _ _ _ hst₁ ?_)
 refine wpAny_bind (wpAny_holding ?_)
 unfold Builtin.List.listLengthHint
 refine wpAny_bind (wpAny_specialOf (hT 0 _ hst₁) MF.map_no_len ?_)
 show wpAny _ A.in1 (specialOf (Value.ref I) (Str.ofString "__length_hint__") >>= _) _ _ _
 refine wpAny_bind (wpAny_specialOf (hT 0 _ hst₁) MF.map_no_hint ?_)
 refine wpAny_pure ?_
 show wpAny _ A.in1 (rule "list.extend.makes-room" >>= fun _ => Builtin.List.listTouch (.ref s.heap.objs.size) >>= fun _ =>
  again (.builtin "list.extend.loop" ⟨[.ref s.heap.objs.size, .ref I, .ref s.heap.objs.size], []⟩)) _ _ _
 refine wpAny_bind (wpAny_rule ?_)
 refine wpAny_bind ?_
 show wpAny _ A.in1 (updateSeq s.heap.objs.size (·.push .none) >>= fun _ => updateSeq s.heap.objs.size (·.pop)) _ _ _
 refine wpAny_bind (wpAny_updateSeq hS₁ rfl ?_)
 have hS₂ := Heap.get?_update_self (Obj.mapSeq (·.push Value.none)) hS₁ rfl
 refine wpAny_updateSeq hS₂ rfl ?_
 have hS₃ := Heap.get?_update_self (Obj.mapSeq (·.pop)) hS₂ rfl
 have oth : ∀ b o, b ≠ s.heap.objs.size → (s.heap.push { cls := .type "list", data := .seq ([] : List Value).toArray }).get? b = some o →
   (((s.heap.push { cls := .type "list", data := .seq ([] : List Value).toArray }).update s.heap.objs.size (Obj.mapSeq (·.push Value.none))).update s.heap.objs.size (Obj.mapSeq (·.pop))).get? b = some o :=
  fun b o hb e => (Heap.get?_update_other _ _ (Ne.symm hb)).trans ((Heap.get?_update_other _ _ (Ne.symm hb)).trans e)
 refine wpAny_pure ⟨plainId_quiet F.plain_extend_loop _, codeAny_extend_loopS WS hn _ hSf _ n 0 _ _ _ rfl (Nat.zero_le _)
  (W.frame 0 _ _ hst₁ fun b hb o e => oth b o (fun h => hSf (h ▸ hb)) e) hS₃ (ItemsOf.nil P) fun s' acc' c' hm hS' hacc => ?_⟩
 show wpAny _ A (load s.heap.objs.size >>= _) _ _ s'
 refine wpAny_bind (wpAny_load hS' ?_)
 refine wpAny_pure (hQ s' acc' ?_ (fun b o hb e => ?_) hacc)
 ·obtain ⟨_, m2, m3, m4, _⟩ := hm
  obtain ⟨a1, a2, a3, a4, a5⟩ := s'
  obtain ⟨b1, b2, b3, b4, b5⟩ := s
  simp only at m2 m3 m4
  subst m2 m3 m4
  exact ⟨_, _, rfl⟩
 ·have hne : b ≠ s.heap.objs.size := Nat.ne_of_lt (Heap.lt_size e)
  exact hm.heap b o (fun q => (List.mem_cons.mp q).elim hne hb) (oth b o hne (Heap.get?_push_of_some _ e))
end
end Mine
namespace Mine
open PySem PySem.W PySem.Calls PySem.Spec PyProof.Rows Builtin
noncomputable def ob203 (p : Params) : Obj := objOf (l := (HK p).lookup 203) rfl
theorem at203 (p : Params) : (HK p).lookup 203 = some (ob203 p) := rfl
noncomputable def ob130 (p : Params) : Obj := objOf (l := (HK p).lookup 130) rfl
noncomputable def fd130 (p : Params) : FuncData := fdOf (l := (HK p).lookup 130) rfl rfl
noncomputable def bd130 (p : Params) : List Stmt := bodyOf (fd := fd130 p) rfl
section
variable {w : World} {A : Around} {h : Heap} {g : Array GenState} {d : Drawn} {t : Nat} {os : OsState} {R : Result → Shared → Prop} {E : Value → Shared → Prop} {vals : List Value}
theorem new_203 {ex : Bool} {Q : Value → Shared → Prop} (X : (HK w.params).In h) (hq : Q (.ref 130) ⟨h, g, d, t + 1, os⟩) : wpAny (model PG w) A (getAttr (.ref 203) "__new__" ex) Q E ⟨h, g, d, t, os⟩ := by
 refine cls_bind (mc := .type "type") (g := .builtin "staticmethod.__get__") (a := .ref 181) (obj := .none) (tp := .ref 203) X (by rfl) (by rfl) ?_
 exact wpAny_call (sm_get (s := ⟨h, g, d, t + 1, os⟩) (f := .ref 130) (rest := []) X (by rfl) (handed_on (by rfl) hq))
theorem oi_203 {n dx : Addr} {xs : Array Value} {a b : Value} (X : (HK w.params).In h) (hn : h.get? n = some { cls := .ref 203, dict := some dx, data := .seq xs }) (hq : R (.ok (.ret .none)) ⟨h, g, d, t, os⟩) :
  codeAny (model PG w) A (.call (.builtin "object.__init__") ⟨[.ref n, a, b], []⟩) R ⟨h, g, d, t, os⟩ := by
 have t1 : Looks (model PG w) h (typeOf (.ref n)) (.ref 203) := (Looks.ld hn).andThen .now
 have l1 : Looks (model PG w) h (isInstance (.ref n) (.type "object")) true := t1.andThen (looks_mroIn X (by rfl))
 have i1 : Looks (model PG w) h (typeLookup (.ref 203) "__init__") (some (.builtin "object.__init__")) := looks_findIn X (by rfl)
 have made : Looks (model PG w) h (Bind.madeBy (.ref 203)) none := Looks.of_peek X (by rfl)
 have ha : argsOk "object.__init__" ⟨[.ref n, a, b], []⟩ := by unfold argsOk; kernel_rfl
 refine codeAny_call_builtin oi_plain entry_oi (@check_slot (model PG w) _ _ _ "object.__init__" "object" "__init__" (.ref n) [a, b] [] _ oi_kind oi_split l1 ha ?_)
 unfold Builtin.«object.__init__»
 iterate 16 try lk
 exact hq
theorem tc_203 (a b : Value) : argsOk "type.__call__" ⟨[.ref 203, a, b], []⟩ := by unfold argsOk; kernel_rfl
end
end Mine
namespace Mine
open PySem PySem.W PySem.Calls PySem.Spec PyProof.Rows Builtin
section
variable {α : Type} {M : Model} {A : Around} {E : Value → Shared → Prop} {s : Shared}
theorem wpC_operating {vs : List Value} {m : Sem Value} {Q : Value → Shared → Prop} (h : wpC M A m Q E s) : wpC M A (operate vs m) Q E s := fun Γ p hΓ hc => by rw [Sem.wp_operate]; exact h Γ p hΓ hc
theorem wpC_standAt {pos : Pos} {Q : Unit → Shared → Prop} (h : Q () s) : wpC M A (standAt pos) Q E s := fun _ _ _ _ => h
theorem wpC_callWith {f : Value} {first : List Value} {pos : Pos} {Q : Value → Shared → Prop} {P : Heap → Prop} {args : List (Bool × Sem Value)}
  (hk : ∀ h, P h → ∃ k, (k = Keeper.frame ∨ k = Keeper.machine ∨ k = Keeper.boundFrame) ∧ Looks M h (keeperOf f) k) (hl : args.length ≤ 30)
  (h : wpAny M A (evalArgs f true args []) (fun a s₁ => P s₁.heap ∧ wpC M A (call f (first ++ a.pos) a.kw) Q E s₁) E s) : wpC M A (callWith pos f first args []) Q E s := by
 unfold callWith
 refine wpC_bindA (wpAny_holding (wpAny_mono h (fun a s₁ h₁ => wpC_bind (wpC_standAt ?_)) fun _ _ x => x))
 obtain ⟨k, hk', L⟩ := hk _ h₁.1
 refine wpC_bindA (L.here ?_)
 have tail : ∀ {t : Sem Value}, wpC M A t Q E s₁ → wpC M A (t >>= fun r => holding [r] point >>= fun _ => pure r) Q E s₁ :=
  fun ht => wpC_bind (wpC_mono ht (fun r s₂ hr => wpC_any (wpAny_bind (wpAny_holding (wpAny_point (wpAny_pure hr))))) fun _ _ x => x)
 have marked (mk : Value) : wpC M A (callMarked mk f (first ++ a.pos) a.kw) Q E s₁ := by unfold callMarked; exact wpC_keep h₁.2
 have hl2 : ¬ (args.length + 2 * ([] : List (Option Str × Sem Value)).length > 30) := by simp; omega
 cases hst : args.any (·.1) with
 | true => rcases hk' with rfl | rfl | rfl <;> simp only [Bool.true_or] <;> first | exact tail (marked _) | exact tail (wpC_operating h₁.2)
 | false => rcases hk' with rfl | rfl | rfl <;> simp only [Bool.false_or, List.any_nil, if_neg hl2] <;> first | exact tail (marked _) | exact tail h₁.2
theorem wpC_execs_cons {env : Env} {st : Stmt} {rest : List Stmt} {Q : Flow → Shared → Prop}
  (h : wpC M A (exec st env) (fun f s' => match f with | .next => wpC M A (execs rest env) Q E s' | f => Q f s') E s) : wpC M A (execs (st :: rest) env) Q E s := fun Γ p hΓ hc => by
 rw [execs_cons, Sem.wp_bind']
 refine Sem.wp_mono M Γ _ (fun f p' s' h' => ?_) (fun _ _ _ h' => h') _ _ (h Γ p hΓ hc)
 cases f <;> first | exact h' Γ p' hΓ hc | exact h'
theorem wpC_execs_any {env : Env} {st : Stmt} {rest : List Stmt} {Q : Flow → Shared → Prop}
  (h : wpAny M A (execs [st] env) (fun f s' => match f with | .next => wpC M A (execs rest env) Q E s' | f => Q f s') E s) : wpC M A (execs (st :: rest) env) Q E s := fun Γ p hΓ hc => by
 have z := h Γ p hΓ
 rw [execs_cons, Sem.wp_bind'] at z
 rw [execs_cons, Sem.wp_bind']
 refine Sem.wp_mono M Γ _ (fun f p' s' h' => ?_) (fun _ _ _ h' => h') _ _ z
 cases f with
 | next => exact (show Sem.wp M Γ (pure Flow.next) _ _ p' s' from h') Γ p' hΓ hc
 | _ => exact h'
theorem wpC_Assign {env : Env} {x : Str} {pos' pos : Pos} {value : Expr} {Q : Flow → Shared → Prop}
  (h : wpC M A (eval value env) (fun v s₁ => wpAny M A (storeName env x v) (fun _ => Q .next) E s₁) E s)
  (hs : swapsWith value (some (.Name x pos')) pos.line env = pure false := by rfl) : wpC M A (exec (.Assign [.Name x pos'] value pos) env) Q E s := fun Γ p hΓ hc => by
 simp only [exec_Assign_Name env x pos' value pos hs, Sem.wp_bind', Sem.wp_cmd_standAt, Sem.wp_bindName, Sem.wp_pure']
 exact Sem.wp_mono M Γ _ (fun v _ s₁ h₁ => h₁ Γ _ hΓ) (fun _ _ _ h' => h') _ _ (h Γ _ hΓ hc)
theorem wpC_Return {env : Env} {e : Expr} {pos : Pos} {Q : Flow → Shared → Prop} (h : wpC M A (eval e env) (fun v => Q (.ret v)) E s) : wpC M A (exec (.Return (some e) pos) env) Q E s := fun Γ p hΓ hc => by
 simp only [exec_Return_some, Sem.wp_bind', Sem.wp_cmd_standAt, Sem.wp_pure']; exact h Γ _ hΓ hc
theorem wpC_If {env : Env} {test : Expr} {body orelse : List Stmt} {pos : Pos} {Q : Flow → Shared → Prop}
  (h : wpC M A (isTrue test env (eval test env)) (fun b s₂ => if b then wpC M A (execs body env) Q E s₂ else wpC M A (execs orelse env) Q E s₂) E s) : wpC M A (exec (.If test body orelse pos) env) Q E s := fun Γ p hΓ hc => by
 simp only [exec_If, Sem.wp_bind', Sem.wp_cmd_standAt]
 refine Sem.wp_mono M Γ _ (fun b p₂ s₂ h₂ => ?_) (fun _ _ _ h' => h') _ _ (h Γ _ hΓ hc)
 cases b <;> exact h₂ Γ p₂ hΓ hc
theorem codeC_loop {c : Code} {R : Result → Shared → Prop} (hq : c.quiet = true) (I : Nat → Shared → Prop)
  (turn : ∀ n s, I n s → wpC M (A.under c) (M.den c) (fun fin s' => match fin with
    | .done f => R (.ok f) s'
    | .again c' => (c' = c ∧ ∃ m, m < n ∧ I m s') ∨ (c'.quiet = true ∧ codeC M A c' R s')) (fun e s' => R (.error e) s') s)
  (n : Nat) (h : I n s) : codeC M A c R s := by
 induction n using Nat.strongRecOn generalizing s with
 | ind n ih =>
  refine codeC_of_tree (wpC_mono (turn n s h) (fun fin s' hf => ?_) fun _ _ h' => h')
  cases fin with
  | done f => exact hf
  | again c' =>
   rcases hf with ⟨rfl, m, hm, hI⟩ | hf
   ·exact ⟨hq, ih m hm hI⟩
   ·exact hf
end
section
variable {prog : Program} {w : World} {A : Around} {E : Value → Shared → Prop} {R : Result → Shared → Prop} {s : Shared} {env : Env}
theorem wpC_Try {body orelse : List Stmt} {h₀ : ExceptHandler} {hs : List ExceptHandler} {pos : Pos} {Q : Flow → Shared → Prop}
  (h : wpC (model prog w) A (execs body env) (fun f s₁ => match f with | .next => wpC (model prog w) A (execs orelse env) Q E s₁ | f => Q f s₁)
   (fun e s₁ => wpAny (model prog w) A (noteFrame e env) (fun _ s₂ => wpAny (model prog w) A (setFlight e none) (fun _ s₃ => wpAny (model prog w) A (handleBy e env (h₀ :: hs)) Q E s₃) E s₂) E s₁) s) :
  wpC (model prog w) A (exec (.Try body (h₀ :: hs) orelse [] pos) env) Q E s := by
 rw [arm_exec_Try]
 refine wpC_bind (wpC_standAt ?_)
 unfold tryStmt
 simp only [List.isEmpty_nil, if_true, List.isEmpty_cons, Bool.false_and, Bool.false_eq_true, if_false]
 refine wpC_bind (wpC_attempt (wpC_mono h (fun f s₁ h₁ => ?_) fun e s₁ h₁ => ?_))
 ·cases f <;> first | exact h₁ | exact wpC_pure h₁
 ·exact wpC_any (wpAny_bind (wpAny_mono h₁ (fun _ _ h₂ => wpAny_bind h₂) fun _ _ x => x))
theorem wpC_For {target iter : Expr} {body : List Stmt} {pos : Pos} {Q : Flow → Shared → Prop}
  (h : wpAny (model prog w) A (eval iter env) (fun x s₁ => wpAny (model prog w) A (pyIter x) (fun it s₂ =>
   codeC (model prog w) A (.forLoop target it body [] env) (fun r s' => match r with | .ok f => Q f s' | .error e => False) s₂) E s₁) E s)
  (hs : ∀ x, foldedSetIterable iter env x = pure x := by intro _; rfl) : wpC (model prog w) A (exec (.For target iter body [] pos) env) Q E s := by
 rw [exec_For]
 refine wpC_bind (wpC_standAt (wpC_bindA (wpAny_mono h (fun x s₁ h₁ => wpC_of_eq (hs x) (wpC_bind (wpC_standAt (wpC_bindA (wpAny_holding (wpAny_mono h₁ (fun it s₂ h₂ => ?_) fun _ _ x => x)))))) fun _ _ x => x)))
 unfold runOwn
 exact wpC_onRaise (wpC_run (codeC_mono (by rw [Around.mark_none]; exact h₂) fun r s' hr => by cases r <;> first | exact hr | exact hr.elim))
theorem codeC_forLoop {target it : _} {body : List Stmt} (I : Nat → Shared → Prop)
  (turn : ∀ n s, I n s → wpAny (model prog w) A (pyNext it) (fun r s₁ => match r with
   | none => R (.ok .next) s₁
   | some v => wpAny (model prog w) A (letOwnedTupleGo target it v) (fun _ s₁' =>
     wpAny (model prog w) A (assign target env v) (fun _ s₂ => wpC (model prog w) A (execs body env) (fun f s₃ => match f with
      | .next | .cont => ∃ m, m < n ∧ I m s₃
      | .brk => R (.ok .next) s₃
      | .ret v => R (.ok (.ret v)) s₃) (fun _ _ => False) s₂) (fun _ _ => False) s₁') (fun _ _ => False) s₁) (fun _ _ => False) s)
  (n : Nat) (h : I n s) : codeC (model prog w) A (.forLoop target it body [] env) R s := by
 refine codeC_loop rfl I (fun n s hI => ?_) n h
 show wpC _ A ((forTurn target it body [] env).onRaise (fun x => do noteFrame x env; theTreesLotGoes x)) _ _ s
 refine wpC_onRaise ?_
 simp only [forTurn]
 refine wpC_bind (wpC_standAt (wpC_bindA (wpAny_onRaise (wpAny_mono (turn n s hI) (fun r s₁ h₁ => ?_) fun _ _ h' => h'.elim))))
 cases r with
 | none => exact wpC_pure (.inr ⟨rfl, codeC_any (codeAny_block (wpAny_execs_nil h₁))⟩)
 | some v =>
  refine wpC_bindA (wpAny_mono h₁ (fun _ s₁' h₁' => ?_) fun _ _ h' => h'.elim)
  refine wpC_bindA (wpAny_mono h₁' (fun _ s₂ h₂ => wpC_bind (wpC_mono h₂ (fun f s₃ h₃ => ?_) fun _ _ h' => h'.elim)) fun _ _ h' => h'.elim)
  cases f with
  | next => exact wpC_pure (.inl ⟨rfl, h₃⟩)
  | cont => exact wpC_pure (.inl ⟨rfl, h₃⟩)
  | brk => exact wpC_pure h₃
  | ret v => exact wpC_pure h₃
theorem codeC_func {body : List Stmt}
  (h : wpC (model prog w) (A.deeper env) (execs body env) (fun f s' => R (.ok (.ret (match f with | .ret v => v | _ => .none))) s')
   (fun e s' => wpAny (model prog w) (A.deeper env) (leaving env e) (fun _ s'' => R (.error e) s'') (fun e' s'' => R (.error e') s'') s') s) :
  codeC (model prog w) A (.func body env) R s := by
 refine codeC_of_tree ?_
 show wpC _ (A.deeper env) (do point; match ← (execs body env).onRaise (leaving env) with | .ret v => ret v | _ => ret .none) _ _ s
 refine wpC_bindA (wpAny_point (wpC_bind (wpC_onRaise (wpC_mono h (fun f s' h' => ?_) fun _ _ h' => wpC_any h'))))
 cases f <;> exact wpC_pure h'
theorem codeC_function {a : Addr} {args : Args} {o : Obj} {fd : FuncData} {body : List Stmt} (hroom : A.depth < recursionLimit)
  (ho : s.heap.get? a = some o) (hd' : o.data = .func fd) (hco : fd.scope.isCoroutine = false) (hgen : fd.scope.isGenerator = false) (hbody : fd.body = .stmts body) (hcd : s.heap.CodeRec fd.code fd.qualname)
  (h : wpC (model prog w) A.in1 (bindArgs fd args) (fun binds s₁ =>
   wpAny (model prog w) A.in1 (newFunctionEnv fd.scope fd.globals fd.closure binds (fd.qualname ++ ".<locals>.") (some a) fd.code none fd.builtins)
    (fun env s₂ => s₂.heap.NoLimit ∧ codeC (model prog w) A (.func body env) R s₂) (fun e s' => R (.error e) s') s₁) (fun e s' => R (.error e) s') s) :
  codeC (model prog w) A (.call (.ref a) args) R s := by
 refine codeC_of_tree ?_
 show wpC _ A.in1 (callAny (.ref a) args) _ _ s
 simp only [callAny]
 refine wpC_bindA (wpAny_load ho ?_)
 obtain ⟨c, oc, vs, tq, hc, hoc, hdc, hq⟩ := hcd
 simp only [hd', callFunction, hco, hgen, hbody, hc]
 rw [hc] at h
 refine wpC_bindA (m := field (.ref c) 1) (wpAny_field hoc hdc hq (wpC_bindA (wpAny_pure ?_)))
 exact wpC_bind (wpC_mono h (fun binds s₁ h₁ => wpC_bindA (wpAny_mono h₁ (fun env s₂ h₂ => wpC_bindA (wpAny_enterFrame h₂.1 hroom
  (wpC_pure (And.intro rfl h₂.2)))) fun _ _ h' => h')) fun _ _ h' => h')
theorem codeC_method {p : Addr} {f self : Value} {pos : List Value} {kw : List (Str × Value)} (ho : s.heap.get? p = some (methodObj f self))
  (h : codeC (model prog w) A (.call f ⟨self :: pos, kw⟩) R s) : codeC (model prog w) A (.call (.ref p) ⟨pos, kw⟩) R s := by
 refine codeC_of_tree ?_
 show wpC _ _ (callAny (.ref p) _) _ _ _
 unfold callAny
 refine wpC_bindA (wpAny_load ho ?_)
 cases f <;> exact wpC_pure ⟨rfl, h⟩
end
end Mine
namespace Mine
open PySem PySem.W PySem.Calls PySem.Spec PyProof.Rows Builtin
theorem bind_130 (p : Params) (a b : Value) : ∃ tag msg, ∃ k : PUnit → Sem (List (Str × Value)), bindArgs (fd130 p) ⟨[a, b], []⟩ = (rule tag >>= fun _ => (theBinderRefuses msg : Sem PUnit) >>= k) ∧ (Str.ofString msg).length ≤ sizeLine := ⟨_, _, _, rfl, Nat.le_of_ble_eq_true (by kernel_rfl)⟩
section
variable {α : Type} {M : Model} {A : Around} {E : Value → Shared → Prop} {s : Shared}
theorem wpC_refuse {msg : String} {Q : α → Shared → Prop} (hh : A.handled = none)
  (h : ∀ h' tk e, Heap.NewExc s.heap h' e "TypeError" → E (.ref e) { s with heap := h', toks := tk }) (hz : (Str.ofString msg).length ≤ sizeLine) : wpC M A (theBinderRefuses msg : Sem α) Q E s := by
 unfold theBinderRefuses
 refine wpC_bindA (wpAny_mkStr ?_ hz)
 unfold newExc newTuple
 refine wpC_bindA ?_
 refine wpAny_bind (wpAny_newObj_type ?_)
 refine wpAny_bind (m := firstArgMember _ _) (wpAny_of_eq (a := Value.none) (by simp only [firstArgMember, typeError_no_first]; rfl) ?_)
 rw [ownMembersOf_TypeError]
 refine wpAny_newObj_type (wpC_bind (wpC_mark (wpC_any ?_)))
 unfold raiseNew
 refine wpAny_bind (wpAny_handled ?_)
 rw [hh]
 first
  | refine wpAny_throw ?_
  | refine wpAny_bind (wpAny_pure (wpAny_throw ?_))
 exact h _ _ _ ⟨fun b o hb => Heap.get?_push_of_some _ (Heap.get?_push_of_some _ hb), Heap.get?_none_of_le (by simp), _, .ref s.heap.objs.size, Heap.get?_push_size _ rfl, rfl, by simp⟩
end
section
variable {w : World} {A : Around} {h : Heap} {g : Array GenState} {d : Drawn} {t : Nat} {os : OsState} {R : Result → Shared → Prop} {E : Value → Shared → Prop} {vals : List Value} {k : Nat}
theorem codeC_builtin {s : Shared} {id : String} {args : Args} {b : Builtin} (hb : entryFor table id = some b)
  (h : wpC (model PG w) (A.under (.builtin id args)) (b args)
   (fun fin s' => match fin with | .done f => R (.ok f) s' | .again c' => c'.quiet = true ∧ codeC (model PG w) A c' R s') (fun e s' => R (.error e) s') s) :
  codeC (model PG w) A (.builtin id args) R s := by
 refine codeC_of_tree ?_
 show wpC _ _ (match entryFor table id with | some b => b args | none => unsupported ((withoutEnding? id "#data").getD id)) _ _ _
 rw [hb]; exact h
theorem codeC_call_builtin {s : Shared} {id : String} {args : Args} {b : Builtin} (hq : (Code.builtin id args).quiet = true) (hb : entryFor table id = some b)
  (h : wpAny (model PG w) A.in1 (checkBuiltinCall id args) (fun _ s₁ => wpC (model PG w) (A.under (.builtin id args)) (b args)
   (fun fin s' => match fin with | .done f => R (.ok f) s' | .again c' => c'.quiet = true ∧ codeC (model PG w) A c' R s') (fun e s' => R (.error e) s') s₁)
   (fun e s' => R (.error e) s') s) : codeC (model PG w) A (.call (.builtin id) args) R s := by
 refine codeC_of_tree ?_
 show wpC _ A.in1 (do checkBuiltinCall id args; again (.builtin id args)) _ _ _
 refine wpC_bindA (wpAny_mono h (fun _ s₁ h₁ => wpC_pure (And.intro hq (codeC_builtin hb h₁))) fun _ _ h' => h')
theorem at130 (p : Params) : (HK p).lookup 130 = some (ob130 p) := rfl
theorem dt130 (p : Params) : (ob130 p).data = .func (fd130 p) := rfl
theorem code_130 (p : Params) : codeIn (HK p) (fd130 p).code (fd130 p).qualname = true := by rfl
theorem new_bad {a b : Value} {s : Shared} (hA : AOk (k + 1) A) (X : (HK w.params).In s.heap) (hE : ∀ h' tk e, Heap.NewExc s.heap h' e "TypeError" → R (.error (.ref e)) { s with heap := h', toks := tk }) :
  codeC (model PG w) A (.call (.ref 130) ⟨[a, b], []⟩) R s := by
 obtain ⟨tag, msg, kk, e, hz⟩ := bind_130 w.params a b
 refine codeC_function (o := ob130 w.params) (fd := fd130 w.params) (body := bd130 w.params) hA.room (X _ _ (at130 _)) (dt130 _) rfl rfl rfl (codeRec_of X (code_130 _)) ?_
 rw [e]
 exact wpC_bindA (wpAny_rule (wpC_bind (wpC_refuse (show A.in1.handled = none from hA.1) hE hz)))
theorem call_203 {g0 : Heap} (X0 : (HK w.params).In g0) (s0 : Sub g0 h)
  (hn : wpC (model PG w) (A.under (.builtin "type.__call__" ⟨.ref 203 :: vals, []⟩)) (call (.ref 130) (.ref 203 :: vals)) (fun v s' => ∃ n dx xs a b, v = .ref n ∧ vals = [a, b] ∧ s'.heap.get? n = some { cls := .ref 203, dict := some dx, data := .seq xs } ∧ Sub g0 s'.heap ∧ R (.ok (.ret (.ref n))) s')
   (fun e s' => R (.error e) s') ⟨h, g, d, t + 1, os⟩) :
  codeC (model PG w) A (.call (.ref 203) ⟨vals, []⟩) R ⟨h, g, d, t, os⟩ := by
 have X := X0.keeps s0
 have hC := X _ _ (at203 w.params)
 have call : Looks (model PG w) h (specialOf (.ref 203) "__call__") (some (.builtin "type.__call__")) := looks_specialIn X (by rfl)
 have typ : Looks (model PG w) h (isInstance (.ref 203) (.type "type")) true := looks_instIn X (by rfl)
 have hm : Looks (model PG w) h (mroOf (.ref 203)) [.ref 203, .ref 180, .type "tuple", .type "object"] := Looks.of_peek X (by rfl)
 have made : Looks (model PG w) h (Bind.madeBy (.ref 203)) none := Looks.of_peek X (by rfl)
 refine codeC_of_tree ?_
 show wpC _ _ (callAny (.ref 203) _) _ _ _
 unfold callAny
 refine wpC_bindA (wpAny_load hC ?_)
 show wpC _ _ (callAny.viaDunder (.ref 203) _) _ _ _
 unfold callAny.viaDunder
 refine wpC_bindA (call.at ?_)
 dsimp only
 rw [tc_bind]
 refine wpC_bindA (wpAny_pure (wpC_bindA (wpAny_pure ?_)))
 refine wpC_pure (a := Fin.again (.call (.builtin "type.__call__") ⟨.ref 203 :: vals, []⟩)) (And.intro rfl ?_)
 refine codeC_call_builtin (Code.quiet_builtin _ (by decide +kernel)) entry_typeCall (check_slot tc_kind tc_split typ (tc_args _ _ _) ?_)
 unfold Builtin.«type.__call__»
 show wpC _ _ (mroOf (.ref 203) >>= _) _ _ _
 refine wpC_bindA (hm.at ?_)
 show wpC _ _ (Bind.madeBy (.ref 203) >>= _) _ _ _
 refine wpC_bindA (made.at ?_)
 dsimp only
 refine wpC_bindA (new_203 X ?_)
 refine wpC_bind (wpC_holding (wpC_mono hn (fun v s' hv => ?_) fun e s' he => he))
 obtain ⟨n, dx, xs, a, b, rfl, rfl, e, s1, hR⟩ := hv
 have X1 := X0.keeps s1
 have t1 : Looks (model PG w) s'.heap (typeOf (.ref n)) (.ref 203) := (Looks.ld e).andThen .now
 have i1 : Looks (model PG w) s'.heap (isInstance (.ref n) (.ref 203)) true := t1.andThen (looks_mroIn X1 (by rfl))
 have q1 : Looks (model PG w) s'.heap (typeLookup (.ref 203) "__init__") (some (.builtin "object.__init__")) := looks_findIn X1 (by rfl)
 have b1 : Looks (model PG w) s'.heap (bindSpecial (.builtin "object.__init__") (.ref n)) (.builtin "object.__init__", [.ref n]) := Looks.of_pure (oi_bind _)
 obtain ⟨h', g', d', t', os'⟩ := s'
 refine wpC_bindA (i1.at ?_)
 dsimp only [Bool.not_true]
 show wpC _ _ (holding [.ref n] (callSpecial? (.ref n) "__init__" [a, b] []) >>= _) _ _ _
 refine wpC_any ?_
 unfold callSpecial? specialOf
 iterate 8 try lk
 dsimp only at e s1 hR X1 b1
 refine b1.at ?_
 dsimp only [List.cons_append, List.nil_append]
 refine wpAny_bind (wpAny_call (oi_203 X1 e (wpAny_pure ?_)))
 dsimp only
 exact wpAny_pure hR
theorem AOk.tc {A : Around} {vals : List Value} (x : AOk (k + 1) A) : AOk k (A.under (.builtin "type.__call__" ⟨.ref 203 :: vals, []⟩)) := by
 refine ⟨x.1, ?_, ?_⟩
 ·have := x.2.1
  show A.depth + (Code.builtin "type.__call__" ⟨.ref 203 :: vals, []⟩).weight + k < _
  rw [show (Code.builtin "type.__call__" ⟨.ref 203 :: vals, []⟩).weight = 1 from rfl]; omega
 ·have := x.2.2
  show A.units + (Code.builtin "type.__call__" ⟨.ref 203 :: vals, []⟩).cUnits + 10 * k + 100 < _
  rw [show (Code.builtin "type.__call__" ⟨.ref 203 :: vals, []⟩).cUnits = 1 from rfl]; omega
theorem make_bad {a : Value} {s : Shared} (hA : AOk (k + 2) A) (X : (HK w.params).In s.heap) (hE : ∀ h' tk e, Heap.NewExc s.heap h' e "TypeError" → R (.error (.ref e)) { s with heap := h', toks := tk }) :
  codeC (model PG w) A (.call (.ref 203) ⟨[a], []⟩) R s := by
 obtain ⟨h, g, d, t, os⟩ := s
 refine call_203 X Sub.refl (wpC_call (new_bad (k := k) hA.tc X fun h' tk e hx => ?_))
 exact hE h' tk e hx
end
end Mine
namespace Mine
open PySem PySem.W PySem.Calls PySem.Spec PyProof.Rows Builtin
noncomputable abbrev prObj (dx : Addr) (xs : Array Value) : Obj := { cls := .ref 203, dict := some dx, data := .seq xs }
noncomputable def PrP (x y : Str) : Heap → Value → Prop := fun h v => ∃ n dx a b, v = .ref n ∧ h.get? n = some (prObj dx #[a, b]) ∧ h.get? dx = some emptyDict ∧ Rd h a (.str x) ∧ Rd h b (.str y)
theorem PrP.mono {x y : Str} : Mono (PrP x y) := fun g g' v s ⟨n, dx, a, b, e, h1, h2, h3, h4⟩ => ⟨n, dx, a, b, e, s _ _ h1, s _ _ h2, h3.mono s, h4.mono s⟩
section
variable {w : World} {A : Around} {h : Heap} {g : Array GenState} {d : Drawn} {t : Nat} {os : OsState} {R : Result → Shared → Prop} {E : Value → Shared → Prop} {k : Nat}
theorem method_tn {pl : Sem Bool} {Q : Value × List Value → Shared → Prop} {s : Shared} (X : (HK w.params).In s.heap) (h : Q (.builtin "tuple.__new__", []) { s with toks := s.toks + 1 }) : wpAny (model PG w) A (getMethod (.type "tuple") "__new__" pl) Q E s := by
 have ht : typeOf (.type "tuple") = pure (.type "type") := by kernel_rfl
 have hs : Manifest.isStub "tuple" = false := by decide +kernel
 have e : findCls (HK w.params) (.type "tuple") (.type "type") "__new__" = some (.val (.builtin "tuple.__new__")) := by rfl
 have LO : Looks (model PG w) s.heap (opaqueClassAbove (.type "tuple")) none := Looks.of_pure (by unfold opaqueClassAbove; dsimp only; rw [hs]; rfl)
 have L0 : Looks (model PG w) s.heap (typeOf (.type "tuple")) (.type "type") := Looks.of_pure ht
 have hg : findIn (HK w.params) (.type "type") "__getattribute__" = some (some (.builtin "type.__getattribute__")) := type_tga
 unfold getMethod specialOf
 refine wpAny_bind (wpAny_bind (L0.here ((looks_findIn X hg).here ?_)))
 dsimp only
 rw [if_pos canon_tga]
 refine wpAny_bind (wpAny_mono (Q := fun v => Q (v, [])) (E := E) ?_ (fun _ _ z => wpAny_pure z) fun _ _ z => z)
 exact cls_open X LO L0 hg (looks_hook X (r := none) (by rfl)) (by show subIn _ _ _ = _; rfl) e (wpAny_pure (handed_on (by rfl) h))
noncomputable def cdf203 (p : Params) : ClassData := clsOf (l := (HK p).lookup 203) rfl rfl
noncomputable def cdf180 (p : Params) : ClassData := clsOf (l := (HK p).lookup 180) rfl rfl
theorem sb_203 (X : (HK w.params).In h) : Looks (model PG w) h (Bind.staticBase (.ref 203)) (.type "tuple") := fun A Q E s kk q => by
 obtain ⟨h', g, d, t, os⟩ := s
 replace X : (HK w.params).In h' := X.keeps kk
 clear kk
 have hm : Looks (model PG w) h' (mroOf (.ref 203)) [.ref 203, .ref 180, .type "tuple", .type "object"] := Looks.of_peek X (by rfl)
 have m1 : Looks (model PG w) h' (Bind.madeBy (.ref 203)) none := Looks.of_peek X (by rfl)
 have m2 : Looks (model PG w) h' (Bind.madeBy (.ref 180)) none := Looks.of_peek X (by rfl)
 have m3 : Looks (model PG w) h' (Bind.madeBy (.type "tuple")) (some "tuple.__new__") := Looks.of_pure PySem.F.called_tuple.made
 have c1 : Looks (model PG w) h' (classData 203) (cdf203 w.params) := Looks.of_peek X (by rfl)
 have c2 : Looks (model PG w) h' (classData 180) (cdf180 w.params) := Looks.of_peek X (by rfl)
 have b1 : Looks (model PG w) h' (Builtin.Slots.bestBase (cdf203 w.params).bases) (.ref 180) := Looks.of_peek X (by rfl)
 have b2 : Looks (model PG w) h' (Builtin.Slots.bestBase (cdf180 w.params).bases) (.type "tuple") := Looks.of_peek X (by rfl)
 unfold Bind.staticBase
 refine wpAny_bind (hm.at ?_)
 simp only [List.forIn_cons]
 refine wpAny_bind (wpAny_bind (wpAny_bind (m1.at ?_)))
 dsimp only [Option.isSome]
 iterate 27 try lk
 exact q
theorem chk_tn {tp : Addr} (X : (HK w.params).In h) : Looks (model PG w) h (checkBuiltinCall "tuple.__new__" ⟨[.ref 203, .ref tp], []⟩) () := fun A Q E s kk q => by
 obtain ⟨h', g, d, t, os⟩ := s
 replace X : (HK w.params).In h' := X.keeps kk
 clear kk
 have hk : builtinKind "tuple.__new__" = some .builtinFn := by decide +kernel
 have hs : splitId "tuple.__new__" = some ("tuple", "__new__") := by decide +kernel
 have l2 : Looks (model PG w) h' (isType (.ref 203)) true := Looks.of_peek X (by rfl)
 have l3 : Looks (model PG w) h' (isSubtype (.ref 203) (.type "tuple")) true := Looks.of_peek X (by rfl)
 have l4 := sb_203 X
 have m3 : Looks (model PG w) h' (Bind.madeBy (.type "tuple")) (some "tuple.__new__") := Looks.of_pure PySem.F.called_tuple.made
 have ha : argsOk "tuple.__new__" ⟨[.ref 203, .ref tp], []⟩ := by unfold argsOk; kernel_rfl
 unfold checkBuiltinCall
 rw [hk]
 dsimp only
 rw [hs]
 dsimp only
 iterate 14 try lk
 have key : ∀ sg, Manifest.signature? "tuple.__new__" = some sg → Bind.checkArgs "tuple.__new__" sg ⟨[.ref 203, .ref tp], []⟩ = pure () := fun sg hsig => by
  simp only [argsOk, hsig] at ha; exact ha
 rw [key]
 ·exact wpAny_pure q
 ·kernel_rfl
theorem ptuple_new {tp : Addr} {a b : Value} (X : (HK w.params).In h) (ht : IsTup h tp #[a, b])
  (hq : ∀ h', Sub h h' → h'.get? h'.objs.size = none → R (.ok (.ret (.ref (h'.objs.size + 1)))) ⟨(h'.push emptyDict).push (prObj h'.objs.size #[a, b]), g, d, t, os⟩) :
  codeAny (model PG w) A (.call (.builtin "tuple.__new__") ⟨[.ref 203, .ref tp], []⟩) R ⟨h, g, d, t, os⟩ := by
 obtain ⟨o, ho, hc, nn, hd⟩ := ht
 have l1 := chk_tn (tp := tp) X
 have sb := sb_203 X
 have m3 : Looks (model PG w) h (Bind.madeBy (.type "tuple")) (some "tuple.__new__") := Looks.of_pure PySem.F.called_tuple.made
 have l2 : Looks (model PG w) h (isType (.ref 203)) true := Looks.of_peek X (by rfl)
 have l3 : Looks (model PG w) h (isSubtype (.ref 203) (.type "tuple")) true := Looks.of_peek X (by rfl)
 have l5 : Looks (model PG w) h (typeLookup (.ref 203) "__init__") (some (.builtin "object.__init__")) := looks_findIn X (by rfl)
 refine codeAny_call_builtin_code (Code.quiet_builtin _ (by decide +kernel)) (l1.at ?_)
 refine codeAny_builtin (entryFor_of_tree (by kernel_rfl) : entryFor table "tuple.__new__" = some Builtin.«tuple.__new__») ?_
 unfold Builtin.«tuple.__new__» Bind.madeHere noKeywords checkCount
 iterate 40 try (first | (with_reducible refine wpAny_collect_seq tp (T := "tuple") (.inr rfl) ho hc hd (fun h' s1 => ?_) (Nat.le_of_ble_eq_true rfl)) | lk)
 refine wpAny_mono (Q := fun v s' => v = .ref (h'.objs.size + 1) ∧ s' = ⟨(h'.push emptyDict).push (prObj h'.objs.size #[a, b]), g, d, t, os⟩) (E := fun _ _ => False) ?_ (fun v s' hv => ?_) fun _ _ e => e.elim
 ·have X2 : (HK w.params).In ((h'.push emptyDict).push (prObj h'.objs.size #[a, b])) := X.keeps fun b o e => Heap.get?_push_of_some _ (Heap.get?_push_of_some _ (s1 b o e))
  have cdl : Looks (model PG w) ((h'.push emptyDict).push (prObj h'.objs.size #[a, b])) (classHasDel 203) false := Looks.of_peek X2 (by rfl)
  unfold newObj newObjAsIs
  dsimp only
  rw [if_neg (show ¬ (#[a, b] : Array Value).size > sizeLine by show ¬ 2 > sizeLine; decide)]
  refine wpAny_bind (wpAny_alloc ?_)
  refine wpAny_bind (cdl.at ?_)
  refine wpAny_pure ?_
  exact ⟨by rw [Heap.size_push], rfl⟩
 ·obtain ⟨rfl, rfl⟩ := hv
  exact wpAny_pure (hq h' s1 (none_of_ge (Nat.le_refl _)))
end
section
variable {c : Cx} {g : Heap} {k : Nat}
theorem St.withA {s : Shared} (S : St c g s) (A : Around) : St { c with A := A } g s := ⟨S.sm, S.kp, S.fz, S.live, S.gl, S.vars, S.inW, S.own, S.loc, S.sto, S.eg, S.eb⟩
theorem gv_tn {o e1 e2 : Expr} {apos pos : Pos} {x y : Str} (hK : c.K = HK c.w.params) (ho : Does c (eval o c.env) (fun _ v => v = .type "tuple") g) (h1 : Does c (eval e1 c.env) (fun _ v => v = .ref 203) g) (h2 : Does c (eval e2 c.env) (RdP (.tuple [.str x, .str y])) g)
  (hbase : attributeBase o "__new__" c.env (eval o c.env) = eval o c.env) (hline : (apos.endLine == pos.line) = true)
  (hfew : ((backTo pos (starEach [e1, e2] c.env)).all (fun x => !x.1) && (backToKw pos (keywordEach [] c.env)).all (fun x => x.1.isSome) && decide ([e1, e2].length + ([] : List Keyword).length + (if ([] : List Keyword).isEmpty then 0 else 1) < 30)) = true)
  (hs1 : starEach [e1, e2] c.env = (false, eval e1 c.env) :: starEach [e2] c.env) (hs2 : starEach [e2] c.env = (false, eval e2 c.env) :: starEach [] c.env) (hp : (backTo pos (starEach [e2] c.env)).any (·.1) = false) :
  Does c (eval (.Call (.Attribute o "__new__" apos) [e1, e2] [] pos) c.env) (PrP x y) g := fun g₁ s Q E sg S kk => by
 refine call_gm (ho g₁ s _ E sg S fun g₂ s₂ ov S₂ sg₂ sh₂ e => ?_) hbase hline hfew
 subst e
 refine fun pl => method_tn ((hK ▸ S₂.gl.K).keeps S₂.fz.sub) ?_
 dsimp only
 have S₃ : St c g₂ { s₂ with toks := s₂.toks + 1 } := S₂.toks
 refine callWith_builtin1 ((ar_cons (P := fun _ v => v = .ref 203) (fun _ _ _ _ e => e) (h1.sub (sg.trans sg₂)) (ar_d (h2.sub (sg.trans sg₂)) ar_nil hs2) hs1) g₂ _ _ E Sub.refl S₃ fun g₄ s₄ vs S₄ sg₄ sh₄ q => ?_) hs1 hp
 obtain ⟨v, _, rfl, rfl, v2, _, rfl, r, rfl⟩ := q
 obtain ⟨tp, ws, rfl, ht, rl⟩ := Rd.isTup r
 obtain ⟨a, ws, rfl, ra, rl⟩ := rl.inv_cons
 obtain ⟨b, ws, rfl, rb, rl⟩ := rl.inv_cons
 rw [rl.inv_nil] at ht
 obtain ⟨hh, gg, dd, tt, oo⟩ := s₄
 refine wpAny_call (ptuple_new ((hK ▸ S₄.gl.K).keeps S₄.fz.sub) (isTup_mono ht S₄.fz.sub) fun h' s1 n0 => ?_)
 have S₅ : St c g₄ ⟨h', gg, dd, tt, oo⟩ := S₄.step ⟨_, _, rfl⟩ s1
 obtain ⟨g₆, S₆, sg₆, e₆⟩ := S₅.new (o := emptyDict) (tk := tt) rfl
 obtain ⟨g₇, S₇, sg₇, e₇⟩ := S₆.new (o := prObj h'.objs.size #[a, b]) (tk := tt) rfl
 have sz : (h'.push emptyDict).objs.size = h'.objs.size + 1 := Heap.size_push ..
 dsimp only at e₇ S₇
 rw [sz] at e₇
 exact kk g₇ _ _ S₇ (((sg₂.trans sg₄).trans sg₆).trans sg₇) ((((sh₂.trans sh₄).trans s1).trans Sub.push).trans Sub.push) ⟨_, _, a, b, rfl, e₇, sg₇ _ _ e₆, ra.mono (sg₆.trans sg₇), rb.mono (sg₆.trans sg₇)⟩
theorem call_130 {v1 v2 : Value} {x y : Str} (hK : c.K = HK c.w.params) (hA : AOk 2 c.A) (h1 : Rd g v1 (.str x)) (h2 : Rd g v2 (.str y)) : Does c (call (.ref 130) [.ref 203, v1, v2]) (PrP x y) g := by
 refine call_def (k := 1) (o := ob130 c.w.params) (fd := fd130 c.w.params) (body := bd130 c.w.params) (binds := [("_cls", .ref 203), ("name", v1), ("value", v2)]) [] hK hA rfl rfl (by rfl) rfl (by rfl) rfl rfl rfl rfl rfl rfl rfl rfl (fun L W O s₀ g' s' hW sg S => ?_)
 have hKc : (fnCx c (callEnvC (fd130 c.w.params) L 130) (bindM [("_cls", .ref 203), ("name", v1), ("value", v2)]) W O [] s₀).K = HK c.w.params := hK
 refine wpAny_execs_cons (wpAny_Expr (wpAny_Constant_str ?_))
 refine ex_return (P := PrP x y) (gv_tn hKc (gv_builtin (v := .type "tuple") rfl (by rw [hKc]; rfl) (by decide +kernel) (by decide) fun _ _ => rfl) (gv_name rfl rfl fun _ _ => rfl)
  (gv_tuple (ar_d (gv_var rfl rfl (h1.mono sg)) (ar_d (gv_var rfl rfl (h2.mono sg)) ar_nil)) (Nat.le_of_ble_eq_true rfl)) (by rfl) (by rfl) (by rfl) (by rfl) (by rfl) (by rfl)) S.toks fun g'' s'' v' sg' p S' sh => .of rfl (fun _ h => h) rfl S' sg' p
end
end Mine
namespace Mine
open PySem PySem.W PySem.Calls PySem.Spec PyProof.Rows Builtin
section
variable {c : Cx} {g : Heap} {k : Nat} {s : Shared}
theorem attr_strip {ex : Bool} {w : World} {A : Around} {E : Value → Shared → Prop} {Q : Value → Shared → Prop} (X : (HK w.params).In s.heap) (h : Q (.builtin "str.strip") { s with toks := s.toks + 1 }) : wpAny (model PG w) A (getAttr (.type "str") "strip" ex) Q E s := by
 have ht : typeOf (.type "str") = pure (.type "type") := by kernel_rfl
 have hs : Manifest.isStub "str" = false := by decide +kernel
 have e : findCls (HK w.params) (.type "str") (.type "type") "strip" = some (.val (.builtin "str.strip")) := by rfl
 have LO : Looks (model PG w) s.heap (opaqueClassAbove (.type "str")) none := Looks.of_pure (by unfold opaqueClassAbove; dsimp only; rw [hs]; rfl)
 have L0 : Looks (model PG w) s.heap (typeOf (.type "str")) (.type "type") := Looks.of_pure ht
 have hg : findIn (HK w.params) (.type "type") "__getattribute__" = some (some (.builtin "type.__getattribute__")) := type_tga
 exact cls_open X LO L0 hg (looks_hook X (r := none) (by rfl)) (by show subIn _ _ _ = _; rfl) e (wpAny_pure (handed_on (by rfl) h))
theorem gv_strip {x : Str} {p pos : Pos} (hK : c.K = HK c.w.params) (ho : Does c (eval (.Name x p) c.env) (fun _ v => v = .type "str") g) : Does c (eval (.Attribute (.Name x p) "strip" pos) c.env) (fun _ v => v = .builtin "str.strip") g := fun g₁ s Q E sg S kk => by
 rw [arm_eval_Attribute]
 refine wpAny_bind (ho g₁ s _ E sg S fun g₂ s₂ v S₂ sg₂ sh₂ e => ?_)
 subst e
 refine wpAny_bind (wpAny_standAt (wpAny_bind (wpAny_holding (attr_strip ((hK ▸ S₂.gl.K).keeps S₂.fz.sub) ?_))))
 exact wpAny_bind (wpAny_pure (wpAny_pure (kk g₂ _ _ S₂.toks sg₂ sh₂ rfl)))
theorem not_at_all {w : World} {A : Around} {E : Value → Shared → Prop} {Q : Bool → Shared → Prop} {M : Addr} (hM : s.TypeIs (.ref M) "map") (h : Q false s) : wpAny (model PG w) A (notIterableAtAll (.ref M)) Q E s := by
 unfold notIterableAtAll
 refine wpAny_bind (wpAny_specialOf hM MF.slot_map_iter.lookup ?_)
 exact wpAny_pure h
theorem dStrs_get {xs : List Str} {g : Heap} {vs : List Value} (h : Rds g vs (dStrs xs)) (k : Nat) (v : Value) (e : vs[k]? = some v) : ∃ t, v = .str (xs.getD k "") t := by
 have hl := h.length
 have hk : k < vs.length := (List.getElem?_eq_some_iff.mp e).1
 have hx : k < xs.length := by rw [hl] at hk; simpa [dStrs] using hk
 have hd : (dStrs xs)[k]? = some (.str (xs.getD k "")) := by
  show (xs.map PyData.str)[k]? = _
  rw [List.getElem?_map, getD_some' (d := ("" : Str)) hx]; rfl
 obtain ⟨v', e', r⟩ := h.get (i := k) hd
 rw [e] at e'; cases e'
 exact r.inv_str
theorem Rds.of_each {g : Heap} : ∀ {vs : List Value} {ds : List PyData}, vs.length = ds.length → (∀ (j : Nat) v d, vs[j]? = some v → ds[j]? = some d → Rd g v d) → Rds g vs ds
 | [], [], _, _ => .nil
 | v :: vs, d :: ds, hl, h => .cons (h 0 v d rfl rfl) (Rds.of_each (by simpa using hl) fun j v d a b => h (j + 1) v d (by simpa using a) (by simpa using b))
theorem St.starMap (S : St c g s) {f a b : Expr} {ppos : Pos} {xs : List Str} {Q : List Value → Shared → Prop} {E : Value → Shared → Prop} (hA : AOk (k + 1) c.A)
  (hf : Does c (eval f c.env) (fun _ v => v = .type "map") g) (ha : Does c (eval a c.env) (fun _ v => v = .builtin "str.strip") g) (hb : Does c (eval b c.env) (RdP (.list (dStrs xs))) g) (hz : ∀ x ∈ xs, x.length ≤ sizeLine) (hn : xs.length ≤ sizeLine)
  (he : eval (.Call f [a, b] [] ppos) c.env = (do callWith ppos (← eval f c.env) [] (backTo ppos (starEach [a, b] c.env)) (backToKw ppos (keywordEach [] c.env))))
  (hs1 : starEach [a, b] c.env = (false, eval a c.env) :: starEach [b] c.env) (hs2 : starEach [b] c.env = (false, eval b c.env) :: starEach [] c.env) (hp : (backTo ppos (starEach [b] c.env)).any (·.1) = false)
  (hq : ∀ g' s' vs, St c g' s' → Sub g g' → Sub s.heap s'.heap → Rds g' vs (dStrs (xs.map Txt.strip)) → Q vs s') :
  wpAny (model PG c.w) c.A (eval (.Call f [a, b] [] ppos) c.env) (fun v s₁ => StarOf (model PG c.w) c.A E v (fun vs s₂ => Q vs s₂) s₁) E s := by
 refine Call_ (hf g s _ E Sub.refl S fun g₂ s₂ v S₂ sg₂ sh₂ p => ?_) he
 subst p
 refine PyProof.Rows.callWith_type1 ((ar_cons (P := fun _ v => v = .builtin "str.strip") (fun _ _ _ _ e => e) (ha.sub sg₂) (ar_d (hb.sub sg₂) ar_nil hs2) hs1) g₂ _ _ E Sub.refl S₂ fun g₃ s₃ vs S₃ sg₃ sh₃ q => ?_) hs1 hp
 obtain ⟨v, _, rfl, rfl, l, _, rfl, r, rfl⟩ := q
 obtain ⟨l, ws, rfl, hl, rl⟩ := Rd.isList r
 refine call_map_2 (isList_mono hl S₃.fz.sub) fun h' M T i hM hT hi keep hin n1 n2 n3 => ?_
 have hTy : ({ s₃ with heap := h' } : Shared).TypeIs (.ref M) "map" := ⟨_, hM, rfl⟩
 refine not_at_all hTy ⟨rfl, ?_⟩
 have S₄ : St c g₃ { s₃ with heap := h' } := S₃.step Sm.heap keep
 have hgi : g₃.get? i = none := Sub.none S₃.fz.sub hin
 obtain ⟨oi, hoi, _⟩ := id hi
 have S₅ := S₄.addW (fp := [i]) (fun a q => by rw [List.mem_singleton.mp q]; exact ⟨hgi, oi, hoi⟩)
 have hiW : i ∉ c.W := fun q => by obtain ⟨o, e⟩ := S₃.live i q; rw [hin] at e; cases e
 have hi0 : c.s₀.heap.get? i = none := Sub.none S₃.kp hin
 obtain ⟨ol, hol, _⟩ := id hl
 have hsz : ws.toArray.size = xs.length := by rw [List.size_toArray, rl.length]; simp [dStrs]
 refine collect_map (n := ws.toArray.size) (Walks.mapStrip (prog := PG) (w := c.w) (M := M) (T := T) (i := i) (l := l) (xs := ws.toArray) (A := c.A.in1) hA.1 n1 n2 n3 xs (fun k v e => dStrs_get rl k v (by simpa using e)) fun k => ?_) (fun j s st => ⟨_, st.1, rfl⟩)
  ⟨hM, hT, hi, isList_mono hl (S₃.fz.sub.trans keep)⟩ (fun b hb => ?_) (.head _) (fun s' acc sm off hit => ?_) (by rw [hsz]; exact hn)
 ·by_cases hk : k < xs.length
  ·exact hz _ (getD_mem hk)
  ·rw [List.getD_eq_getElem?_getD, List.getElem?_eq_none (Nat.not_lt.mp hk)]; exact Nat.zero_le _
 ·rcases List.mem_cons.mp hb with rfl | hb
  ·exact Heap.lt_size hM
  rcases List.mem_cons.mp hb with rfl | hb
  ·exact Heap.lt_size hT
  rcases List.mem_cons.mp hb with rfl | hb
  ·exact Heap.lt_size hoi
  ·rw [List.mem_singleton.mp hb]; exact Heap.lt_size (keep _ _ (S₃.fz.sub _ _ hol))
 ·have S₆ : St c g₃ s' := S₅.dropW sm off (fun a q => by rw [List.mem_singleton.mp q]; exact ⟨hiW, hi0⟩) S₃.inW fun a q => (S₃.own a q).1
  have hacc : Rds g₃ acc.toList (dStrs (xs.map Txt.strip)) := by
   refine Rds.of_each (by rw [Array.length_toList, hit.1, hsz]; simp [dStrs]) fun j v d a b => ?_
   obtain ⟨t, rfl⟩ := hit.2 j v (by simpa using a)
   simp only [dStrs, List.getElem?_map, Option.map_map, Option.map_eq_some_iff] at b
   obtain ⟨y, e, rfl⟩ := b
   rw [List.getD_eq_getElem?_getD, e]
   exact Rd.str
  exact hq g₃ s' acc.toList S₆ (sg₂.trans sg₃) (fun b o e => off b o (fun q => by rw [List.mem_singleton.mp q] at e; have := (sh₂.trans sh₃) _ _ e; rw [hin] at this; cases this) (keep _ _ ((sh₂.trans sh₃) _ _ e))) hacc
end
end Mine
namespace Mine
open PySem PySem.W PySem.Calls PySem.Spec PyProof.Rows Builtin
section
variable {c : Cx} {g : Heap} {k : Nat} {s : Shared}
theorem St.makePair (S : St c g s) {A : Around} {R : Result → Shared → Prop} {v1 v2 : Value} {x y : Str} (hK : c.K = HK c.w.params) (hA : AOk 3 A) (h1 : Rd g v1 (.str x)) (h2 : Rd g v2 (.str y))
  (hq : ∀ g' s' v, St c g' s' → Sub g g' → Sub s.heap s'.heap → PrP x y g' v → R (.ok (.ret v)) s') : codeC (model PG c.w) A (.call (.ref 203) ⟨[v1, v2], []⟩) R s := by
 have X : (HK c.w.params).In g := hK ▸ S.gl.K
 obtain ⟨h, gg, d, t, os⟩ := s
 refine call_203 X S.fz.sub (wpC_any ?_)
 have S₁ : St { c with A := A.under (.builtin "type.__call__" ⟨[.ref 203, v1, v2], []⟩) } g ⟨h, gg, d, t + 1, os⟩ := (S.toks (tk := t + 1)).withA _
 refine call_130 (c := { c with A := A.under (.builtin "type.__call__" ⟨[.ref 203, v1, v2], []⟩) }) hK (AOk.tc (k := 2) hA) h1 h2 g _ _ _ Sub.refl S₁ fun g' s' v S' sg sh p => ?_
 obtain ⟨n, dx, a, b, rfl, e1, e2, r1, r2⟩ := id p
 exact ⟨n, dx, _, v1, v2, rfl, rfl, S'.fz.sub _ _ e1, sg.trans S'.fz.sub, hq g' s' _ (S'.withA c.A) sg sh p⟩
theorem St.starPair (S : St c g s) {x : Str} {p0 sp pos ppos : Pos} {f a b : Expr} {xs : List Str} {Q : Value → Shared → Prop} {E : Value → Shared → Prop} (hK : c.K = HK c.w.params) (hA : AOk 3 c.A)
  (hx : Does c (eval (.Name x p0) c.env) (fun _ v => v = .ref 203) g)
  (hf : Does c (eval f c.env) (fun _ v => v = .type "map") g) (ha : Does c (eval a c.env) (fun _ v => v = .builtin "str.strip") g) (hb : Does c (eval b c.env) (RdP (.list (dStrs xs))) g) (hz : ∀ x ∈ xs, x.length ≤ sizeLine) (hn : xs.length ≤ sizeLine)
  (he : eval (.Call f [a, b] [] ppos) c.env = (do callWith ppos (← eval f c.env) [] (backTo ppos (starEach [a, b] c.env)) (backToKw ppos (keywordEach [] c.env))))
  (hs1 : starEach [a, b] c.env = (false, eval a c.env) :: starEach [b] c.env) (hs2 : starEach [b] c.env = (false, eval b c.env) :: starEach [] c.env) (hp : (backTo ppos (starEach [b] c.env)).any (·.1) = false)
  (ok : ∀ y z, xs = [y, z] → ∀ g' s' v, St c g' s' → Sub g g' → Sub s.heap s'.heap → PrP (Txt.strip y) (Txt.strip z) g' v → Q v s')
  (bad : ∀ y, xs = [y] → ∀ g' s₁ h' tk e, St c g' s₁ → Sub g g' → Sub s.heap s₁.heap → Heap.NewExc s₁.heap h' e "TypeError" → E (.ref e) { s₁ with heap := h', toks := tk })
  (hl : (∃ y, xs = [y]) ∨ ∃ y z, xs = [y, z]) :
  wpC (model PG c.w) c.A (eval (.Call (.Name x p0) [.Starred (.Call f [a, b] [] ppos) sp] [] pos) c.env) Q E s := by
 rw [arm_eval_Call_Name']
 refine wpC_bindA (hx g s _ E Sub.refl S fun g₂ s₂ v S₂ sg₂ sh₂ e => ?_)
 subst e
 show wpC _ _ (callWith pos (.ref 203) [] [(true, (do let v ← eval (.Call f [a, b] [] ppos) c.env; standAt pos; pure v))] []) _ _ _
 refine wpC_callWith (P := fun h => (HK c.w.params).In h) (fun h X => keeps_K (by rfl) h X) (Nat.le_of_ble_eq_true rfl) (ks_lone (S₂.starMap (k := 2) hA (hf.sub sg₂) (ha.sub sg₂) (hb.sub sg₂) hz hn he hs1 hs2 hp fun g₃ s₃ vs S₃ sg₃ sh₃ r => ?_))
 refine ⟨(hK ▸ S₃.gl.K).keeps S₃.fz.sub, wpC_call ?_⟩
 rcases hl with ⟨y, rfl⟩ | ⟨y, z, rfl⟩
 ·obtain ⟨v1, ws, rfl, r1, r⟩ := r.inv_cons
  rw [r.inv_nil]
  exact make_bad (k := 1) hA ((hK ▸ S₃.gl.K).keeps S₃.fz.sub) fun h' tk e hx => bad y rfl g₃ s₃ h' tk e S₃ (sg₂.trans sg₃) (sh₂.trans sh₃) hx
 ·obtain ⟨v1, ws, rfl, r1, r⟩ := r.inv_cons
  obtain ⟨v2, ws, rfl, r2, r⟩ := r.inv_cons
  rw [r.inv_nil]
  exact S₃.makePair hK hA r1 r2 fun g' s' v S' sg sh p => ok y z rfl g' s' v S' ((sg₂.trans sg₃).trans sg) ((sh₂.trans sh₃).trans sh) p
end
noncomputable def ob197 (p : Params) : Obj := objOf (l := (HK p).lookup 197) rfl
noncomputable def fd197 (p : Params) : FuncData := fdOf (l := (HK p).lookup 197) rfl rfl
noncomputable def bd197 (p : Params) : List Stmt := bodyOf (fd := fd197 p) rfl
theorem at197 (p : Params) : (HK p).lookup 197 = some (ob197 p) := rfl
theorem dt197 (p : Params) : (ob197 p).data = .func (fd197 p) := rfl
theorem code_197 (p : Params) : codeIn (HK p) (fd197 p).code (fd197 p).qualname = true := by rfl
section
variable {c : Cx} {g : Heap} {k : Nat} {s : Shared}
theorem parse_body {L : Addr} {vt : Value} {t : Str} {W O : List Addr} {s₀ : Shared} {Q : Flow → Shared → Prop} {E : Value → Shared → Prop} (hK : c.K = HK c.w.params) (hA : AOk 3 (c.A.deeper (callEnvC (fd197 c.w.params) L 197)))
  (S : St (fnCx c (callEnvC (fd197 c.w.params) L 197) (bindM [("cls", .ref 203), ("text", vt)]) W O [] s₀) g s) (ht : Rd g vt (.str t)) (hz : t.length + 2 ≤ sizeLine)
  (hzs : ∀ x ∈ Txt.splitMax t "=" 1, x.length ≤ sizeLine) (hl : (∃ y, Txt.splitMax t "=" 1 = [y]) ∨ ∃ y z, Txt.splitMax t "=" 1 = [y, z])
  (ok : ∀ y z, Txt.splitMax t "=" 1 = [y, z] → ∀ g' s' v, St (fnCx c (callEnvC (fd197 c.w.params) L 197) (bindM [("cls", .ref 203), ("text", vt)]) W O [] s₀) g' s' → Sub g g' → Sub s.heap s'.heap → PrP (Txt.strip y) (Txt.strip z) g' v → Q (.ret v) s')
  (bad : ∀ y, Txt.splitMax t "=" 1 = [y] → ∀ g' s₁ h' tk e, St (fnCx c (callEnvC (fd197 c.w.params) L 197) (bindM [("cls", .ref 203), ("text", vt)]) W O [] s₀) g' s₁ → Sub g g' → Sub s.heap s₁.heap → Heap.NewExc s₁.heap h' e "TypeError" → E (.ref e) { s₁ with heap := h', toks := tk }) :
  wpC (model PG c.w) (c.A.deeper (callEnvC (fd197 c.w.params) L 197)) (execs (bd197 c.w.params) (callEnvC (fd197 c.w.params) L 197)) Q E s := by
 have hKc : (fnCx c (callEnvC (fd197 c.w.params) L 197) (bindM [("cls", .ref 203), ("text", vt)]) W O [] s₀).K = HK c.w.params := hK
 refine wpC_execs_cons (wpC_Return ?_)
 refine S.starPair (xs := Txt.splitMax t "=" 1) hKc hA (gv_name rfl rfl fun _ _ => rfl) (gv_builtin (v := .type "map") rfl (by rw [hKc]; rfl) (by decide +kernel) (by decide) fun _ _ => rfl)
  (gv_strip hKc (gv_builtin (v := .type "str") rfl (by rw [hKc]; rfl) (by decide +kernel) (by decide) fun _ _ => rfl))
  (gv_split_max (by decide) (by decide) hz (gv_var rfl rfl ht) gv_str gv_int) hzs (by rcases hl with ⟨y, e⟩ | ⟨y, z, e⟩ <;> rw [e] <;> exact Nat.le_of_ble_eq_true rfl) (by rfl) (by rfl) (by rfl) (by rfl) ok bad hl
end
end Mine
namespace Mine
open PySem PySem.W PySem.Calls PySem.Spec PyProof.Rows Builtin
noncomputable def FrOk (fr : List Env) (h : Heap) : Prop := ∀ env ∈ fr, env.scope.kind ≠ .module ∧ ∃ L o, env.frame = some L ∧ h.get? L = some o ∧ ∀ vs, o.data ≠ .fields vs
noncomputable abbrev frs (fr : List Env) : List Addr := fr.filterMap (·.frame)
theorem FrOk.sub {fr : List Env} {h h' : Heap} (x : FrOk fr h) (s : Sub h h') : FrOk fr h' := fun env m => let ⟨k, L, o, f, e, d⟩ := x env m; ⟨k, L, o, f, s _ _ e, d⟩
theorem FrOk.fun {h base : Heap} : ∀ {fr : List Env}, FrOk fr h → (∀ L ∈ frs fr, base.get? L = none) → h.FunFrames base fr
 | [], _, _ => trivial
 | env :: fr, x, hb => by
  obtain ⟨k, L, o, f, e, d⟩ := x env (.head _)
  exact ⟨k, ⟨L, o, f, hb L (List.mem_filterMap.mpr ⟨env, .head _, f⟩), e, d⟩, FrOk.fun (fun v m => x v (.tail _ m)) fun L m => hb L (by
   obtain ⟨v, mv, fv⟩ := List.mem_filterMap.mp m
   exact List.mem_filterMap.mpr ⟨v, .tail _ mv, fv⟩)⟩
theorem FrOk.at {fr : List Env} {h : Heap} (x : FrOk fr h) {L : Addr} (m : L ∈ frs fr) : ∃ o, h.get? L = some o ∧ ∀ vs, o.data ≠ .fields vs := by
 obtain ⟨env, me, f⟩ := List.mem_filterMap.mp m
 obtain ⟨_, L', o, f', e, d⟩ := x env me
 rw [f] at f'; cases f'
 exact ⟨o, e, d⟩
section
variable {M : Model} {A : Around} {E : Value → Shared → Prop} {s : Shared} {h₁ : Heap} {env : Env} {fr : List Env} {L e : Addr} {cls : String}
theorem leave_first {Q : Unit → Shared → Prop} (hfr : A.frames = some (env :: fr)) (ok : FrOk (env :: fr) h₁) (hf : env.frame = some L) (hx : Heap.NewExc h₁ s.heap e cls)
  (h : ∀ h'' a0, Heap.FlyingW (hideAll h₁ (frs (env :: fr))) fr e (.type cls) a0 h'' → h₁.UpToSlots h'' → Q () { s with heap := h'' }) : wpAny M A (leaving env (.ref e)) Q E s := by
 obtain ⟨ob, tp, he, hcls, hd⟩ := hx.there
 have hb : ∀ L ∈ frs (env :: fr), (hideAll h₁ (frs (env :: fr))).get? L = none := fun L m => hideAll_none _ m
 have ff : s.heap.FunFrames (hideAll h₁ (frs (env :: fr))) (env :: fr) := (ok.sub hx.keeps).fun hb
 have hen : (hideAll h₁ (frs (env :: fr))).get? e = none := Sub.none Sub.hide hx.new
 refine wpAny_leaving_firstW (a0 := tp) hfr ff hf he (fun b o q => hx.keeps b o (of_hideAll _ q)) hen hd rfl rfl fun h' hL => ?_
 obtain ⟨k1, ⟨_, _, k2⟩, k3, k4⟩ := hL
 exact h h' tp ⟨k1, hen, k2, by rw [← hcls]; exact k3⟩ ((Heap.UpToSlots.of_keeps hx.keeps).trans k4)
end
theorem sub_te : isSubtype (.type "TypeError") (.type "BaseException") = pure true := by rw [isSubtype_type]; kernel_rfl
theorem sub_te_te : isSubtype (.type "TypeError") (.type "TypeError") = pure true := by rw [isSubtype_type]; kernel_rfl
theorem nt_te : isSubtype (.type ((Manifest.find? "TypeError").elim "type" fun x => x.metatype)) (.type "tuple") = pure false := by
 rw [show ((Manifest.find? "TypeError").elim "type" fun x => x.metatype) = "type" from by kernel_rfl, isSubtype_type]; kernel_rfl
section
variable {c : Cx} {g : Heap} {s : Shared} {k : Nat}
theorem Vars.upto {env : Env} {m : Str → Option Value} {h h' : Heap} (x : Vars env m h) (s : ∀ a ∈ foot env, ∀ o, h.get? a = some o → ∃ sl, h'.get? a = some { o with slots := sl }) : Vars env m h' := by
 obtain ⟨ml, ⟨o, es, ep, ho, hd, r⟩, e⟩ := x.loc
 obtain ⟨sl, q⟩ := s _ (.head _) o ho
 refine ⟨x.fn, ⟨ml, ⟨_, es, ep, q, hd, r⟩, e⟩, fun y k c l => ?_, x.offL⟩
 obtain ⟨o, ho, hd⟩ := x.cel y k c l
 obtain ⟨sl, q⟩ := s _ (.tail _ (List.mem_map.mpr ⟨(y, c), PySem.mem_of_lookup l, rfl⟩)) o ho
 exact ⟨_, q, hd⟩
noncomputable def Upto (F : List Addr) (h h' : Heap) : Prop := (∀ b o, b ∉ F → h.get? b = some o → h'.get? b = some o) ∧ ∀ b o, h.get? b = some o → ∃ sl, b ∈ F → h'.get? b = some { o with slots := sl }
theorem Upto.at {F : List Addr} {h h' : Heap} (x : Upto F h h') {b : Addr} {o : Obj} (e : h.get? b = some o) : ∃ sl, h'.get? b = some { o with slots := sl } := by
 by_cases q : b ∈ F
 ·obtain ⟨sl, r⟩ := x.2 b o e; exact ⟨sl, r q⟩
 ·exact ⟨o.slots, x.1 b o q e⟩
theorem Upto.of_sub {F : List Addr} {h h' : Heap} (x : Sub h h') : Upto F h h' := ⟨fun b o _ e => x b o e, fun b o e => ⟨o.slots, fun _ => x b o e⟩⟩
theorem Upto.trans {F : List Addr} {a b d : Heap} (x : Upto F a b) (y : Upto F b d) : Upto F a d :=
 ⟨fun p o n e => y.1 p o n (x.1 p o n e), fun p o e => by
  obtain ⟨sl, r⟩ := x.at e
  obtain ⟨sl', r'⟩ := y.at r
  exact ⟨sl', fun _ => r'⟩⟩
theorem St.exc {F : List Addr} {s' : Shared} (S : St c g s) (hF : ∀ a ∈ F, a ∈ c.W) (sm : Sm s s') (u : Upto F s.heap s'.heap) : St { c with s₀ := anchor s' c.O } g s' :=
 ⟨⟨s'.heap, s'.toks, rfl⟩, Sub.hide, ⟨fun b o e => u.1 b o (fun q => by rw [S.fz.off b (hF b q)] at e; cases e) (S.fz.sub b o e), S.fz.off⟩, fun a m => let ⟨o, e⟩ := S.live a m; let ⟨sl, r⟩ := u.at e; ⟨_, r⟩, S.gl, S.vars.upto fun a _ o e => u.at e, S.inW,
  fun a m => ⟨(S.own a m).1, hideAll_none _ m⟩, S.loc, S.sto, S.eg, S.eb⟩
theorem St.backU {F : List Addr} {c' : Cx} {g' : Heap} {s' : Shared} (S : St c g s) (hF : ∀ a ∈ F, c.s₀.heap.get? a = none) (S' : St c' g' s') (hK : c'.K = c.K) (hW : ∀ a ∈ c.W, a ∈ c'.W) (sm : Sm s s') (u : Upto F s.heap s'.heap) : St c g' s' :=
 ⟨S.sm.trans sm, fun b o e => u.1 b o (fun q => by rw [hF b q] at e; cases e) (S.kp b o e), S'.fz.mono hW, fun a m => S'.live a (hW a m), hK ▸ S'.gl, S.vars.upto fun a _ o e => u.at e, S.inW, S.own, S.loc, S.sto, S.eg, S.eb⟩
end
end Mine
namespace Mine
open PySem PySem.W PySem.Calls PySem.Spec PyProof.Rows Builtin
section
variable {prog : Program} {w : World} {A : Around} {s : Shared}
theorem codeC_cells {R : Result → Shared → Prop} {a : Addr} {o : Obj} {fd : FuncData} {body : List Stmt} {vals : List Value} {binds : List (Str × Value)}
  (hroom : A.depth < recursionLimit) (ho : s.heap.get? a = some o) (hdata : o.data = .func fd) (hlim : s.heap.NoLimit) (hcd : s.heap.CodeRec fd.code fd.qualname)
  (hbody : fd.body = .stmts body) (hbind : bindArgs fd ⟨vals, []⟩ = pure binds) (hclo : fd.closure = [])
  (hkind : ∀ x ∈ binds, fd.scope.names.lookup x.1 = some .local ∨ (fd.scope.names.lookup x.1 = some .cell ∧ ((cellsFrom (s.heap.objs.size + 1) fd.scope.names []).lookup x.1).isSome = true))
  (h : ∀ s₁, InCallC s (callEnvC fd s.heap.objs.size a).locals (bindL (callEnvC fd s.heap.objs.size a).kindOf binds fun _ => none) (callEnvC fd s.heap.objs.size a).cells
    (bindC (callEnvC fd s.heap.objs.size a).kindOf binds fun _ => none) s₁ →
   wpC (model prog w) (A.deeper (callEnvC fd s.heap.objs.size a)) (execs body (callEnvC fd s.heap.objs.size a)) (fun f s' => R (.ok (.ret (match f with | .ret v => v | _ => .none))) s')
    (fun e s' => wpAny (model prog w) (A.deeper (callEnvC fd s.heap.objs.size a)) (leaving (callEnvC fd s.heap.objs.size a) e) (fun _ s'' => R (.error e) s'') (fun e' s'' => R (.error e') s'') s') s₁)
  (hco : fd.scope.isCoroutine = false := by rfl) (hgen : fd.scope.isGenerator = false := by rfl) (hk : fd.scope.kind = .function := by rfl) :
  codeC (model prog w) A (.call (.ref a) ⟨vals, []⟩) R s := by
 refine codeC_function hroom ho hdata hco hgen hbody hcd ?_
 rw [hbind, hclo]
 refine wpC_pure (wpAny_newFunctionEnv_cells hk hkind fun env he s' x => ?_)
 subst he
 exact ⟨hlim.keeps x.toInCall.keep, codeC_func (h s' x)⟩
end
section
variable {c : Cx} {g : Heap} {s : Shared} {k : Nat}
structure Came (fr : List Env) (s : Shared) (B : Heap) (e : Addr) (a0 : Value) (s' : Shared) : Prop where
 old : ∀ b o, b ∉ frs fr → s.heap.get? b = some o → B.get? b = some o
 fly : Heap.FlyingW B fr e (.type "TypeError") a0 s'.heap
 sm : Sm s s'
 up : Upto (frs fr) s.heap s'.heap
theorem St.call197 (S : St c g s) {fr : List Env} {R : Result → Shared → Prop} {vt : Value} {t : Str} (hK : c.K = HK c.w.params) (hA : AOk 4 c.A) (hfr : c.A.frames = some fr) (hF : FrOk fr s.heap) (ht : Rd g vt (.str t)) (hz : t.length + 2 ≤ sizeLine)
  (hzs : ∀ x ∈ Txt.splitMax t "=" 1, x.length ≤ sizeLine) (hl : (∃ y, Txt.splitMax t "=" 1 = [y]) ∨ ∃ y z, Txt.splitMax t "=" 1 = [y, z])
  (ok : ∀ y z, Txt.splitMax t "=" 1 = [y, z] → ∀ g' s' v, St c g' s' → Sub g g' → Sub s.heap s'.heap → PrP (Txt.strip y) (Txt.strip z) g' v → R (.ok (.ret v)) s')
  (bad : ∀ y, Txt.splitMax t "=" 1 = [y] → ∀ s' B e a0, Came fr s B e a0 s' → R (.error (.ref e)) s') :
  codeC (model PG c.w) c.A (.call (.ref 197) ⟨[.ref 203, vt], []⟩) R s := by
 have X := (hK ▸ S.gl.K : (HK c.w.params).In g).keeps S.fz.sub
 obtain ⟨_, _, _, _, T⟩ := S.gl.top
 refine codeC_cells (fd := fd197 c.w.params) (body := bd197 c.w.params) (binds := [("cls", .ref 203), ("text", vt)]) hA.room (X _ _ (at197 _)) (dt197 _) (T.nolimit.keeps S.fz.sub) (codeRec_of X (code_197 _)) rfl (by rfl) rfl (fun y hy => .inl ?_) (fun s₁ x => ?_) rfl rfl rfl
 ·rcases List.mem_cons.mp hy with rfl | hy
  ·rfl
  ·rw [List.mem_singleton.mp hy]; rfl
 have S₂ := fn_St (S := []) S rfl rfl rfl rfl x
 have kp0 : Sub s.heap s₁.heap := S₂.kp
 have hL : s.heap.get? s.heap.objs.size = none := none_of_ge (Nat.le_refl _)
 refine parse_body hK (AOk.deeper hA) S₂ ht hz hzs hl (fun y z e g' s' v S' sg sh p => ?_) fun y e g' s₂ h' tk ex S' sg sh hx => ?_
 ·exact ok y z e g' s' v (S.back S' rfl (fun b m => List.mem_append_right _ m) Sm.refl Sub.refl) sg (kp0.trans sh) p
 ·have fok : FrOk (callEnvC (fd197 c.w.params) s.heap.objs.size 197 :: fr) s₂.heap := fun env m => by
   rcases List.mem_cons.mp m with rfl | m
   ·refine ⟨(fun q => by cases (show ScopeKind.function = .module from q)), s.heap.objs.size, ?_⟩
    obtain ⟨ml, ⟨o, es, ep, ho, hd, _⟩, _⟩ := S'.vars.loc
    exact ⟨o, rfl, ho, fun vs q => by rw [hd] at q; cases q⟩
   ·exact (hF.sub (kp0.trans sh)) env m
  refine leave_first (h₁ := s₂.heap) (cls := "TypeError") (Around.frames_deeper hfr) fok rfl hx fun h'' a0 fl up => ?_
  have k2 : Sub s.heap s₂.heap := kp0.trans sh
  refine bad y e _ (hideAll s₂.heap (frs (callEnvC (fd197 c.w.params) s.heap.objs.size 197 :: fr))) ex a0 ⟨fun b o n q => hideAll_get _ (k2 b o q) fun m => ?_, fl, ?_, ?_⟩
  ·rcases List.mem_cons.mp (show b ∈ s.heap.objs.size :: frs fr from m) with rfl | m
   ·rw [hL] at q; cases q
   ·exact n m
  ·obtain ⟨h1, t1, e1⟩ := S'.sm
   have e1 : s₂ = { s with heap := h1, toks := t1 } := e1
   subst e1
   exact ⟨_, _, rfl⟩
  ·have keep : ∀ b o, b ∉ frs fr → s.heap.get? b = some o → h''.get? b = some o := fun b o n q => fl.1 b o (hideAll_get _ (k2 b o q) fun m => by
    rcases List.mem_cons.mp (show b ∈ s.heap.objs.size :: frs fr from m) with rfl | m
    ·rw [hL] at q; cases q
    ·exact n m)
   refine ⟨keep, fun b o q => ?_⟩
   by_cases m : b ∈ frs fr
   ·obtain ⟨o', e', d'⟩ := hF.at m
    rw [q] at e'; cases e'
    obtain ⟨sl, r⟩ := up b o (k2 b o q) d'
    exact ⟨sl, fun _ => r⟩
   ·exact ⟨o.slots, fun m' => absurd m' m⟩
end
end Mine
namespace Mine
open PySem PySem.W PySem.Calls PySem.Spec PyProof.Rows Builtin
theorem call_gmC {M : Model} {A : Around} {E : Value → Shared → Prop} {env : Env} {s : Shared} {o : Expr} {name : Str} {apos pos : Pos} {args : List Expr} {Q : Value → Shared → Prop}
  (h : wpAny M A (eval o env) (fun ov s₁ => ∀ pl : Sem Bool, wpAny M A (getMethod ov name pl) (fun fx s₂ => wpC M A (callWith pos fx.1 fx.2 (backTo pos (starEach args env)) (backToKw pos (keywordEach [] env))) Q E s₂) E s₁) E s)
  (hbase : attributeBase o name env (eval o env) = eval o env) (hline : (apos.endLine == pos.line) = true)
  (hfew : ((backTo pos (starEach args env)).all (fun x => !x.1) && (backToKw pos (keywordEach [] env)).all (fun x => x.1.isSome) && decide (args.length + ([] : List Keyword).length + (if ([] : List Keyword).isEmpty then 0 else 1) < 30)) = true) :
  wpC M A (eval (.Call (.Attribute o name apos) args [] pos) env) Q E s := by
 rw [arm_eval_Call, hbase]
 refine wpC_bindA (wpAny_mono h (fun ov s₁ h₁ => ?_) fun _ _ e => e)
 refine wpC_bind (wpC_standAt ?_)
 have hform : methodCallForm (args.length + ([] : List Keyword).length) (backTo pos (starEach args env)) (backToKw pos (keywordEach [] env)) = true := hfew
 have hpos : methodCallPos true o env apos pos = pure pos := by unfold methodCallPos; simp [hline]
 unfold methodCall
 rw [hform]
 refine wpC_bindA (wpAny_holding (wpAny_mono (h₁ _) (fun fx s₂ h₂ => ?_) fun _ _ x => x))
 exact wpC_of_eq hpos h₂
section
variable {c : Cx} {g : Heap} {s : Shared} {k : Nat}
theorem St.callParse (S : St c g s) {fr : List Env} {Q : Value → Shared → Prop} {E : Value → Shared → Prop} {o e : Expr} {apos pos : Pos} {t : Str} (hK : c.K = HK c.w.params) (hA : AOk 4 c.A) (hfr : c.A.frames = some fr) (hF : FrOk fr s.heap)
  (ho : Does c (eval o c.env) (fun _ v => v = .ref 203) g) (he : Does c (eval e c.env) (RdP (.str t)) g) (hz : t.length + 2 ≤ sizeLine)
  (hzs : ∀ x ∈ Txt.splitMax t "=" 1, x.length ≤ sizeLine) (hl : (∃ y, Txt.splitMax t "=" 1 = [y]) ∨ ∃ y z, Txt.splitMax t "=" 1 = [y, z])
  (hbase : attributeBase o "parse" c.env (eval o c.env) = eval o c.env) (hline : (apos.endLine == pos.line) = true)
  (hfew : ((backTo pos (starEach [e] c.env)).all (fun x => !x.1) && (backToKw pos (keywordEach [] c.env)).all (fun x => x.1.isSome) && decide ([e].length + ([] : List Keyword).length + (if ([] : List Keyword).isEmpty then 0 else 1) < 30)) = true)
  (hs : starEach [e] c.env = (false, eval e c.env) :: starEach [] c.env)
  (ok : ∀ y z, Txt.splitMax t "=" 1 = [y, z] → ∀ g' s' v, St c g' s' → Sub g g' → Sub s.heap s'.heap → PrP (Txt.strip y) (Txt.strip z) g' v → Q v s')
  (bad : ∀ y, Txt.splitMax t "=" 1 = [y] → ∀ s' B e a0, Came fr s B e a0 s' → E (.ref e) s') :
  wpC (model PG c.w) c.A (eval (.Call (.Attribute o "parse" apos) [e] [] pos) c.env) Q E s := by
 refine call_gmC (ho g s _ E Sub.refl S fun g₂ s₂ ov S₂ sg₂ sh₂ q => ?_) hbase hline hfew
 subst q
 intro pl
 have X₂ := (hK ▸ S₂.gl.K : (HK c.w.params).In g₂).keeps S₂.fz.sub
 refine method_cls X₂ (by rfl) (cls_bind (mc := .type "type") (g := .builtin "classmethod.__get__") (a := .ref 199) (obj := .none) (tp := .ref 203) X₂ (by rfl) (by rfl) (wpAny_call (cm_get (s := { s₂ with toks := s₂.toks + 1 }) (f := .ref 197) (rest := [.bool false]) X₂ (by rfl) (handed_on rfl ?_))))
 dsimp only
 obtain ⟨g₃, S₃, sg₃, e₃⟩ := S₂.new (o := methodObj (.ref 197) (.ref 203)) (tk := s₂.toks + 1) rfl
 have sh₃ : Sub s₂.heap (s₂.heap.push (methodObj (.ref 197) (.ref 203))) := Sub.push
 refine wpC_callWith (P := MethP (HK c.w.params) s₂.heap.objs.size 197 (.ref 203)) (fun h X => keeps_M (by rfl) h X) (by rw [hs]; exact Nat.le_of_ble_eq_true rfl) ?_
 rw [hs]
 refine evalArgs_plain (x := eval e c.env) (rest := []) ?_
 have ha : DoesA c pos [e] (PL [RdP (.str t)]) g₃ := ar_d (he.sub (sg₂.trans sg₃)) ar_nil hs
 unfold DoesA at ha
 rw [hs] at ha
 refine ha g₃ _ _ E Sub.refl S₃ fun g₄ s₄ vs S₄ sg₄ sh₄ q => ?_
 obtain ⟨vt, _, rfl, rt, rfl⟩ := q
 have X₄ := (hK ▸ S₄.gl.K : (HK c.w.params).In g₄).keeps S₄.fz.sub
 have hm : s₄.heap.get? s₂.heap.objs.size = some (methodObj (.ref 197) (.ref 203)) := S₄.fz.sub _ _ (sg₄ _ _ e₃)
 have k4 : Sub s.heap s₄.heap := (sh₂.trans sh₃).trans sh₄
 refine ⟨⟨hm, X₄⟩, wpC_call (codeC_method hm (S₄.call197 hK hA hfr (hF.sub k4) rt hz hzs hl (fun y z e g' s' v S' sg sh p => ok y z e g' s' v S' (((sg₂.trans sg₃).trans sg₄).trans sg) (k4.trans sh) p) fun y e s' B ex a0 cm => bad y e s' B ex a0 ⟨fun b o n q => cm.old b o n (k4 b o q), cm.fly, ?_, (Upto.of_sub k4).trans cm.up⟩))⟩
 exact (Sm.between S.sm S₄.sm).trans cm.sm
end
end Mine
namespace Mine
open PySem PySem.W PySem.Calls PySem.Spec PyProof.Rows Builtin
section
variable {c : Cx} {g : Heap} {s : Shared} {k : Nat}
theorem Came.upto {fr : List Env} {s s' : Shared} {B h' : Heap} {e : Addr} {a0 : Value} (cm : Came fr s B e a0 s') (hF : FrOk fr s.heap) (hB : B.StaysIn h') (u : s'.heap.UpToSlots h') : Upto (frs fr) s.heap h' := by
 refine ⟨fun b o n q => hB b o (cm.old b o n q), fun b o q => ?_⟩
 by_cases m : b ∈ frs fr
 ·obtain ⟨o', e', d'⟩ := hF.at m
  rw [q] at e'; cases e'
  obtain ⟨sl, r⟩ := cm.up.at q
  obtain ⟨sl', r'⟩ := u b _ r d'
  exact ⟨sl', fun _ => r'⟩
 ·exact ⟨o.slots, fun m' => absurd m' m⟩
theorem St.caught (S : St c g s) {fr outer : List Env} {B : Heap} {e : Addr} {a0 : Value} {s' : Shared} {np pos bp : Pos} {Q : Flow → Shared → Prop} {E : Value → Shared → Prop} (cm : Came fr s B e a0 s') (hfr : c.A.frames = some fr) (hfe : fr = c.env :: outer) (hf : c.env.frame = some c.env.locals) (hF : FrOk fr s.heap) (hW : ∀ a ∈ frs fr, a ∈ c.W)
  (hk : c.env.kindOf "TypeError" = some .globalImplicit) (hn : nsIn c.K mainGlobals "TypeError" = some none)
  (h : ∀ s'', St { c with s₀ := anchor s'' c.O } g s'' → Upto (frs fr) s.heap s''.heap → Sm s s'' → Q .brk s'') :
  wpAny (model PG c.w) c.A (noteFrame (.ref e) c.env) (fun _ s₂ => wpAny (model PG c.w) c.A (setFlight (.ref e) none) (fun _ s₃ =>
   wpAny (model PG c.w) c.A (handleBy (.ref e) c.env [.ExceptHandler (some (.Name "TypeError" np)) none [.Break bp] pos]) Q E s₃) E s₂) E s' := by
 have hfl := cm.fly
 rw [hfe] at hfl
 refine wpAny_looks_onW (hfr.trans (congrArg some hfe)) hf hfl fun h₄ hh₄ u₄ => ?_
 refine wpAny_landsW hh₄ fun h₅ hf₅ u₅ => ?_
 have U := cm.upto hF hf₅.1 (u₄.trans u₅)
 have sm₅ : Sm s { s' with heap := h₅ } := cm.sm.trans Sm.heap
 have S₅ := S.exc (s' := { s' with heap := h₅ }) hW sm₅ U
 obtain ⟨ob, hob, hobc⟩ := hf₅.there
 obtain ⟨_, _, mg, mb, T⟩ := S₅.gl.top
 refine wpAny_handleBy_builtin (X := "TypeError") (T := "TypeError") (b := true) sub_te nt_te sub_te_te ?_
 refine Name_function_global S₅.vars.fn hk (loadGlobal_builtin (mg := mg) (mb := mb) (by rw [S.eg]; exact T.g.keeps S₅.fz.sub) (mg_none_of S₅.gl.K T.g hn) (by rw [S.eb]; exact T.b.keeps S₅.fz.sub) ((T.builtins _ (by decide)).trans (by decide +kernel)) ⟨rfl, ⟨ob, hob, hobc⟩, ?_⟩)
 rw [if_pos rfl]
 refine lands_againW hf₅ fun h₆ hf₆ u₆ => ?_
 have U₆ := cm.upto hF hf₆.1 ((u₄.trans u₅).trans u₆)
 have sm₆ : Sm s { s' with heap := h₆ } := cm.sm.trans Sm.heap
 refine wpAny_execs_cons ?_
 exact wpAny_Break (h _ (S.exc (s' := { s' with heap := h₆ }) hW sm₆ U₆) U₆ sm₆)
end
end Mine
namespace Mine
open PySem PySem.W PySem.Calls PySem.Spec PyProof.Rows Builtin
section
variable {w : World} {A : Around} {h : Heap} {g : Array GenState} {d : Drawn} {t : Nat} {os : OsState} {R : Result → Shared → Prop} {E : Value → Shared → Prop} {n dx : Addr} {xs : Array Value}
theorem issub_203 {s : Shared} {Q : Value → Shared → Prop} (X : (HK w.params).In s.heap) (hq : Q (.bool true) s) : wpAny (model PG w) A (call (.builtin "issubclass") [.ref 203, .type "tuple"]) Q E s := by
 have l0 : ∀ M : Model, Looks M s.heap (Builtin.«issubclass.nested» ⟨[.ref 203, .type "tuple", rawInt 0], []⟩) (.done (.ret (.bool true))) := fun M => Looks.of_peek X (by kernel_rfl)
 refine call_issubclass (S := fun _ R s' => s' = s ∧ R (.ok (.ret (.bool true))) s') (fun _ _ _ _ s' hs => issubclass_outer ?_) ⟨rfl, hq⟩
 obtain ⟨rfl, hs⟩ := hs
 exact (l0 _).here hs
theorem type_of_pair {Q : Value → Shared → Prop} (X : (HK w.params).In h) (hn : h.get? n = some (prObj dx xs)) (hq : Q (.ref 203) ⟨h, g, d, t, os⟩) : wpAny (model PG w) A (call (.type "type") [.ref n]) Q E ⟨h, g, d, t, os⟩ := by
 have t1 : Looks (model PG w) h (typeOf (.ref n)) (.ref 203) := (Looks.ld hn).andThen .now
 refine wpAny_call (codeAny_of_tree ?_)
 show wpAny _ _ (callAny (.type "type") _) _ _ _
 refine wpAny_pure ⟨Code.quiet_builtin _ (by decide +kernel), codeAny_builtin entry_typeCall ?_⟩
 unfold Builtin.«type.__call__» shownTypeOf
 iterate 20 try lk
 exact wpAny_pure hq
theorem index_of {f i : Addr} {x : Int} {tk : Tok} {ex : Bool} {Q : Value → Shared → Prop} {s : Shared} {ox od : Obj} (X : (HK w.params).In s.heap) (h1 : (HK w.params).lookup f = some ox) (h2 : (HK w.params).lookup i = some od) (hc : ox.cls = .ref 78) (hn : notCls ox = true) (hd : ox.dict = some i)
  (hf : findObj (HK w.params) 78 (some od) "index" = some (.value (.int x tk))) (hq : Q (.int x tk) { s with toks := s.toks + 1 }) : wpAny (model PG w) A (getAttr (.ref f) "index" ex) Q E s :=
 get_value X ⟨X _ _ h1, hc, hn, by rw [hd]; exact X _ _ h2⟩ (by rfl) hf rfl hq
theorem method_tg {pl : Sem Bool} {Q : Value × List Value → Shared → Prop} {s : Shared} (X : (HK w.params).In s.heap) (h : Q (.builtin "tuple.__getitem__", []) { s with toks := s.toks + 1 }) : wpAny (model PG w) A (getMethod (.type "tuple") "__getitem__" pl) Q E s := by
 have ht : typeOf (.type "tuple") = pure (.type "type") := by kernel_rfl
 have hs : Manifest.isStub "tuple" = false := by decide +kernel
 have e : findCls (HK w.params) (.type "tuple") (.type "type") "__getitem__" = some (.val (.builtin "tuple.__getitem__")) := by rfl
 have LO : Looks (model PG w) s.heap (opaqueClassAbove (.type "tuple")) none := Looks.of_pure (by unfold opaqueClassAbove; dsimp only; rw [hs]; rfl)
 have L0 : Looks (model PG w) s.heap (typeOf (.type "tuple")) (.type "type") := Looks.of_pure ht
 have hg : findIn (HK w.params) (.type "type") "__getattribute__" = some (some (.builtin "type.__getattribute__")) := type_tga
 unfold getMethod specialOf
 refine wpAny_bind (wpAny_bind (L0.here ((looks_findIn X hg).here ?_)))
 dsimp only
 rw [if_pos canon_tga]
 refine wpAny_bind (wpAny_mono (Q := fun v => Q (v, [])) (E := E) ?_ (fun _ _ z => wpAny_pure z) fun _ _ z => z)
 exact cls_open X LO L0 hg (looks_hook X (r := none) (by rfl)) (by show subIn _ _ _ = _; rfl) e (wpAny_pure (handed_on (by rfl) h))
theorem item_pair {i : Nat} {tk : Tok} {v : Value} {Q : Value → Shared → Prop} (X : (HK w.params).In h) (hn : h.get? n = some (prObj dx xs)) (hi : xs[i]? = some v) (h2 : xs.size = 2) (hq : Q v ⟨h, g, d, t, os⟩) :
  wpAny (model PG w) A (call (.builtin "tuple.__getitem__") [.ref n, .int (i : Int) tk]) Q E ⟨h, g, d, t, os⟩ := by
 have t1 : Looks (model PG w) h (typeOf (.ref n)) (.ref 203) := (Looks.ld hn).andThen .now
 have i1 : Looks (model PG w) h (isInstance (.ref n) (.type "tuple")) true := t1.andThen (looks_mroIn X (by rfl))
 have hk : builtinKind "tuple.__getitem__" = some .slot := by decide +kernel
 have hs : splitId "tuple.__getitem__" = some ("tuple", "__getitem__") := by decide +kernel
 have ha : argsOk "tuple.__getitem__" ⟨[.ref n, .int (i : Int) tk], []⟩ := by unfold argsOk; kernel_rfl
 have en : entryFor table "tuple.__getitem__" = some Builtin.«tuple.__getitem__» := entryFor_of_tree (by kernel_rfl)
 have pl : plainId "tuple.__getitem__" = true := by decide +kernel
 refine wpAny_call (codeAny_call_builtin pl en (@check_slot (model PG w) _ _ _ "tuple.__getitem__" "tuple" "__getitem__" (.ref n) [.int (i : Int) tk] [] _ hk hs i1 ha ?_))
 unfold Builtin.«tuple.__getitem__»
 clear i1 hk hs ha en pl
 iterate 19 try lk
 refine wpAny_pure (wpAny_bind (wpAny_of_eq (a := .type "int") (by rfl) ?_))
 rw [show (Value.type "int" == Value.type "slice") = false from by decide]
 simp only [Bool.false_eq_true, if_false]
 refine wpAny_bind (wpAny_of_eq (a := some (.builtin "int.__index__")) (by first | rfl | kernel_rfl) ?_)
 simp only [Option.isNone, Bool.false_eq_true, if_false]
 refine wpAny_bind (wpAny_of_eq (a := (i : Int)) (by first | rfl | kernel_rfl) ?_)
 have hlt : i < 2 := by rw [← h2]; exact (Array.getElem?_eq_some_iff.mp hi).1
 have e1 : (decide ((i : Int) < -2 ^ 63) || decide ((i : Int) ≥ 2 ^ 63)) = false := by
  simp only [Bool.or_eq_false_iff, decide_eq_false_iff_not]; omega
 have e2 : (seqIndex? (i : Int) xs.size).bind (fun x => xs[x]?) = some v := by
  rw [h2]
  have : i = 0 ∨ i = 1 := by omega
  rcases this with rfl | rfl
  ·exact hi
  ·exact hi
 rw [e1, e2]
 exact wpAny_pure hq
end
end Mine
namespace Mine
open PySem PySem.W PySem.Calls PySem.Spec PyProof.Rows Builtin
section
variable {c : Cx} {g : Heap} {k : Nat} {s : Shared}
theorem call_defL {a : Addr} {o : Obj} {fd : FuncData} {body : List Stmt} {vals : List Value} {binds : List (Str × Value)} {P : Heap → Value → Prop} {K : Frag} (S : List Str) (hK : c.K = K) (hA : AOk (k + 1) c.A)
  (ho : K.lookup a = some o) (hd : o.data = .func fd) (hcd : codeIn K fd.code fd.qualname = true) (hbody : fd.body = .stmts body) (hbind : ∀ h : Heap, K.In h → Looks (model PG c.w) h (bindArgs fd ⟨vals, []⟩) binds) (hclo : fd.closure = [])
  (hg : fd.globals = mainGlobals) (hb : fd.builtins = builtinsNs) (hk : fd.scope.kind = .function) (hS : stOk fd.scope S = true) (hp : parOk fd.scope (binds.map (·.1)) = true) (hco : fd.scope.isCoroutine = false) (hgen : fd.scope.isGenerator = false)
  (h : ∀ L W O s₀ g' s', (∀ b ∈ c.W, b ∈ W) → Sub g g' → St (fnCx c (callEnvC fd L a) (bindM binds) W O S s₀) g' s' →
   wpAny (model PG c.w) (c.A.deeper (callEnvC fd L a)) (execs body (callEnvC fd L a)) (fun f s'' => Gives (fnCx c (callEnvC fd L a) (bindM binds) W O S s₀) s₀ g' P f s'') (fun _ _ => False) s') :
  Does c (call (.ref a) vals) P g := fun g₁ s Q E sg S₁ q => by
 subst hK
 have X := S₁.gl.K.keeps S₁.fz.sub
 obtain ⟨_, _, _, _, T⟩ := S₁.gl.top
 refine wpAny_call (codeAny_call_function hA.room (X _ _ ho) hd hco hgen hbody (codeRec_of X hcd) ((hbind _ X).here ?_))
 rw [hclo]
 refine wpAny_newFunctionEnv_cells hk (fun y hy => ?_) fun env he s₁ x => ?_
 ·have t := List.all_eq_true.mp hp y.1 (List.mem_map.mpr ⟨y, hy, rfl⟩)
  simp only [Bool.or_eq_true, beq_iff_eq] at t
  rcases t with t | t
  ·exact .inl t
  ·obtain ⟨b, hb⟩ := cellsFrom_has fd.scope.names (s.heap.objs.size + 1) (PySem.mem_of_lookup t)
   exact .inr ⟨t, by rw [hb]; rfl⟩
 ·subst he
  refine ⟨(T.nolimit.keeps S₁.fz.sub).keeps x.toInCall.keep, codeAny_func ?_⟩
  have S₂ := fn_St S₁ hk hS hg hb x
  refine wpAny_mono (h _ _ _ _ g₁ s₁ (fun b m => List.mem_append_right _ m) sg S₂) (fun f s' hf => ?_) fun _ _ e => e.elim
  obtain ⟨v, c', g'', rfl, hK, hW, hs, S₃, sg₃, p⟩ := hf
  exact q g'' s' v (S₁.back S₃ hK (fun b m => hW b (List.mem_append_right _ m)) (by rw [hs]; exact Sm.refl) (by rw [hs]; exact Sub.refl)) sg₃ (by
   have := S₃.kp
   rw [hs] at this
   exact this) p
end
noncomputable def ob61 (p : Params) : Obj := objOf (l := (HK p).lookup 61) rfl
noncomputable def fd61 (p : Params) : FuncData := fdOf (l := (HK p).lookup 61) rfl rfl
noncomputable def bd61 (p : Params) : List Stmt := bodyOf (fd := fd61 p) rfl
theorem bind_61 {w : World} {h : Heap} {a b d : Value} (X : (HK w.params).In h) : Looks (model PG w) h (bindArgs (fd61 w.params) ⟨[a, b, d], []⟩) [("self", a), ("obj", b), ("objtype", d)] := Looks.of_peek X (by rfl)
section
variable {c : Cx} {g : Heap} {k : Nat} {s : Shared}
theorem gv_index {e : Expr} {f i : Addr} {x : Int} {tk : Tok} {pos : Pos} {ox od : Obj} (hK : c.K = HK c.w.params) (he : Does c (eval e c.env) (fun _ v => v = .ref f) g) (h1 : (HK c.w.params).lookup f = some ox) (h2 : (HK c.w.params).lookup i = some od) (hc : ox.cls = .ref 78) (hn : notCls ox = true) (hd : ox.dict = some i)
  (hf : findObj (HK c.w.params) 78 (some od) "index" = some (.value (.int x tk))) (hb : attributeBase e "index" c.env (eval e c.env) = eval e c.env) (hl : ∀ o r, letTemporaryGo e o r = pure ()) : Does c (eval (.Attribute e "index" pos) c.env) (fun _ v => v = .int x tk) g := fun g₁ s Q E sg S kk => by
 rw [arm_eval_Attribute, hb]
 refine wpAny_bind (he g₁ s _ E sg S fun g₂ s₂ v S₂ sg₂ sh₂ e => ?_)
 subst e
 refine wpAny_bind (wpAny_standAt (wpAny_bind (wpAny_holding (index_of ((hK ▸ S₂.gl.K).keeps S₂.fz.sub) h1 h2 hc hn hd hf ?_))))
 rw [hl]
 exact wpAny_bind (wpAny_pure (wpAny_pure (kk g₂ _ _ S₂.toks sg₂ sh₂ rfl)))
theorem gv_tg {o e1 e2 : Expr} {apos pos : Pos} {x y : Str} {i : Nat} {tk : Tok} {vn : Value} (hK : c.K = HK c.w.params) (p : PrP x y g vn) (hi : i < 2) (ho : Does c (eval o c.env) (fun _ v => v = .type "tuple") g) (h1 : Does c (eval e1 c.env) (fun _ v => v = vn) g) (h2 : Does c (eval e2 c.env) (fun _ v => v = .int (i : Int) tk) g)
  (hbase : attributeBase o "__getitem__" c.env (eval o c.env) = eval o c.env) (hline : (apos.endLine == pos.line) = true)
  (hfew : ((backTo pos (starEach [e1, e2] c.env)).all (fun x => !x.1) && (backToKw pos (keywordEach [] c.env)).all (fun x => x.1.isSome) && decide ([e1, e2].length + ([] : List Keyword).length + (if ([] : List Keyword).isEmpty then 0 else 1) < 30)) = true)
  (hs1 : starEach [e1, e2] c.env = (false, eval e1 c.env) :: starEach [e2] c.env) (hs2 : starEach [e2] c.env = (false, eval e2 c.env) :: starEach [] c.env) (hp : (backTo pos (starEach [e2] c.env)).any (·.1) = false) :
  Does c (eval (.Call (.Attribute o "__getitem__" apos) [e1, e2] [] pos) c.env) (RdP (.str (if i = 0 then x else y))) g := fun g₁ s Q E sg S kk => by
 refine call_gm (ho g₁ s _ E sg S fun g₂ s₂ ov S₂ sg₂ sh₂ e => ?_) hbase hline hfew
 subst e
 refine fun pl => method_tg ((hK ▸ S₂.gl.K).keeps S₂.fz.sub) ?_
 dsimp only
 have S₃ : St c g₂ { s₂ with toks := s₂.toks + 1 } := S₂.toks
 refine callWith_builtin1 ((ar_cons (P := fun _ v => v = vn) (fun _ _ _ _ e => e) (h1.sub (sg.trans sg₂)) (ar_cons (P := fun _ v => v = .int (i : Int) tk) (fun _ _ _ _ e => e) (h2.sub (sg.trans sg₂)) ar_nil hs2) hs1) g₂ _ _ E Sub.refl S₃ fun g₄ s₄ vs S₄ sg₄ sh₄ q => ?_) hs1 hp
 obtain ⟨v, _, rfl, rfl, v2, _, rfl, rfl, rfl⟩ := q
 obtain ⟨n, dx, a, b, rfl, e1, e2, ra, rb⟩ := p
 obtain ⟨hh, gg, dd, tt, oo⟩ := s₄
 have sgs : Sub g g₄ := (sg.trans sg₂).trans sg₄
 have i2 : i = 0 ∨ i = 1 := by omega
 rcases i2 with rfl | rfl
 ·exact item_pair (i := 0) (v := a) ((hK ▸ S₄.gl.K).keeps S₄.fz.sub) (S₄.fz.sub _ _ (sgs _ _ e1)) rfl rfl (kk g₄ _ _ S₄ (sg₂.trans sg₄) (sh₂.trans sh₄) (ra.mono sgs))
 ·exact item_pair (i := 1) (v := b) ((hK ▸ S₄.gl.K).keeps S₄.fz.sub) (S₄.fz.sub _ _ (sgs _ _ e1)) rfl rfl (kk g₄ _ _ S₄ (sg₂.trans sg₄) (sh₂.trans sh₄) (rb.mono sgs))
theorem gv_none {kk : Nat} {pos : Pos} : Does c (eval (.Constant .none kk pos) c.env) (fun _ v => v = .none) g := fun g₁ s Q E sg S k => wpAny_Constant_none (k _ _ _ S Sub.refl Sub.refl rfl)
theorem gv_typeof {f e : Expr} {pos : Pos} {x y : Str} {vn : Value} (hK : c.K = HK c.w.params) (p : PrP x y g vn) (hf : Does c (eval f c.env) (fun _ v => v = .type "type") g) (he' : Does c (eval e c.env) (fun _ v => v = vn) g)
  (he : eval (.Call f [e] [] pos) c.env = (do callWith pos (← eval f c.env) [] (backTo pos (starEach [e] c.env)) (backToKw pos (keywordEach [] c.env))))
  (hs : starEach [e] c.env = (false, eval e c.env) :: starEach [] c.env) (hp : (backTo pos (starEach [] c.env)).any (·.1) = false) : Does c (eval (.Call f [e] [] pos) c.env) (fun _ v => v = .ref 203) g :=
 gv_call_t hf (ar_cons (P := fun _ v => v = vn) (fun _ _ _ _ e => e) he' ar_nil hs) (fun g₁ vs sg q => fun g₂ s Q E sg₂ S k => by
  obtain ⟨v, _, rfl, rfl, rfl⟩ := q
  obtain ⟨n, dx, a, b, rfl, e1, e2, ra, rb⟩ := p
  obtain ⟨hh, gg, dd, tt, oo⟩ := s
  exact type_of_pair ((hK ▸ S.gl.K).keeps S.fz.sub) (S.fz.sub _ _ (sg₂ _ _ (sg _ _ e1))) (k _ _ _ S Sub.refl Sub.refl rfl)) he hs hp
theorem gv_issub {f a b : Expr} {pos : Pos} (hK : c.K = HK c.w.params) (hf : Does c (eval f c.env) (fun _ v => v = .builtin "issubclass") g) (ha : Does c (eval a c.env) (fun _ v => v = .ref 203) g) (hb : Does c (eval b c.env) (fun _ v => v = .type "tuple") g)
  (he : eval (.Call f [a, b] [] pos) c.env = (do callWith pos (← eval f c.env) [] (backTo pos (starEach [a, b] c.env)) (backToKw pos (keywordEach [] c.env))))
  (hs : starEach [a, b] c.env = (false, eval a c.env) :: starEach [b] c.env) (hs2 : starEach [b] c.env = (false, eval b c.env) :: starEach [] c.env) (hp : (backTo pos (starEach [b] c.env)).any (·.1) = false) : Does c (eval (.Call f [a, b] [] pos) c.env) (RdP (.bool true)) g :=
 gv_call_b hf (ar_cons (P := fun _ v => v = .ref 203) (fun _ _ _ _ e => e) ha (ar_cons (P := fun _ v => v = .type "tuple") (fun _ _ _ _ e => e) hb ar_nil hs2) hs) (fun g₁ vs sg q => fun g₂ s Q E sg₂ S k => by
  obtain ⟨v, _, rfl, rfl, v2, _, rfl, rfl, rfl⟩ := q
  exact issub_203 ((hK ▸ S.gl.K).keeps S.fz.sub) (k _ _ _ S Sub.refl Sub.refl Rd.bool)) he hs hp
end
end Mine
namespace Mine
open PySem PySem.W PySem.Calls PySem.Spec PyProof.Rows Builtin
section
variable {c : Cx} {g : Heap} {k : Nat} {s : Shared}
theorem call_61 {f i : Addr} {j : Nat} {tk : Tok} {vn : Value} {x y : Str} {ox od : Obj} (hK : c.K = HK c.w.params) (hA : AOk 2 c.A) (p : PrP x y g vn) (hj : j < 2) (h1 : (HK c.w.params).lookup f = some ox) (h2 : (HK c.w.params).lookup i = some od) (hc : ox.cls = .ref 78) (hn : notCls ox = true) (hd : ox.dict = some i)
  (hf : findObj (HK c.w.params) 78 (some od) "index" = some (.value (.int (j : Int) tk))) : Does c (call (.ref 61) [.ref f, vn, .ref 203]) (RdP (.str (if j = 0 then x else y))) g := by
 refine call_defL (k := 1) (o := ob61 c.w.params) (fd := fd61 c.w.params) (body := bd61 c.w.params) (binds := [("self", .ref f), ("obj", vn), ("objtype", .ref 203)]) [] hK hA rfl rfl (by rfl) rfl (fun h X => bind_61 X) rfl rfl rfl rfl rfl rfl rfl rfl (fun L W O s₀ g' s' hW sg S => ?_)
 have hKc : (fnCx c (callEnvC (fd61 c.w.params) L 61) (bindM [("self", .ref f), ("obj", vn), ("objtype", .ref 203)]) W O [] s₀).K = HK c.w.params := hK
 have ovn : ∀ {g} {p}, Does (fnCx c (callEnvC (fd61 c.w.params) L 61) (bindM [("self", .ref f), ("obj", vn), ("objtype", .ref 203)]) W O [] s₀) (eval (.Name "obj" p) (callEnvC (fd61 c.w.params) L 61)) (fun _ v => v = vn) g := fun {g} {p} => gv_name rfl rfl fun _ _ => rfl
 have tup : ∀ {g} {p}, Does (fnCx c (callEnvC (fd61 c.w.params) L 61) (bindM [("self", .ref f), ("obj", vn), ("objtype", .ref 203)]) W O [] s₀) (eval (.Name "tuple" p) (callEnvC (fd61 c.w.params) L 61)) (fun _ v => v = .type "tuple") g := fun {g} {p} => gv_builtin (v := .type "tuple") rfl (by rw [hKc]; rfl) (by decide +kernel) (by decide) fun _ _ => rfl
 refine S.ite (x := false) (ts_compare1 (P₁ := fun _ v => v = vn) (P₂ := fun _ v => v = .none) (fun _ _ _ _ e => e) ovn gv_none fun g₁ a b _ pa pb => fun g₂ s Q E sg S k => ?_) fun g₁ s₁ sg₁ S₁ sh₁ => ?_
 ·obtain ⟨n, dx, _, _, rfl, _⟩ := p
  subst pa; subst pb
  exact PySem.wpAny_is_other (by rfl) (by intro q; cases q) (k _ _ _ S Sub.refl Sub.refl Rd.bool)
 rw [if_neg Bool.false_ne_true]
 refine wpAny_execs_nil ?_
 refine S₁.ite (x := false) (ts_not (b := true) (ts_value (gv_issub hKc (gv_builtin (v := .builtin "issubclass") rfl (by rw [hKc]; rfl) (by decide +kernel) (by decide) fun _ _ => rfl)
  (gv_typeof (x := x) (y := y) hKc (PrP.mono _ _ _ (sg.trans sg₁) p) (gv_builtin (v := .type "type") rfl (by rw [hKc]; rfl) (by decide +kernel) (by decide) fun _ _ => rfl) ovn (by rfl) (by rfl) (by rfl)) tup (by rfl) (by rfl) (by rfl) (by rfl)))) fun g₂ s₂ sg₂ S₂ sh₂ => ?_
 rw [if_neg Bool.false_ne_true]
 refine wpAny_execs_nil ?_
 refine ex_return (P := RdP (.str (if j = 0 then x else y))) (gv_tg hKc (PrP.mono _ _ _ ((sg.trans sg₁).trans sg₂) p) hj tup ovn (gv_index hKc (gv_name rfl rfl fun _ _ => rfl) h1 h2 hc hn hd hf (by rfl) (by intro _ _; rfl)) (by rfl) (by rfl) (by rfl) (by rfl) (by rfl) (by rfl)) S₂
  fun g'' s'' v' sg' p' S' sh => .of rfl (fun _ h => h) rfl S' ((sg₁.trans sg₂).trans sg') p'
noncomputable def ob172 (p : Params) : Obj := objOf (l := (HK p).lookup 172) rfl
noncomputable def ob171 (p : Params) : Obj := objOf (l := (HK p).lookup 171) rfl
noncomputable def ob175 (p : Params) : Obj := objOf (l := (HK p).lookup 175) rfl
noncomputable def ob174 (p : Params) : Obj := objOf (l := (HK p).lookup 174) rfl
theorem call_61_name {vn : Value} {x y : Str} (hK : c.K = HK c.w.params) (hA : AOk 2 c.A) (p : PrP x y g vn) : Does c (call (.ref 61) [.ref 172, vn, .ref 203]) (RdP (.str x)) g :=
 call_61 (j := 0) (ox := ob172 c.w.params) (i := 171) (od := ob171 c.w.params) hK hA p (by decide) rfl rfl rfl rfl rfl (by rfl)
theorem call_61_value {vn : Value} {x y : Str} (hK : c.K = HK c.w.params) (hA : AOk 2 c.A) (p : PrP x y g vn) : Does c (call (.ref 61) [.ref 175, vn, .ref 203]) (RdP (.str y)) g :=
 call_61 (j := 1) (ox := ob175 c.w.params) (i := 174) (od := ob174 c.w.params) hK hA p (by decide) rfl rfl rfl rfl rfl (by rfl)
end
section
variable {w : World} {A : Around} {E : Value → Shared → Prop} {h : Heap} {g : Array GenState} {d : Drawn} {tk : Nat} {os : OsState} {R : Result → Shared → Prop} {x dx : Addr} {ox od : Obj} {t : Tok}
theorem ga_203_open {name : Str} {expr : Bool} {fill : Bool} {Q : Value → Shared → Prop} (X : (HK w.params).In h) (I : InstAt h x ox 203 (some od))
  (hq : wpAny (model PG w) A.in1 (Builtin.«object.__getattribute__» ⟨[.ref x, .str name t], []⟩) (fun fin s' => ∃ v, fin = .done (.ret v) ∧ wpAny (model PG w) A (handedOut v) Q E s')
   (fun e s' => wpAny (model PG w) A (getattributeRaised (.ref x) (.str name t) (.ref 203) e none fill expr) Q E s') ⟨h, g, d, tk, os⟩) :
  wpAny (model PG w) A (getAttrBy (.ref x) (.str name t) fill expr) Q E ⟨h, g, d, tk, os⟩ := by
 have hc : ox.cls = .ref 203 := I.cls
 have t1 : Looks (model PG w) h (typeOf (.ref x)) (.ref 203) := hc ▸ (Looks.ld I.at_).andThen .now
 have l1 : Looks (model PG w) h (typeLookup (.ref 203) "__getattribute__") (some (.builtin "tuple.__getattribute__")) := looks_findIn X (by rfl)
 have l2 : Looks (model PG w) h (typeLookup (.ref 203) "__getattr__") none := looks_findIn X (by rfl)
 have l3 : Looks (model PG w) h (bindSpecial (.builtin "tuple.__getattribute__") (.ref x)) (.builtin "tuple.__getattribute__", [.ref x]) := Looks.of_peek X (by rfl)
 have l4 : Looks (model PG w) h (isInstance (.ref x) (.type "tuple")) true := t1.andThen (looks_mroIn X (by rfl))
 have hk : builtinKind "tuple.__getattribute__" = some .slot := by decide +kernel
 have hs : splitId "tuple.__getattribute__" = some ("tuple", "__getattribute__") := by decide +kernel
 have ha : argsOk "tuple.__getattribute__" ⟨[.ref x, .str name t], []⟩ := by unfold argsOk; kernel_rfl
 have en : entryFor table "tuple.__getattribute__" = some Builtin.«object.__getattribute__» := entryFor_alias (id' := "object.__getattribute__") (by kernel_rfl) (by decide +kernel) (by decide +kernel) (by kernel_rfl)
 have pl : plainId "tuple.__getattribute__" = true := by decide +kernel
 unfold getAttrBy
 refine wpAny_holding (wpAny_bind (t1.at (wpAny_bind (l1.at ?_))))
 dsimp only
 rw [show (onTheHeap (.ref 203) && (Value.builtin "tuple.__getattribute__" == Value.builtin "object.__getattribute__")) = false by decide +kernel]
 unfold getAttrByItsOwn hookBefore callGetattribute boundAndCalled
 refine wpAny_bind (l2.at (wpAny_bind (wpAny_attempt (wpAny_holding ?_))))
 rw [show (expr && onTheHeap (.builtin "tuple.__getattribute__")) = false by cases expr <;> rfl]
 show wpAny _ _ (bindSpecial (.builtin "tuple.__getattribute__") (.ref x) >>= _) _ _ _
 refine wpAny_bind (l3.at ?_)
 refine wpAny_call (codeAny_call_builtin pl en ?_)
 refine @check_slot (model PG w) _ _ _ "tuple.__getattribute__" "tuple" "__getattribute__" (.ref x) [.str name t] [] _ hk hs l4 ha ?_
 refine wpAny_mono hq (fun fin s' z => ?_) fun _ _ z => z
 obtain ⟨v, rfl, z⟩ := z
 exact z
end
section
variable {c : Cx} {g : Heap} {k : Nat} {s : Shared}
theorem gv_getter {e : Expr} {name : Str} {pos : Pos} {f : Addr} {vn : Value} {x y z : Str} (hK : c.K = HK c.w.params) (hA : AOk 3 c.A) (p : PrP x y g vn) (he : Does c (eval e c.env) (fun _ v => v = vn) g)
  (hfo : ∀ od : Obj, findObj (HK c.w.params) 203 (some od) name = some (.bind (.ref 61) (.ref f))) (hcall : ∀ c' g', c'.K = c.K → c'.w = c.w → AOk 2 c'.A → Sub g g' → Does c' (call (.ref 61) [.ref f, vn, .ref 203]) (RdP (.str z)) g')
  (hb : attributeBase e name c.env (eval e c.env) = eval e c.env) (hl : ∀ o r, letTemporaryGo e o r = pure ()) : Does c (eval (.Attribute e name pos) c.env) (RdP (.str z)) g := fun g₁ s Q E sg S kk => by
 rw [arm_eval_Attribute, hb]
 refine wpAny_bind (he g₁ s _ E sg S fun g₂ s₂ v S₂ sg₂ sh₂ q => ?_)
 subst q
 refine wpAny_bind (wpAny_standAt (wpAny_bind (wpAny_holding ?_)))
 have X := (hK ▸ S₂.gl.K : (HK c.w.params).In g₂).keeps S₂.fz.sub
 obtain ⟨n, dx, a, b, rfl, e1, e2, ra, rb⟩ := id p
 have I : InstAt s₂.heap n (prObj dx #[a, b]) 203 (some emptyDict) := ⟨S₂.fz.sub _ _ (sg₂ _ _ (sg _ _ e1)), rfl, rfl, S₂.fz.sub _ _ (sg₂ _ _ (sg _ _ e2))⟩
 have L1 := looks_find (M := model PG c.w) X I (hfo emptyDict)
 have L0 := I.type (M := model PG c.w)
 obtain ⟨h, gg, d, t, os⟩ := s₂
 unfold getAttr
 refine wpAny_bind (wpAny_mkText (ga_203_open X I ?_))
 unfold Builtin.«object.__getattribute__»
 refine wpAny_bind (wpAny_of_eq (a := (.ref n, [.str name t])) (by first | rfl | kernel_rfl) ?_)
 dsimp only
 refine wpAny_bind (wpAny_pure (wpAny_bind (L0.at (wpAny_bind (L1.at ?_)))))
 dsimp only
 show wpAny _ _ (holding [.ref f] (call (.ref 61) [.ref f, .ref n, .ref 203]) >>= ret) _ _ _
 have S₃ : St { c with A := c.A.in1 } g₂ ⟨h, gg, d, t + 1, os⟩ := (S₂.toks (tk := t + 1)).withA _
 refine wpAny_bind (wpAny_holding (hcall { c with A := c.A.in1 } g₂ rfl rfl (AOk.in1 hA) (sg.trans sg₂) g₂ _ _ _ Sub.refl S₃ fun g₄ s₄ v S₄ sg₄ sh₄ r => wpAny_pure ⟨v, rfl, ?_⟩))
 obtain ⟨u, rfl⟩ := Rd.inv_str r
 refine handed_on rfl ?_
 rw [hl]
 exact wpAny_bind (wpAny_pure (wpAny_pure (kk g₄ _ _ (S₄.withA c.A) (sg₂.trans sg₄) (sh₂.trans sh₄) r)))
theorem gv_pname {e : Expr} {pos : Pos} {vn : Value} {x y : Str} (hK : c.K = HK c.w.params) (hA : AOk 3 c.A) (p : PrP x y g vn) (he : Does c (eval e c.env) (fun _ v => v = vn) g)
  (hb : attributeBase e "name" c.env (eval e c.env) = eval e c.env) (hl : ∀ o r, letTemporaryGo e o r = pure ()) : Does c (eval (.Attribute e "name" pos) c.env) (RdP (.str x)) g :=
 gv_getter hK hA p he (fun od => findObj_data (by rfl) (by rfl) (by rfl) (by rfl)) (fun c' g' hk hw hA' sg => call_61_name (x := x) (y := y) (by rw [hk, hw]; exact hK) hA' (PrP.mono _ _ _ sg p)) hb hl
theorem gv_pvalue {e : Expr} {pos : Pos} {vn : Value} {x y : Str} (hK : c.K = HK c.w.params) (hA : AOk 3 c.A) (p : PrP x y g vn) (he : Does c (eval e c.env) (fun _ v => v = vn) g)
  (hb : attributeBase e "value" c.env (eval e c.env) = eval e c.env) (hl : ∀ o r, letTemporaryGo e o r = pure ()) : Does c (eval (.Attribute e "value" pos) c.env) (RdP (.str y)) g :=
 gv_getter hK hA p he (fun od => findObj_data (by rfl) (by rfl) (by rfl) (by rfl)) (fun c' g' hk hw hA' sg => call_61_value (x := x) (y := y) (by rw [hk, hw]; exact hK) hA' (PrP.mono _ _ _ sg p)) hb hl
end
end Mine
namespace Mine
open PySem PySem.W PySem.Calls PySem.Spec PyProof.Rows
section
variable {c : Cx} {g : Heap} {s : Shared} {pos : Pos} {Q : Flow → Shared → Prop} {E : Value → Shared → Prop} {P : Heap → Value → Prop} {k : Nat} {rest : List Stmt}
theorem St.loopU (S : St c g s) {F : List Addr} {target iter : Expr} {body : List Stmt} {n : Nat} {V : Nat → Heap → Value → Prop} (hP : Does c (eval iter c.env) P g) (hI : ∀ g' x, Sub g g' → P g' x → DoesIt c target (pyIter x) n V g')
  (Inv : Nat → (Str → Option Value) → Heap → Heap → Prop) (B : (Str → Option Value) → Heap → Heap → Prop) (h0 : Inv 0 c.m g s.heap)
  (stab : ∀ i m g h g' h', Inv i m g h → Sub g g' → (∀ a ∈ c.O, ∀ o, h.get? a = some o → h'.get? a = some o) → Inv i m g' h')
  (turn : ∀ W' s₀' i m g₁ s₁ v, (∀ a ∈ c.W, a ∈ W') → i < n → St { c with m := m, W := W', s₀ := s₀' } g₁ s₁ → Inv i m g₁ s₁.heap → V i g₁ v → Sub g g₁ → Sub c.s₀.heap s₁.heap →
   wpAny (model PG c.w) c.A (PySem.assign target c.env v) (fun _ s₂ => wpC (model PG c.w) c.A (execs body c.env) (fun f s₃ => match f with
    | .next | .cont => ∃ m' g₂, St { c with m := m', W := W', s₀ := s₀' } g₂ s₃ ∧ Sub g₁ g₂ ∧ Inv (i + 1) m' g₂ s₃.heap
    | .brk => ∃ m' g₂ s₀'', St { c with m := m', W := W', s₀ := s₀'' } g₂ s₃ ∧ Sub g₁ g₂ ∧ B m' g₂ s₃.heap ∧ Sm s₀' s₃ ∧ Upto F s₀'.heap s₃.heap
    | .ret _ => False) (fun _ _ => False) s₂) (fun _ _ => False) s₁)
  (done : ∀ m g' s' s₀'', St { c with m := m, s₀ := s₀'' } g' s' → Sub g g' → (Inv n m g' s'.heap ∨ B m g' s'.heap) → Sm c.s₀ s' → Upto F c.s₀.heap s'.heap → wpC (model PG c.w) c.A (execs rest c.env) Q E s')
  (hs : ∀ x, foldedSetIterable iter c.env x = pure x := by intro _; rfl) :
  wpC (model PG c.w) c.A (execs (.For target iter body [] pos :: rest) c.env) Q E s := by
 refine wpC_execs_cons (wpC_For (hP g s _ E Sub.refl S fun g₁ s₁ x S₁ sg₁ sh₁ p => hI g₁ x sg₁ p g₁ s₁ _ E Sub.refl S₁ fun gI s₂ I fp J S₂ sg₂ sh₂ It0 j0 hf => ?_) hs)
 have hfW : ∀ a ∈ fp, a ∉ c.W := fun a m q => by obtain ⟨o, e⟩ := S₁.live a q; rw [(hf a m).2.1] at e; cases e
 have hf0 : ∀ a ∈ fp, c.s₀.heap.get? a = none := fun a m => Sub.none S₁.kp (hf a m).2.1
 have hff : ∀ a ∈ fp, a ∉ foot c.env := fun a m q => hfW a m (S.inW a q)
 have hfO : ∀ a ∈ fp, a ∉ c.O := fun a m q => hfW a m (S.own a q).1
 refine codeC_mono (codeC_forLoop (R := fun r s' => ∃ m g' s₀'', r = .ok .next ∧ St { c with m := m, s₀ := s₀'' } g' s' ∧ Sub g g' ∧ (Inv n m g' s'.heap ∨ B m g' s'.heap) ∧ Sm c.s₀ s' ∧ Upto F c.s₀.heap s'.heap)
  (fun k s' => ∃ i m g', k = n + 1 - i ∧ i ≤ n ∧ St { c with m := m, W := fp ++ c.W } g' s' ∧ Sub gI g' ∧ Inv i m g' s'.heap ∧ J i s'.heap) ?_ (n + 1)
  ⟨0, c.m, gI, rfl, Nat.zero_le _, S₂.addW fun a m => ⟨(hf a m).1, (hf a m).2.2⟩, Sub.refl, stab _ _ _ _ _ _ h0 (sg₁.trans sg₂) fun a _ o e => sh₂ _ _ (sh₁ _ _ e), j0⟩) fun r s' ⟨m, g', s₀'', e, h1, h2, h3, h4, h5⟩ => by rw [e]; exact done m g' s' s₀'' h1 h2 h3 h4 h5
 rintro k s₃ ⟨i, m, g₃, rfl, hi, S₃, sg₃, inv, j⟩
 by_cases hlt : i < n
 ·refine It0.item i s₃ _ _ hlt j (sg₃.trans S₃.fz.sub) fun v s₄ JM sm₄ b₄ j₄ own hV => ?_
  have S₄ : St { c with m := m, W := fp ++ c.W } g₃ s₄ := S₃.iter sm₄ b₄ fun a q => ⟨List.mem_append_left _ q, hf0 a q, hff a q⟩
  refine own s₄ _ _ j₄ fun s₅ sm₅ b₅ j₅ => ?_
  have S₅ : St { c with m := m, W := fp ++ c.W } g₃ s₅ := S₄.iter sm₅ b₅ fun a q => ⟨List.mem_append_left _ q, hf0 a q, hff a q⟩
  obtain ⟨S₆, sg₆⟩ := S₅.grow
  have kO : ∀ a ∈ c.O, ∀ o, s₃.heap.get? a = some o → s₅.heap.get? a = some o := fun a q o e => b₅.keep (fun z => hfO a z q) (b₄.keep (fun z => hfO a z q) e)
  have hv : V i (hideAll s₅.heap (fp ++ c.W)) v := hV _ (sg₃.trans sg₆) fun a o e e' => hideAll_get _ (b₅.keep (fun z => by obtain ⟨o', z'⟩ := S₃.live a (List.mem_append_left _ z); rw [e'] at z'; cases z') e) fun z => by obtain ⟨o', z'⟩ := S₃.live a z; rw [e'] at z'; cases z'
  have t := turn (fp ++ c.W) (anchor s₅ c.O) i m _ s₅ v (fun a q => List.mem_append_right _ q) hlt S₆.anchored (stab _ _ _ _ _ _ inv sg₆ kO) hv (((sg₁.trans sg₂).trans sg₃).trans sg₆) S₆.kp
  have fin : ∀ m' g₂ s₇, St { c with m := m', W := fp ++ c.W, s₀ := anchor s₅ c.O } g₂ s₇ → Sub (hideAll s₅.heap (fp ++ c.W)) g₂ → St { c with m := m', W := fp ++ c.W } g₂ s₇ ∧ Sub gI g₂ ∧ J (i + 1) s₇.heap := fun m' g₂ s₇ S₇ sg₇ =>
   ⟨St.unanchor (c := { c with m := m, W := fp ++ c.W }) S₆ S₇, (sg₃.trans sg₆).trans sg₇, It0.frame _ _ _ j₅ (fun a q o e => S₇.kp a o (hideAll_get _ e (hfO a q))) ((sg₃.trans sg₆).trans S₆.fz.sub) (((sg₃.trans sg₆).trans sg₇).trans S₇.fz.sub)⟩
  refine wpAny_mono t (fun _ s₆ h₆ => wpC_mono h₆ (fun f s₇ h₇ => ?_) fun _ _ e => e.elim) fun _ _ e => e.elim
  cases f with
  | next =>
   obtain ⟨m', g₂, S₇, sg₇, i₇⟩ := h₇
   obtain ⟨x, y, z⟩ := fin m' g₂ s₇ S₇ sg₇
   exact ⟨n + 1 - (i + 1), turn_lt hlt, i + 1, m', g₂, rfl, hlt, x, y, i₇, z⟩
  | cont =>
   obtain ⟨m', g₂, S₇, sg₇, i₇⟩ := h₇
   obtain ⟨x, y, z⟩ := fin m' g₂ s₇ S₇ sg₇
   exact ⟨n + 1 - (i + 1), turn_lt hlt, i + 1, m', g₂, rfl, hlt, x, y, i₇, z⟩
  | brk =>
   obtain ⟨m', g₂, s₀'', S₇, sg₇, i₇, sm₇, u₇⟩ := h₇
   have k0 : Sub c.s₀.heap (anchor s₅ c.O).heap := fun b o e => hideAll_get _ (S₆.kp b o e) fun q => by rw [(S.own b q).2] at e; cases e
   refine ⟨m', g₂, s₀'', rfl, St.reW (c := { c with m := m', W := fp ++ c.W, s₀ := s₀'' }) S₇ (fun a q => List.mem_append_right _ q) S.inW (fun a q => (S.own a q).1), ((((sg₁.trans sg₂).trans sg₃).trans sg₆).trans sg₇), .inr i₇, S₆.sm.trans ?_, (Upto.of_sub k0).trans u₇⟩
   obtain ⟨h, tk, e⟩ := sm₇
   exact ⟨h, tk, e⟩
  | ret v => exact h₇.elim
 ·have hin : i = n := by omega
  subst hin
  refine It0.done s₃ _ _ j (sg₃.trans S₃.fz.sub) fun s₄ sm₄ b₄ => ?_
  have S₅ := St.dropW (c := { c with m := m }) S₃ sm₄ b₄ (fun a q => ⟨hfW a q, hf0 a q⟩) S.inW fun a q => (S.own a q).1
  exact ⟨m, g₃, c.s₀, rfl, S₅, (sg₁.trans sg₂).trans sg₃, .inl (stab _ _ _ _ _ _ inv Sub.refl fun a q o e => b₄ a o (fun z => hfO a z q) e), S₅.sm, Upto.of_sub S₅.kp⟩
end
end Mine
namespace Mine
open PySem PySem.W PySem.Calls PySem.Spec PyProof.Rows Builtin
noncomputable abbrev cutEq (r : Str) : List Str := Txt.splitMax r "=" 1
noncomputable def peelF : Nat → Str → List Str
 | 0, r => [r]
 | n + 1, r => match cutEq r with
  | [a, b] => Txt.strip a :: peelF n (Txt.strip b)
  | _ => [r]
noncomputable def peeled (x : Str) : List Str := peelF (x.length + 1) x
theorem len_sub (x : Str) (i j : Nat) : (Builtin.Str.strSub x i j).length ≤ x.length := by
 show (x.cps.extract i j).size ≤ x.cps.size
 rw [Array.size_extract]; omega
theorem cutEq_len (r : Str) : (∃ y, cutEq r = [y] ∧ y.length ≤ r.length) ∨ ∃ y z, cutEq r = [y, z] ∧ y.length ≤ r.length ∧ z.length ≤ r.length := by
 unfold cutEq Txt.splitMax
 split
 ·exact .inl ⟨r, rfl, Nat.le_refl _⟩
 ·split
  ·exact .inl ⟨r, rfl, Nat.le_refl _⟩
  ·have hl := PySem.StrLaws.occ_length_le r "=" 0 r.length (limitOf r 1)
   have e1 : limitOf r 1 = 1 := rfl
   rw [e1] at hl ⊢
   rename_i h1 h2
   rw [e1] at h2
   match ho : Builtin.Str.occurrences r "=" 0 r.length 1 with
   | [] => rw [ho] at h2; simp at h2
   | [i] => exact .inr ⟨_, _, rfl, len_sub _ _ _, len_sub _ _ _⟩
   | i :: j :: l => rw [ho] at hl; simp at hl
theorem peelF_two {n : Nat} {r y z : Str} (h : cutEq r = [y, z]) : peelF (n + 1) r = Txt.strip y :: peelF n (Txt.strip z) := by
 rw [peelF, h]
theorem peelF_one {n : Nat} {r y : Str} (h : cutEq r = [y]) : peelF (n + 1) r = [r] := by
 rw [peelF, h]
noncomputable def fd249 (p : Params) : FuncData := fdOf (l := (HK p).lookup 249) rfl rfl
noncomputable def ob249 (p : Params) : Obj := objOf (l := (HK p).lookup 249) rfl
noncomputable def bd249 (p : Params) : List Stmt := bodyOf (fd := fd249 p) rfl
noncomputable def en249 (p : Params) (L : Addr) : Env := callEnvC (fd249 p) L 249
noncomputable def ss249 : List Str := ["names", "rest", "turn", "pair"]
section
variable {c : Cx} {g : Heap} {s : Shared} {k : Nat}
theorem St.frOwn (S : St c g s) {fr : List Env} (hf : c.env.frame = some c.env.locals) (hF : FrOk fr s.heap) : FrOk (c.env :: fr) s.heap := fun env m => by
 rcases List.mem_cons.mp m with rfl | m
 ·obtain ⟨ml, ⟨o, es, ep, ho, hd, _⟩, _⟩ := S.vars.loc
  exact ⟨(fun q => by rw [S.vars.fn] at q; cases q), _, o, hf, ho, fun vs q => by rw [hd] at q; cases q⟩
 ·exact hF env m
theorem St.still (S : St c g s) {D : Addr} {ds : List PyData} (hDf : D ∉ foot c.env) (ac : AccL ds D g s.heap) : St (Mine.still c D) (hideAll s.heap (Mine.still c D).W) s ∧ Sub g (hideAll s.heap (Mine.still c D).W) ∧ Rd (hideAll s.heap (Mine.still c D).W) (.ref D) (.list ds) :=
 ⟨(S.toStill hDf).1, (S.toStill hDf).2, AccL.res D g s.heap _ ac (S.toStill hDf).2 fun o e => still_get o e⟩
theorem St.assignB (S : St c g s) {x : Str} {px pos : Pos} {e : Expr} {P : Heap → Value → Prop} {rest : List Stmt} {Q : Flow → Shared → Prop} {E : Value → Shared → Prop} (hx : x ∈ c.S) (he : Does c (eval e c.env) P g)
  (h : ∀ g' s' v, Sub g g' → P g' v → St { c with m := upd c.m x v } g' s' → (∀ D, D ∉ foot c.env → ∀ o, s.heap.get? D = some o → s'.heap.get? D = some o) → wpAny (model PG c.w) c.A (execs rest c.env) Q E s')
  (hs : swapsWith e (some (.Name x px)) pos.line c.env = pure false := by rfl) : wpAny (model PG c.w) c.A (execs (.Assign [.Name x px] e pos :: rest) c.env) Q E s :=
 wpAny_execs_cons (wpAny_Assign_Name (he g s _ E Sub.refl S fun g' s' v S' sg sh p => st_store S' hx fun s₂ S₂ b => h g' s₂ v sg p S₂ fun D hD o e => b.keep hD (sh _ _ e)) hs)
noncomputable def GivesU (c : Cx) (F : List Addr) (s₀ : Shared) (g : Heap) (P : Heap → Value → Prop) (f : Flow) (s' : Shared) : Prop :=
 ∃ v c' g'', f = .ret v ∧ c'.K = c.K ∧ (∀ a ∈ c.W, a ∈ c'.W) ∧ St c' g'' s' ∧ Sub g g'' ∧ P g'' v ∧ Sm s₀ s' ∧ Upto F s₀.heap s'.heap
inductive PeI (x : Str) (m0 : Str → Option Value) (D : Addr) (i : Nat) (m : Str → Option Value) (g h : Heap) : Prop
 | mk (r : Str) (acc : List Str) (u : Value) (hm : Keep ["turn", "pair", "rest"] m0 m) (eu : m "rest" = some u) (ru : Rd g u (.str r)) (ac : AccL (dStrs acc) D g h) (hlen : acc.length = i) (hrx : r.length ≤ x.length) (hacc : acc ++ peelF (x.length + 1 - i) r = peeled x) : PeI x m0 D i m g h
inductive PeO (x : Str) (m0 : Str → Option Value) (D : Addr) (m : Str → Option Value) (g h : Heap) : Prop
 | mk (r : Str) (acc : List Str) (u : Value) (hm : Keep ["turn", "pair", "rest"] m0 m) (eu : m "rest" = some u) (ru : Rd g u (.str r)) (ac : AccL (dStrs acc) D g h) (hlen : acc.length ≤ x.length + 1) (hacc : acc ++ [r] = peeled x) : PeO x m0 D m g h
theorem PeI.stab {x : Str} {m0 m : Str → Option Value} {D : Addr} {i : Nat} {g h g' h' : Heap} (q : PeI x m0 D i m g h) (s : Sub g g') (kp : ∀ o, h.get? D = some o → h'.get? D = some o) : PeI x m0 D i m g' h' :=
 let ⟨r, acc, u, hm, eu, ru, ac, l, z, e⟩ := q; ⟨r, acc, u, hm, eu, ru.mono s, ac.stab s kp, l, z, e⟩
theorem PeI.out {x : Str} {m0 m : Str → Option Value} {D : Addr} {g h : Heap} (q : PeI x m0 D (x.length + 1) m g h) : PeO x m0 D m g h := by
 obtain ⟨r, acc, u, hm, eu, ru, ac, l, z, e⟩ := q
 rw [Nat.sub_self] at e
 exact ⟨r, acc, u, hm, eu, ru, ac, Nat.le_of_eq l, e⟩
theorem cut_sizes {r : Str} (h : r.length + 8 ≤ sizeLine) : ∀ y ∈ Txt.splitMax r "=" 1, y.length ≤ sizeLine := by
 rcases cutEq_len r with ⟨y, e, h1⟩ | ⟨y, z, e, h1, h2⟩
 ·rw [show Txt.splitMax r "=" 1 = [y] from e]
  intro q hq
  rw [List.mem_singleton.mp hq]
  exact Nat.le_trans h1 (Nat.le_trans (Nat.le_add_right _ 8) h)
 ·rw [show Txt.splitMax r "=" 1 = [y, z] from e]
  intro q hq
  refine Nat.le_trans ?_ (Nat.le_trans (Nat.le_add_right _ 8) h)
  rcases List.mem_cons.mp hq with rfl | hq
  ·exact h1
  ·rw [List.mem_singleton.mp hq]; exact h2
theorem cut_two_len {r y z : Str} (e : cutEq r = [y, z]) : y.length ≤ r.length ∧ z.length ≤ r.length := by
 rcases cutEq_len r with ⟨y', e', _⟩ | ⟨y', z', e', h1, h2⟩
 ·rw [e] at e'; cases e'
 ·rw [e] at e'; cases e'; exact ⟨h1, h2⟩
theorem peeled_body {vl : Value} {bnd : Str → Option Value} {x : Str} {L : Addr} {W O : List Addr} {s₀ : Shared} {fr : List Env} (hbnd : bnd = bindM [("line", vl)]) (hA : AOk 10 c.A) (hK : c.K = HK c.w.params) (hz : x.length + 8 ≤ sizeLine) (ht : Rd g vl (.str x))
  (hfr : c.A.frames = some fr) (hF : FrOk fr s₀.heap) (hW : ∀ a ∈ frs fr, a ∈ W)
  (S : St (fnCx c (en249 c.w.params L) bnd W O ss249 s₀) g s) :
  wpC (model PG c.w) (c.A.deeper (en249 c.w.params L)) (execs (bd249 c.w.params) (en249 c.w.params L))
   (fun f s'' => GivesU (fnCx c (en249 c.w.params L) bnd W O ss249 s₀) (frs (en249 c.w.params L :: fr)) s₀ g (RdP (.list (dStrs (peeled x)))) f s'') (fun _ _ => False) s := by
 have hA' : AOk 9 (c.A.deeper (en249 c.w.params L)) := AOk.deeper (n := 9) hA
 have hfr' : (c.A.deeper (en249 c.w.params L)).frames = some (en249 c.w.params L :: fr) := Around.frames_deeper hfr
 have b1 : bnd "line" = some vl := by rw [hbnd]; rfl
 have hz' := hz
 rw [sizeLine_eq] at hz
 refine wpC_execs_any (S.pairListS (d := .str x) hA' (.head _) (.tail _ (.head _)) (fun D => gv_var rfl b1 ht) fun D g₁ s₁ vr rr sg₁ S₁ ac₁ hDf hDW h3 => wpAny_execs_nil ?_)
 have S₁ : St (fnCx c (en249 c.w.params L) (upd (upd bnd "rest" vr) "names" (.ref D)) (D :: W) (D :: O) ss249 s₀) g₁ s₁ := S₁
 have m1r : upd (upd bnd "rest" vr) "names" (.ref D) "rest" = some vr := (upd_ne (by decide)).trans upd_eq
 have m1l : upd (upd bnd "rest" vr) "names" (.ref D) "line" = some vl := ((upd_ne (by decide)).trans (upd_ne (by decide))).trans b1
 have m1n : upd (upd bnd "rest" vr) "names" (.ref D) "names" = some (.ref D) := upd_eq
 have rl₁ := ht.mono sg₁
 refine S₁.loopU (F := frs (en249 c.w.params L :: fr)) (n := x.length + 1) (P := RgP (x.length + 1)) (V := fun i _ u => ∃ t, u = .int (i : Nat) t)
  (gv_range (gv_bi rfl hK rfl (by rfl) (by decide))
   (by rw [Int.natCast_add]; exact gv_add_int (gv_len_str (by rw [sizeLine_eq]; omega) (gv_bi rfl hK rfl (by rfl) (by decide)) (gv_var rfl m1l rl₁)) gv_int))
  (fun g' v sg p => it_range hA' (by omega) p)
  (PeI x (upd (upd bnd "rest" vr) "names" (.ref D)) D) (PeO x (upd (upd bnd "rest" vr) "names" (.ref D)) D) ⟨x, [], vr, fun _ _ => rfl, m1r, rr, ac₁, rfl, Nat.le_refl _, rfl⟩ (fun i m g h g' h' q s kp => q.stab s (kp D (.head _))) ?_ ?_
 ·intro W₂ s₂' i m g₂ s₂ v hW₂ hi S₂ inv hv sg₂ k₂
  obtain ⟨r, acc, u, hm, eu, ru, ac, hlen, hrx, hacc⟩ := inv
  obtain ⟨ti, rfl⟩ := hv
  have S₂ : St (fnCx c (en249 c.w.params L) m W₂ (D :: O) ss249 s₂') g₂ s₂ := S₂
  refine S₂.storeName (.tail _ (.tail _ (.head _))) fun s₃ S₃ b₃ => ?_
  have S₃ : St (fnCx c (en249 c.w.params L) (upd m "turn" (.int i ti)) W₂ (D :: O) ss249 s₂') g₂ s₃ := S₃
  have ac₃ := ac.stab (g' := g₂) (h' := s₃.heap) Sub.refl fun o e => b₃.keep hDf e
  have m3r : upd m "turn" (.int i ti) "rest" = some u := (upd_ne (by decide)).trans eu
  have hfoot : foot (en249 c.w.params L) = [L] := rfl
  have hL0 : s₀.heap.get? L = none := (S.own _ S.loc).2
  have hF₃ : FrOk (en249 c.w.params L :: fr) s₃.heap := S₃.frOwn rfl fun env q => by
   obtain ⟨k, L', o, f, e, d⟩ := hF env q
   exact ⟨k, L', o, f, b₃.keep (fun z => by
    have z : L' ∈ [L] := z
    rw [List.mem_singleton.mp z, hL0] at e; cases e) (k₂ _ _ e), d⟩
  have hW₃ : ∀ a ∈ frs (en249 c.w.params L :: fr), a ∈ W₂ := fun a q => by
   rcases List.mem_cons.mp (show a ∈ L :: frs fr from q) with rfl | q
   ·exact S₃.inW _ (.head _)
   ·exact hW₂ a (.tail _ (hW a q))
  have hDn : D ∉ frs (en249 c.w.params L :: fr) := fun q => by
   rcases List.mem_cons.mp (show D ∈ L :: frs fr from q) with rfl | q
   ·exact hDf (.head _)
   ·exact hDW (hW D q)
  have hle : i ≤ x.length := by omega
  have hsub : x.length + 1 - i = (x.length - i) + 1 := by omega
  have hyx : x.length + 1 - (i + 1) = x.length - i := by omega
  rw [hsub] at hacc
  have hcut := cutEq_len r
  have hzr : r.length + 8 ≤ sizeLine := Nat.le_trans (Nat.add_le_add_right hrx 8) hz'
  have hzs := cut_sizes hzr
  refine wpC_execs_cons (wpC_Try (wpC_execs_cons (wpC_Assign (S₃.callParse (fr := en249 c.w.params L :: fr) (t := r) hK (AOk.mono hA' (by omega)) hfr' hF₃ (gv_global (v := .ref 203) rfl (by show nsIn c.K _ _ = _; rw [hK]; rfl) fun _ _ => rfl) (gv_var rfl m3r ru) (Nat.le_trans (Nat.add_le_add_left (by decide) _) hzr) hzs
   (hcut.elim (fun ⟨y, e, _⟩ => .inl ⟨y, e⟩) fun ⟨y, z, e, _⟩ => .inr ⟨y, z, e⟩) (by rfl) (by rfl) (by rfl) (by rfl) (fun y z e g' s' v S' sg sh p => ?_) fun y e s' B ex a0 cm => ?_))))
  ·have hyz := cut_two_len e
   refine st_store (c := fnCx c (en249 c.w.params L) (upd m "turn" (.int i ti)) W₂ (D :: O) ss249 s₂') S' (.tail _ (.tail _ (.tail _ (.head _)))) fun s₄ S₄ b₄ => wpC_any (wpAny_execs_nil (wpC_any (wpAny_execs_nil ?_)))
   have S₄ : St (fnCx c (en249 c.w.params L) (upd (upd m "turn" (.int i ti)) "pair" v) W₂ (D :: O) ss249 s₂') g' s₄ := S₄
   have ac₄ := ac₃.stab (g' := g') (h' := s₄.heap) sg fun o e => b₄.keep hDf (sh _ _ e)
   have m4n : upd (upd m "turn" (.int i ti)) "pair" v "names" = some (.ref D) := ((upd_ne (by decide)).trans (upd_ne (by decide))).trans ((hm "names" rfl).trans m1n)
   have m4p : upd (upd m "turn" (.int i ti)) "pair" v "pair" = some v := upd_eq
   refine wpC_execs_any (S₄.append (d := .str (Txt.strip y)) rfl m4n ac₄ (gv_pname (x := Txt.strip y) (y := Txt.strip z) hK (AOk.mono hA' (by omega)) p (gv_name rfl m4p fun _ _ => rfl) (by rfl) (by intro _ _; rfl)) (.head _) hDf (by rw [sizeLine_eq]; simp [dStrs]; omega) fun g₅ s₅ S₅ sg₅ ac₅ => wpAny_execs_nil ?_)
   refine wpC_execs_any (S₅.assignB (P := RdP (.str (Txt.strip z))) (.tail _ (.head _)) (gv_pvalue (x := Txt.strip y) (y := Txt.strip z) hK (AOk.mono hA' (by omega)) (PrP.mono _ _ _ sg₅ p) (gv_name rfl m4p fun _ _ => rfl) (by rfl) (by intro _ _; rfl)) fun g₆ s₆ u₆ sg₆ ru₆ S₆ kp₆ => wpAny_execs_nil ?_)
   refine wpC_any (wpAny_execs_nil ⟨_, g₆, S₆, (sg.trans sg₅).trans sg₆, Txt.strip z, acc ++ [Txt.strip y], u₆, fun q hq => ?_, upd_eq, ru₆, ?_, by rw [List.length_append, hlen]; rfl, Nat.le_trans (len_strip z) (Nat.le_trans hyz.2 hrx), ?_⟩)
   ·exact (upd_ne (nc_head (nc_tail (nc_tail hq)))).trans ((upd_ne (nc_head (nc_tail hq))).trans ((upd_ne (nc_head hq)).trans (hm q hq)))
   ·rw [show dStrs (acc ++ [Txt.strip y]) = dStrs acc ++ [.str (Txt.strip y)] from List.map_append ..]
    exact ac₅.stab (g' := g₆) (h' := s₆.heap) sg₆ fun o e => kp₆ D hDf o e
   ·rw [peelF_two e] at hacc
    rw [hyx, List.append_assoc]
    exact hacc
  ·refine S₃.caught (fr := en249 c.w.params L :: fr) (outer := fr) cm hfr' rfl rfl hF₃ hW₃ (by rfl) (by show nsIn c.K _ _ = _; rw [hK]; rfl) fun s'' S'' up sm => ?_
   refine ⟨_, g₂, _, S'', Sub.refl, ⟨r, acc, u, fun q hq => (upd_ne (nc_head hq)).trans (hm q hq), m3r, ru, ac₃.stab Sub.refl fun o e => up.1 D o hDn e, Nat.le_trans (Nat.le_of_eq hlen) (Nat.le_of_lt hi), ?_⟩, S₃.sm.trans sm, (Upto.of_sub S₃.kp).trans up⟩
   rw [peelF_one e] at hacc
   exact hacc
 ·intro m g₂ s₂ s₀'' S₂ sg₂ hfin sm₂ u₂
  have S₂ : St (fnCx c (en249 c.w.params L) m (D :: W) (D :: O) ss249 s₀'') g₂ s₂ := S₂
  obtain ⟨r, acc, u, hm, eu, ru, ac, hlen, hacc⟩ := hfin.elim (fun q => q.out) id
  obtain ⟨S₃, sg₃, rD⟩ := S₂.still hDf ac
  have mn : m "names" = some (.ref D) := (hm "names" rfl).trans m1n
  refine wpC_any (ex_return (c := Mine.still (fnCx c (en249 c.w.params L) m (D :: W) (D :: O) ss249 s₀'') D) (P := RdP (.list (dStrs (peeled x)))) ?_ S₃ fun g' s' v sg p S' sh => ?_)
  ·have e : dStrs (peeled x) = dStrs acc ++ [.str r] := by rw [← hacc]; simp [dStrs]
   rw [e]
   exact gv_add_list (ds := dStrs acc) (es := [.str r]) (by rw [sizeLine_eq]; simp [dStrs]; omega) (gv_var rfl mn rD) (gv_list (ds := [.str r]) (ar_d (gv_var rfl eu (ru.mono sg₃)) ar_nil) (by rw [sizeLine_eq]; simp))
  ·refine ⟨v, Mine.still (fnCx c (en249 c.w.params L) m (D :: W) (D :: O) ss249 s₀'') D, g', rfl, rfl, fun a q => List.mem_filter.mpr ⟨.tail _ q, ?_⟩, S', (((sg₁.trans sg₂).trans sg₃).trans sg), p, sm₂.trans (Sm.between S₃.sm S'.sm), u₂.trans (Upto.of_sub sh)⟩
   have : a ≠ D := fun z => hDW (z ▸ q)
   simpa using this
end
end Mine
namespace Mine
open PySem PySem.W PySem.Calls PySem.Spec PyProof.Rows Builtin
theorem at249 (p : Params) : (HK p).lookup 249 = some (ob249 p) := rfl
theorem dt249 (p : Params) : (ob249 p).data = .func (fd249 p) := rfl
theorem code_249 (p : Params) : codeIn (HK p) (fd249 p).code (fd249 p).qualname = true := by rfl
section
variable {c : Cx} {g : Heap} {s : Shared} {k : Nat}
theorem St.callPeeled (S : St c g s) {fr : List Env} {Q : Value → Shared → Prop} {E : Value → Shared → Prop} {vl : Value} {x : Str} (hK : c.K = HK c.w.params) (hA : AOk 11 c.A) (hfr : c.A.frames = some fr) (hF : FrOk fr s.heap)
  (hW : ∀ a ∈ frs fr, a ∈ c.W ∧ c.s₀.heap.get? a = none) (ht : Rd g vl (.str x)) (hz : x.length + 8 ≤ sizeLine)
  (h : ∀ g' s' v, St c g' s' → Sub g g' → Rd g' v (.list (dStrs (peeled x))) → Sm s s' → Upto (frs fr) s.heap s'.heap → Q v s') : wpC (model PG c.w) c.A (call (.ref 249) [vl]) Q E s := by
 have X := (hK ▸ S.gl.K : (HK c.w.params).In g).keeps S.fz.sub
 obtain ⟨_, _, _, _, T⟩ := S.gl.top
 refine wpC_call (codeC_cells (fd := fd249 c.w.params) (body := bd249 c.w.params) (binds := [("line", vl)]) hA.room (X _ _ (at249 _)) (dt249 _) (T.nolimit.keeps S.fz.sub) (codeRec_of X (code_249 _)) rfl (by rfl) rfl (fun y hy => .inl ?_) (fun s₁ x₁ => ?_) rfl rfl rfl)
 ·rw [List.mem_singleton.mp hy]; rfl
 have S₂ := fn_St (S := ss249) S rfl rfl rfl rfl x₁
 have hL : s.heap.get? s.heap.objs.size = none := none_of_ge (Nat.le_refl _)
 refine wpC_mono (peeled_body (c := c) (x := x) rfl (AOk.mono hA (by omega)) hK hz ht hfr hF (fun a q => List.mem_append_right _ (hW a q).1) S₂) (fun f s' hf => ?_) fun _ _ e => e.elim
 obtain ⟨v, c', g'', rfl, hK', hW', S₄, sg₄, p, sm, u⟩ := hf
 have u' : Upto (frs fr) s.heap s'.heap := by
  refine ⟨fun b o n e => u.1 b o (fun q => ?_) e, fun b o e => ?_⟩
  ·rcases List.mem_cons.mp (show b ∈ s.heap.objs.size :: frs fr from q) with rfl | q
   ·rw [hL] at e; cases e
   ·exact n q
  ·obtain ⟨sl, r⟩ := u.at e
   exact ⟨sl, fun _ => r⟩
 exact h g'' s' v (S.backU (fun a q => (hW a q).2) S₄ hK' (fun a q => hW' a (List.mem_append_right _ q)) sm u') sg₄ p sm u'
theorem St.evPeeled (S : St c g s) {fr : List Env} {Q : Value → Shared → Prop} {E : Value → Shared → Prop} {fx : Str} {p0 pos : Pos} {e : Expr} {x : Str} (hK : c.K = HK c.w.params) (hA : AOk 11 c.A) (hfr : c.A.frames = some fr) (hF : FrOk fr s.heap)
  (hW : ∀ a ∈ frs fr, a ∈ c.W ∧ c.s₀.heap.get? a = none) (hf : Does c (eval (.Name fx p0) c.env) (fun _ v => v = .ref 249) g) (he : Does c (eval e c.env) (RdP (.str x)) g) (hz : x.length + 8 ≤ sizeLine)
  (h : ∀ g' s' v, St c g' s' → Sub g g' → Rd g' v (.list (dStrs (peeled x))) → Sm s s' → Upto (frs fr) s.heap s'.heap → Q v s')
  (hs : starEach [e] c.env = (false, eval e c.env) :: starEach [] c.env := by rfl) : wpC (model PG c.w) c.A (eval (.Call (.Name fx p0) [e] [] pos) c.env) Q E s := by
 rw [arm_eval_Call_Name']
 refine wpC_bindA (hf g s _ E Sub.refl S fun g₂ s₂ v S₂ sg₂ sh₂ q => ?_)
 subst q
 refine wpC_callWith (P := fun h => (HK c.w.params).In h) (fun h X => keeps_K (by rfl) h X) (by rw [hs]; exact Nat.le_of_ble_eq_true rfl) ?_
 rw [hs]
 refine evalArgs_plain (x := eval e c.env) (rest := []) ?_
 have ha : DoesA c pos [e] (PL [RdP (.str x)]) g₂ := ar_d (he.sub sg₂) ar_nil hs
 unfold DoesA at ha
 rw [hs] at ha
 refine ha g₂ _ _ E Sub.refl S₂ fun g₄ s₄ vs S₄ sg₄ sh₄ q => ?_
 obtain ⟨vt, _, rfl, rt, rfl⟩ := q
 have k4 : Sub s.heap s₄.heap := sh₂.trans sh₄
 exact ⟨(hK ▸ S₄.gl.K : (HK c.w.params).In g₄).keeps S₄.fz.sub, S₄.callPeeled hK hA hfr (hF.sub k4) hW rt hz fun g' s' v S' sg r sm u => h g' s' v S' ((sg₂.trans sg₄).trans sg) r ((Sm.between S.sm S₄.sm).trans sm) ((Upto.of_sub k4).trans u)⟩
end
end Mine
namespace Mine
open PySem PySem.W PySem.Calls PySem.Spec PyProof.Rows Builtin
noncomputable def ob207 (p : Params) : Obj := objOf (l := (HK p).lookup 207) rfl
noncomputable def esOf {o : Obj} {es : Array DictEntry} {n : Nat} (_ : o.data = .dict es n) : Array DictEntry := es
noncomputable def es207 (p : Params) : Array DictEntry := esOf (o := ob207 p) rfl
noncomputable def exOf (e : DictEntry) : Str × Tok × Int × Tok := match e.key, e.val with
 | .str x t, .int n u => (x, t, n, u)
 | _, _ => ("", 0, 0, 0)
noncomputable def exL (p : Params) : List (Str × Tok × Int × Tok) := (es207 p).toList.map exOf
noncomputable def exMk (p : Params) (q : Str × Tok × Int × Tok) : DictEntry := { hash := PyData.keyHash p q.1, key := .str q.1 q.2.1, val := .int q.2.2.1 q.2.2.2 }
theorem es207_eq (p : Params) : (es207 p).toList = (exL p).map (exMk p) := by kernel_rfl
noncomputable def ex0s : List (String × Int) := [("!", 54), ("!=", 28), ("%", 24), ("%=", 40), ("&", 19), ("&=", 41), ("(", 7), (")", 8), ("*", 16), ("**", 35), ("**=", 46), ("*=", 38), ("+", 14), ("+=", 36), (",", 12), ("-", 15), ("-=", 37), ("->", 51), (".", 23), ("...", 52), ("/", 17), ("//", 47), ("//=", 48), ("/=", 39), (":", 11), (":=", 53), (";", 13), ("<", 20), ("<<", 33), ("<<=", 44), ("<=", 29), ("=", 22), ("==", 27), (">", 21), (">=", 30), (">>", 34), (">>=", 45), ("@", 49), ("@=", 50), ("[", 9), ("]", 10), ("^", 32), ("^=", 43), ("{", 25), ("|", 18), ("|=", 42), ("}", 26), ("~", 31)]
noncomputable def ex0 : List (Str × Int) := ex0s.map fun q => (Str.ofString q.1, q.2)
theorem exL_eq (p : Params) : (exL p).map (fun q => (q.1, q.2.2.1)) = ex0 := by kernel_rfl
theorem ex0_nodup : (ex0.map (·.1)).Nodup := by decide +kernel
theorem pairs_ex {prog : Program} {w : World} : ∀ L : List (Str × Tok × Int × Tok), Pairs (strKind prog w) (L.map (exMk w.params)) (L.map fun q => (q.1, Value.int q.2.2.1 q.2.2.2))
 | [] => .nil
 | q :: L => .cons (strKind_is prog w q.1 q.2.1) rfl (pairs_ex L)
theorem kvr_ex {h : Heap} : ∀ L : List (Str × Tok × Int × Tok), KvR h (L.map fun q => (q.1, Value.int q.2.2.1 q.2.2.2)) ((L.map fun q => (q.1, q.2.2.1)).map fun q => (q.1, PyData.int q.2))
 | [] => .nil
 | q :: L => .cons Rd.int (kvr_ex L)
noncomputable def exKv : List (Str × PyData) := ex0.map fun q => (q.1, PyData.int q.2)
theorem ex_dict {w : World} {h : Heap} (X : (HK w.params).In h) : DcP w exKv h (.ref 207) := by
 refine ⟨207, (exL w.params).map fun q => (q.1, Value.int q.2.2.1 q.2.2.2), rfl, rfl, ⟨ob207 w.params, es207 w.params, 48, X _ _ rfl, ⟨rfl, rfl, rfl⟩, rfl, fun e he => ?_, ?_, ?_⟩, ?_⟩
 ·have : e ∈ (es207 w.params).toList := by simpa using he
  rw [es207_eq] at this
  obtain ⟨q, _, rfl⟩ := List.mem_map.mp this
  exact ⟨q.1, strKind_is PG w q.1 q.2.1, rfl⟩
 ·rw [es207_eq]; exact pairs_ex _
 ·have : ((exL w.params).map fun q => (q.1, Value.int q.2.2.1 q.2.2.2)).map (·.1) = ex0.map (·.1) := by rw [← exL_eq w.params, List.map_map, List.map_map]; rfl
  rw [this]; exact ex0_nodup
 ·have := kvr_ex (h := h) (exL w.params)
  rw [exL_eq] at this
  exact this
end Mine
namespace Mine
open PySem PySem.W PySem.Calls PySem.Spec PyProof.Rows
noncomputable def fd259 (p : Params) : FuncData := fdOf (l := (HK p).lookup 259) rfl rfl
noncomputable def ob259 (p : Params) : Obj := objOf (l := (HK p).lookup 259) rfl
noncomputable def bd259 (p : Params) : List Stmt := bodyOf (fd := fd259 p) rfl
noncomputable def en259 (p : Params) (L : Addr) : Env := callEnvC (fd259 p) L 259
noncomputable def ss259 : List Str := ["words", "menu", "own", "numbers", "drawn", "puts", "stop", "line", "heads", "due", "stock", "tokens", "plain", "parts", "spans", "cuts", "bare"]
noncomputable def wordsT : Str := "( ) [ ] : , ; + - * / | & < > = . % { } == != <= >= ~ ^ << >> ** += -= *= /= %= &= |= ^= <<= >>= **= // //= @ @= -> ... := ! BB aa $$"
noncomputable def W51 : List Str := Txt.words wordsT
noncomputable def M55 : List Str := W51.take 48 ++ (["=", " ", "\t ", "\n", "a", "B", "$"] : List Str)
theorem W51_len : W51.length = 51 := by decide +kernel
theorem M55_len : M55.length = 55 := by decide +kernel
noncomputable def ownN (i : Nat) : Int := if i < 48 then 7 + i else ([255, 256, 0] : List Int).getD (i - 48) 0
noncomputable def ownKv : List (Str × PyData) := Mine.puts (fun i => W51.getD i "") (fun i => .int (ownN i)) 51
noncomputable def numV (w : Str) : PyData := if (at? exKv w).isSome then (at? exKv w).getD (.int 0) else (at? ownKv w).getD (.int 0)
noncomputable def numKv : List (Str × PyData) := Mine.puts (fun i => W51.getD i "") (fun i => numV (W51.getD i "")) 51
theorem ownKv_all : W51.all (fun w => (at? ownKv w).isSome) = true := by decide +kernel
section
variable {c : Cx} {g : Heap} {s : Shared} {k : Nat} {Q : Flow → Shared → Prop} {E : Value → Shared → Prop}
theorem Does.withK {α : Type} {t : Sem α} {P P' : Heap → α → Prop} (h : Does c t P g) (i : ∀ g' v, c.K.In g' → P g' v → P' g' v) : Does c t P' g := fun g₁ s Q E sg S k => h g₁ s Q E sg S fun g' s' v S' sg' sh p => k g' s' v S' sg' sh (i g' v S'.gl.K p)
theorem gv_ex {x : Str} {p : Pos} (hk : c.env.kindOf x = some .globalImplicit) (hK : c.K = HK c.w.params) (e : nsIn (HK c.w.params) mainGlobals x = some (some (.ref 207))) (hd : (x == ("__debug__" : Str)) = false := by decide) : Does c (eval (.Name x p) c.env) (DcP c.w exKv) g :=
 Does.withK (gv_global (P := fun _ v => v = .ref 207) (v := .ref 207) hk (hK ▸ e) (fun _ _ => rfl) hd) fun g' v X e => by subst e; exact ex_dict (hK ▸ X)
structure FA (w : World) (m : Str → Option Value) (g : Heap) : Prop where
 words : ∃ v, m "words" = some v ∧ Rd g v (.list (dStrs W51))
 menu : ∃ v, m "menu" = some v ∧ Rd g v (.list (dStrs M55))
 own : ∃ v, m "own" = some v ∧ DcP w ownKv g v
 nums : ∃ v, m "numbers" = some v ∧ DcP w numKv g v
theorem stageA {m : Str → Option Value} {L : Addr} {W O : List Addr} {s₀ : Shared} (hK : c.K = HK c.w.params) (hA : AOk 14 c.A) (S : St (fnCx c (en259 c.w.params L) m W O ss259 s₀) g s)
  (h : ∀ m' g' s', St (fnCx c (en259 c.w.params L) m' W O ss259 s₀) g' s' → Sub g g' → FA c.w m' g' → Keep ["words", "menu", "own", "numbers"] m m' → Q .next s') :
  wpAny (model PG c.w) (c.A.deeper (en259 c.w.params L)) (execs ((bd259 c.w.params).take 4) (en259 c.w.params L)) Q E s := by
 have hA' : AOk 13 (c.A.deeper (en259 c.w.params L)) := AOk.deeper (n := 13) hA
 refine S.assign (P := RdP (.list (dStrs W51))) (.head _) (gv_split_ws (by decide +kernel) gv_str) fun g₁ s₁ v₁ sg₁ p₁ S₁ => ?_
 have S₁ : St (fnCx c (en259 c.w.params L) (upd m "words" v₁) W O ss259 s₀) g₁ s₁ := S₁
 have w1 : upd m "words" v₁ "words" = some v₁ := upd_eq
 refine S₁.assign (P := RdP (.list (dStrs M55))) (.tail _ (.head _)) ?_ fun g₂ s₂ v₂ sg₂ p₂ S₂ => ?_
 ·have e : dStrs M55 = (dStrs W51).take 48 ++ dStrs ["=", " ", "\t ", "\n", "a", "B", "$"] := by simp [M55, dStrs]
  rw [e]
  exact gv_add_list (by decide +kernel) (gv_list_to (by decide +kernel) (gv_var rfl w1 p₁) gv_int) (gv_list (ar_d gv_str (ar_d gv_str (ar_d gv_str (ar_d gv_str (ar_d gv_str (ar_d gv_str (ar_d gv_str ar_nil))))))) (by decide +kernel))
 have S₂ : St (fnCx c (en259 c.w.params L) (upd (upd m "words" v₁) "menu" v₂) W O ss259 s₀) g₂ s₂ := S₂
 have w2 : upd (upd m "words" v₁) "menu" v₂ "words" = some v₁ := (upd_ne (by decide)).trans upd_eq
 have n2 : upd (upd m "words" v₁) "menu" v₂ "menu" = some v₂ := upd_eq
 have r2 : Rd g₂ v₁ (.list (dStrs W51)) := Rd.mono p₁ sg₂
 have hW : (dStrs W51).length = 51 := (List.length_map ..).trans W51_len
 refine S₂.assign (P := DcP c.w ownKv) (.tail _ (.tail _ (.head _))) (gv_dictcomp (c := fnCx c (en259 c.w.params L) (upd (upd m "words" v₁) "menu" v₂) W O ss259 s₀) (n := 51) ["i"] (fun i => W51.getD i "") (fun i => .int (ownN i)) (by rfl) (by rfl)
  (gv_range (n := 51) (gv_bi rfl hK rfl (by rfl) (by decide)) gv_int) (fun g' y sg p => it_range hA' (by decide) p) (by decide +kernel) at_name fun i gB c' hi sg inC tg => ?_) fun g₃ s₃ v₃ sg₃ p₃ S₃ => ?_
 ·obtain ⟨v', e', t', rfl⟩ := tg
  have hw : c'.m "words" = some v₁ := inC_free inC rfl rfl w2
  obtain ⟨⟨C, W', O', s', m', rfl⟩, _, _, _⟩ := inC
  refine ⟨gv_list_item (by rw [hW]; decide +kernel) (strs_get (by rw [W51_len]; exact hi)) (gv_var rfl hw (r2.mono sg)) (gv_var rfl e' Rd.int), ?_⟩
  refine gv_ite (x := decide ((i : Int) < 48)) (ts_compare1 (P₁ := RdP (.int (i : Int))) (P₂ := RdP (.int 48)) RdP.mono (gv_var rfl e' Rd.int) gv_int fun g₁ a b _ p q => op_lt_int p q) (fun hx => ?_) fun hx => ?_
  ·have hx : i < 48 := by have := of_decide_eq_true hx; omega
   have : ownN i = 7 + i := by unfold ownN; rw [if_pos hx]
   rw [this]
   exact gv_add_int gv_int (gv_var rfl e' Rd.int)
  ·have hx : ¬ i < 48 := by have := of_decide_eq_false hx; omega
   have e : ownN i = ([255, 256, 0] : List Int).getD (i - 48) 0 := by unfold ownN; rw [if_neg hx]
   rw [e]
   have hj : i - 48 < 3 := by omega
   refine gv_list_item (ds := [.int 255, .int 256, .int 0]) (j := i - 48) (by decide +kernel) ?_ (gv_list (ds := [.int 255, .int 256, .int 0]) (ar_d gv_int (ar_d gv_int (ar_d gv_int ar_nil))) (by decide +kernel)) ?_
   ·rcases (by omega : i - 48 = 0 ∨ i - 48 = 1 ∨ i - 48 = 2) with q | q | q <;> rw [q] <;> rfl
   ·have : ((i - 48 : Nat) : Int) = (i : Int) - 48 := by omega
    rw [this]
    exact gv_sub_int (gv_var rfl e' Rd.int) gv_int
 have S₃ : St (fnCx c (en259 c.w.params L) (upd (upd (upd m "words" v₁) "menu" v₂) "own" v₃) W O ss259 s₀) g₃ s₃ := S₃
 have w3 : upd (upd (upd m "words" v₁) "menu" v₂) "own" v₃ "words" = some v₁ := (upd_ne (by decide)).trans w2
 have n3 : upd (upd (upd m "words" v₁) "menu" v₂) "own" v₃ "menu" = some v₂ := (upd_ne (by decide)).trans n2
 have o3 : upd (upd (upd m "words" v₁) "menu" v₂) "own" v₃ "own" = some v₃ := upd_eq
 have r3 : Rd g₃ v₁ (.list (dStrs W51)) := r2.mono sg₃
 refine ex_dictcomp (c := fnCx c (en259 c.w.params L) (upd (upd (upd m "words" v₁) "menu" v₂) "own" v₃) W O ss259 s₀) (n := 51) ["word"] (fun i => W51.getD i "") (fun i => numV (W51.getD i "")) (by rfl) (.tail _ (.tail _ (.tail _ (.head _)))) (by rfl) (by rfl)
  (gv_var rfl w3 r3) (fun g' y sg p => it_listN hA' p hW) (by decide +kernel) at_name (fun i gB c' hi sg inC tg => ?_) S₃ fun g₄ s₄ v₄ sg₄ p₄ S₄ => ?_
 ·obtain ⟨v', e', d', hd', rv⟩ := tg
  rw [strs_get (by rw [W51_len]; exact hi)] at hd'
  cases hd'
  have ho : c'.m "own" = some v₃ := inC_free inC rfl rfl o3
  obtain ⟨⟨C, W', O', s', m', rfl⟩, _, _, _⟩ := inC
  refine ⟨gv_var rfl e' rv, ?_⟩
  have hmem : W51.getD i "" ∈ W51 := getD_mem (by rw [W51_len]; exact hi)
  refine gv_ite (x := (at? exKv (W51.getD i "")).isSome) (ts_compare1 (P₁ := RdP (.str (W51.getD i ""))) (P₂ := DcP c.w exKv) RdP.mono (gv_var rfl e' rv) (gv_ex rfl hK rfl) fun g₁ a b _ p q => op_in_dict p q) (fun hx => ?_) fun hx => ?_
  ·have : numV (W51.getD i "") = (at? exKv (W51.getD i "")).getD (.int 0) := by unfold numV; rw [if_pos hx]
   rw [this]
   obtain ⟨d, hd⟩ := Option.isSome_iff_exists.mp hx
   rw [hd]
   exact gv_dict_item hd (gv_ex rfl hK rfl) (gv_var rfl e' rv)
  ·have : numV (W51.getD i "") = (at? ownKv (W51.getD i "")).getD (.int 0) := by unfold numV; rw [if_neg (by rw [hx]; exact Bool.false_ne_true)]
   rw [this]
   obtain ⟨d, hd⟩ := Option.isSome_iff_exists.mp (List.all_eq_true.mp ownKv_all _ hmem)
   rw [hd]
   exact gv_dict_item hd (gv_name rfl ho fun g' s => DcP.mono _ _ _ (sg.trans s) p₃) (gv_var rfl e' rv)
 have S₄ : St (fnCx c (en259 c.w.params L) (upd (upd (upd (upd m "words" v₁) "menu" v₂) "own" v₃) "numbers" v₄) W O ss259 s₀) g₄ s₄ := S₄
 refine wpAny_execs_nil (h _ g₄ s₄ S₄ (((sg₁.trans sg₂).trans sg₃).trans sg₄) ⟨⟨v₁, (upd_ne (by decide)).trans w3, r3.mono sg₄⟩, ⟨v₂, (upd_ne (by decide)).trans n3, Rd.mono p₂ (sg₃.trans sg₄)⟩, ⟨v₃, (upd_ne (by decide)).trans o3, DcP.mono _ _ _ sg₄ p₃⟩, ⟨v₄, upd_eq, p₄⟩⟩ fun y hy => ?_)
 exact (upd_ne (nc_head (nc_tail (nc_tail (nc_tail hy))))).trans ((upd_ne (nc_head (nc_tail (nc_tail hy)))).trans ((upd_ne (nc_head (nc_tail hy))).trans (upd_ne (nc_head hy))))
end
noncomputable def drOf (xs : List Int) : List Nat := (xs.take 10).map fun x => (x.fmod 2805).toNat
noncomputable def w51 (n : Nat) : Str := W51.getD (n % 51) ""
noncomputable def m55 (n : Nat) : Str := M55.getD (n % 55) ""
noncomputable def putsOf (dr : List Nat) : List Str := (["<<=", "==", "!", "BB", "aa", "$$"] : List Str) ++ dr.map w51 ++ (["**=", "!=", "~"] : List Str)
noncomputable def stopOf (dr : List Nat) : Nat := 6 + dr.sum % 12
noncomputable def lineOf (dr : List Nat) : Str := Txt.join "" (dr.map fun x => w51 x ++ m55 x) ++ " <<==aa !=BB= =**=$$7 \t"
theorem w51_all : W51.all (fun w => decide (w.length ≤ 8)) = true := by decide +kernel
theorem m55_all : M55.all (fun w => decide (w.length ≤ 8)) = true := by decide +kernel
theorem w51_mem (n : Nat) : w51 n ∈ W51 := getD_mem (by rw [W51_len]; exact Nat.mod_lt _ (by decide))
theorem m55_mem (n : Nat) : m55 n ∈ M55 := getD_mem (by rw [M55_len]; exact Nat.mod_lt _ (by decide))
theorem w51_le (n : Nat) : (w51 n).length ≤ 8 := of_decide_eq_true (List.all_eq_true.mp w51_all _ (w51_mem n))
theorem m55_le (n : Nat) : (m55 n).length ≤ 8 := of_decide_eq_true (List.all_eq_true.mp m55_all _ (m55_mem n))
theorem len_app (x y : Str) : (x ++ y).length = x.length + y.length := by
 show (x.cps ++ y.cps).size = x.cps.size + y.cps.size
 exact Array.size_append
theorem fold_glue (sep : Str) : ∀ (r : List Str) (acc : Array Nat), (r.foldl (fun acc p => acc ++ sep.cps ++ p.cps) acc).toList = acc.toList ++ r.flatMap fun p => sep.cps.toList ++ p.cps.toList
 | [], acc => by simp
 | p :: r, acc => by
  rw [List.foldl_cons, fold_glue sep r, List.flatMap_cons]
  simp [List.append_assoc]
theorem join_toList (sep x : Str) (r : List Str) : (Txt.join sep (x :: r)).cps.toList = x.cps.toList ++ r.flatMap fun p => sep.cps.toList ++ p.cps.toList := fold_glue sep r x.cps
theorem join_empty : ∀ l : List Str, (Txt.join "" l).cps.toList = l.flatMap fun p => p.cps.toList
 | [] => rfl
 | x :: r => by
  rw [join_toList, List.flatMap_cons]
  rfl
theorem outs_all {α : Type} (h : α → PyData) (d : α) (xs : List α) : outs xs.length (fun _ => true) (fun i => h (xs.getD i d)) = xs.map h := by
 have := outs_list (fun _ : α => true) h d xs
 rw [List.filter_eq_self.mpr (fun _ _ => rfl)] at this
 exact this
theorem drOf_len (xs : List Int) : (drOf xs).length ≤ 10 := by
 unfold drOf; rw [List.length_map, List.length_take]; omega
section
variable {c : Cx} {g : Heap} {s : Shared} {k : Nat} {Q : Flow → Shared → Prop} {E : Value → Shared → Prop}
theorem FA.mono {w : World} {m m' : Str → Option Value} {g g' : Heap} {T : List Str} (x : FA w m g) (s : Sub g g') (q : Keep T m m') (hT : T.contains "words" = false ∧ T.contains "menu" = false ∧ T.contains "own" = false ∧ T.contains "numbers" = false) : FA w m' g' :=
 ⟨let ⟨v, e, r⟩ := x.words; ⟨v, (q _ hT.1).trans e, r.mono s⟩, let ⟨v, e, r⟩ := x.menu; ⟨v, (q _ hT.2.1).trans e, r.mono s⟩, let ⟨v, e, r⟩ := x.own; ⟨v, (q _ hT.2.2.1).trans e, DcP.mono _ _ _ s r⟩, let ⟨v, e, r⟩ := x.nums; ⟨v, (q _ hT.2.2.2).trans e, DcP.mono _ _ _ s r⟩⟩
structure FB (w : World) (dr : List Nat) (m : Str → Option Value) (g : Heap) : Prop where
 drawn : ∃ v, m "drawn" = some v ∧ Rd g v (.list (dr.map natD))
 puts : ∃ v, m "puts" = some v ∧ Rd g v (.list (dStrs (putsOf dr)))
 stop : ∃ v, m "stop" = some v ∧ Rd g v (.int (stopOf dr : Nat))
 line : ∃ v, m "line" = some v ∧ Rd g v (.str (lineOf dr))
theorem sum_room {p q r n : Nat} (h1 : p ≤ 8) (h2 : q ≤ 8) (h3 : r ≤ 16 * n) : p + q + r ≤ 16 * (n + 1) := by omega
theorem modN (a b : Nat) (h : 0 < b) : ((a : Nat) : Int).fmod (b : Nat) = ((a % b : Nat) : Int) := by
 rw [Int.fmod_eq_emod_of_nonneg _ (by omega)]; simp
theorem gv_mod_nat {l r : Expr} {pos : Pos} {a b : Nat} (hb : 0 < b) (hl : Does c (eval l c.env) (RdP (.int (a : Nat))) g) (hr : Does c (eval r c.env) (RdP (.int (b : Nat))) g) : Does c (eval (.BinOp l .Mod r pos) c.env) (RdP (.int ((a % b : Nat) : Int))) g := by
 rw [← modN a b hb]
 exact gv_mod_int (by omega) hl hr
theorem stageB {m : Str → Option Value} {L : Addr} {W O : List Addr} {s₀ : Shared} {xs : List Int} {vs : Value} (hK : c.K = HK c.w.params) (hA : AOk 14 c.A) (S : St (fnCx c (en259 c.w.params L) m W O ss259 s₀) g s) (fa : FA c.w m g)
  (hs : m "script" = some vs) (rs : Rd g vs (.list (dInts xs))) (hxs : xs.length ≤ 63)
  (h : ∀ m' g' s', St (fnCx c (en259 c.w.params L) m' W O ss259 s₀) g' s' → Sub g g' → FB c.w (drOf xs) m' g' → Keep ["drawn", "puts", "stop", "line"] m m' → Q .next s') :
  wpAny (model PG c.w) (c.A.deeper (en259 c.w.params L)) (execs (((bd259 c.w.params).drop 4).take 4) (en259 c.w.params L)) Q E s := by
 have hA' : AOk 13 (c.A.deeper (en259 c.w.params L)) := AOk.deeper (n := 13) hA
 obtain ⟨⟨vw, ew, rw'⟩, ⟨vm, em, rm⟩, _, _⟩ := fa
 have hW : (dStrs W51).length = 51 := (List.length_map ..).trans W51_len
 have hM : (dStrs M55).length = 55 := (List.length_map ..).trans M55_len
 have hl10 := drOf_len xs
 have htk : (dInts xs).take 10 = dInts (xs.take 10) := by simp [dInts]
 have hn : (dInts (xs.take 10)).length = (xs.take 10).length := List.length_map ..
 have hn10 : (xs.take 10).length ≤ 10 := by rw [List.length_take]; omega
 refine ex_listcomp (c := fnCx c (en259 c.w.params L) m W O ss259 s₀) (n := (xs.take 10).length) ["x"] (fun _ => true) (fun i => .int (((xs.take 10).getD i 0).fmod 2805)) (by rfl) (.tail _ (.tail _ (.tail _ (.tail _ (.head _))))) (by rfl) (by rfl)
  (P := RdP (.list (dInts (xs.take 10)))) (by rw [← htk]; exact gv_list_to (by rw [show (dInts xs).length = xs.length from List.length_map ..]; exact Nat.le_trans hxs (by decide +kernel)) (gv_var rfl hs rs) gv_int) (fun g' y sg p => it_listN hA' p hn) (Nat.le_trans hn10 (by decide +kernel)) at_name (fun i gB c' hi sg inC tg => ?_) S fun g₁ s₁ v₁ sg₁ p₁ S₁ => ?_
 ·refine ⟨tl_nil, fun _ => ?_⟩
  obtain ⟨v', e', tv⟩ := tg
  obtain ⟨_, rv⟩ := vd_at (d := (0 : Int)) tv
  obtain ⟨⟨C, W', O', s', m', rfl⟩, _, _, _⟩ := inC
  exact gv_mod_int (by decide) (gv_var rfl e' rv) gv_int
 have p₁ : Rd g₁ v₁ (.list ((drOf xs).map natD)) := by
  have e : (drOf xs).map natD = outs (xs.take 10).length (fun _ => true) (fun i => .int (((xs.take 10).getD i 0).fmod 2805)) := by
   rw [outs_all (fun x : Int => PyData.int (x.fmod 2805)) 0 (xs.take 10)]
   unfold drOf
   rw [List.map_map]
   refine List.map_congr_left fun x _ => ?_
   have : 0 ≤ x.fmod 2805 := Int.fmod_nonneg_of_pos _ (by decide)
   show PyData.int ((x.fmod 2805).toNat : Int) = _
   rw [Int.toNat_of_nonneg this]
  rw [e]; exact p₁
 have S₁ : St (fnCx c (en259 c.w.params L) (upd m "drawn" v₁) W O ss259 s₀) g₁ s₁ := S₁
 have d1 : upd m "drawn" v₁ "drawn" = some v₁ := upd_eq
 have w1 : upd m "drawn" v₁ "words" = some vw := (upd_ne (by decide)).trans ew
 have n1 : upd m "drawn" v₁ "menu" = some vm := (upd_ne (by decide)).trans em
 have rw1 := rw'.mono sg₁
 have hdl : ((drOf xs).map natD).length = (drOf xs).length := List.length_map ..
 have hz10 : (drOf xs).length ≤ sizeLine := Nat.le_trans hl10 (by decide +kernel)
 refine S₁.assign (P := RdP (.list (dStrs (putsOf (drOf xs))))) (.tail _ (.tail _ (.tail _ (.tail _ (.tail _ (.head _)))))) ?_ fun g₂ s₂ v₂ sg₂ p₂ S₂ => ?_
 ·have e : dStrs (putsOf (drOf xs)) = (dStrs ["<<=", "==", "!", "BB", "aa", "$$"] ++ outs (drOf xs).length (fun _ => true) (fun i => .str (w51 ((drOf xs).getD i 0)))) ++ dStrs ["**=", "!=", "~"] := by
   rw [outs_all (fun x : Nat => PyData.str (w51 x)) 0 (drOf xs)]
   simp [putsOf, dStrs, List.map_append]
  have ho : (outs (drOf xs).length (fun _ => true) (fun i => PyData.str (w51 ((drOf xs).getD i 0)))).length ≤ 10 := by
   rw [outs_all (fun x : Nat => PyData.str (w51 x)) 0 (drOf xs), List.length_map]; exact hl10
  have h6 : (dStrs ["<<=", "==", "!", "BB", "aa", "$$"]).length = 6 := rfl
  have h3 : (dStrs ["**=", "!=", "~"]).length = 3 := rfl
  rw [e]
  refine gv_add_list (by rw [List.length_append, h6, h3, sizeLine_eq]; omega) (gv_add_list (by rw [h6, sizeLine_eq]; omega)
   (gv_list (ds := dStrs ["<<=", "==", "!", "BB", "aa", "$$"]) (ar_d gv_str (ar_d gv_str (ar_d gv_str (ar_d gv_str (ar_d gv_str (ar_d gv_str ar_nil)))))) (by rw [h6, sizeLine_eq]; decide)) ?_)
   (gv_list (ds := dStrs ["**=", "!=", "~"]) (ar_d gv_str (ar_d gv_str (ar_d gv_str ar_nil))) (by rw [h3, sizeLine_eq]; decide))
  refine gv_listcomp (c := fnCx c (en259 c.w.params L) (upd m "drawn" v₁) W O ss259 s₀) ["x"] _ _ (by rfl) (by rfl) (gv_var rfl d1 p₁) (fun g' y sg p => it_listN hA' p hdl) hz10 at_name fun i gB c' hi sg inC tg => ?_
  refine ⟨tl_nil, fun _ => ?_⟩
  obtain ⟨v', e', tv⟩ := tg
  obtain ⟨_, rv⟩ := vd_at (d := (0 : Nat)) tv
  have hw : c'.m "words" = some vw := inC_free inC rfl rfl w1
  obtain ⟨⟨C, W', O', s', m', rfl⟩, _, _, _⟩ := inC
  exact gv_list_item (by rw [hW]; decide +kernel) (strs_get (by rw [W51_len]; exact Nat.mod_lt _ (by decide))) (gv_var rfl hw (rw1.mono sg)) (gv_mod_nat (by decide) (gv_var rfl e' rv) gv_int)
 have S₂ : St (fnCx c (en259 c.w.params L) (upd (upd m "drawn" v₁) "puts" v₂) W O ss259 s₀) g₂ s₂ := S₂
 have d2 : upd (upd m "drawn" v₁) "puts" v₂ "drawn" = some v₁ := (upd_ne (by decide)).trans d1
 have w2 : upd (upd m "drawn" v₁) "puts" v₂ "words" = some vw := (upd_ne (by decide)).trans w1
 have n2 : upd (upd m "drawn" v₁) "puts" v₂ "menu" = some vm := (upd_ne (by decide)).trans n1
 have q2 : upd (upd m "drawn" v₁) "puts" v₂ "puts" = some v₂ := upd_eq
 have rd2 : Rd g₂ v₁ (.list ((drOf xs).map natD)) := p₁.mono sg₂
 refine S₂.assign (P := RdP (.int ((stopOf (drOf xs) : Nat) : Int))) (.tail _ (.tail _ (.tail _ (.tail _ (.tail _ (.tail _ (.head _))))))) ?_ fun g₃ s₃ v₃ sg₃ p₃ S₃ => ?_
 ·have e : ((stopOf (drOf xs) : Nat) : Int) = 6 + (((drOf xs).sum % 12 : Nat) : Int) := by unfold stopOf; omega
  rw [e]
  refine gv_add_int gv_int (gv_mod_nat (by decide) (gv_call_b (R := PL [RdP (.list ((drOf xs).map natD))]) (gv_bi rfl hK rfl (by rfl) (by decide)) (ar_d (gv_var rfl d2 rd2) ar_nil) fun g₁ vs sg r => ?_) gv_int)
  obtain ⟨v, _, rfl, r, rfl⟩ := r
  have e2 : (((drOf xs).sum : Nat) : Int) = ((drOf xs).map (fun n : Nat => (n : Int))).sum := by
   generalize drOf xs = l
   induction l with
   | nil => rfl
   | cons a l ih => rw [List.sum_cons, List.map_cons, List.sum_cons, ← ih]; omega
  have e3 : (drOf xs).map natD = dInts ((drOf xs).map (fun n : Nat => (n : Int))) := by unfold dInts; rw [List.map_map]; rfl
  rw [e2]
  exact op_sum (k := 12) hA' (by rw [← e3]; exact r)
 have S₃ : St (fnCx c (en259 c.w.params L) (upd (upd (upd m "drawn" v₁) "puts" v₂) "stop" v₃) W O ss259 s₀) g₃ s₃ := S₃
 have d3 : upd (upd (upd m "drawn" v₁) "puts" v₂) "stop" v₃ "drawn" = some v₁ := (upd_ne (by decide)).trans d2
 have w3 : upd (upd (upd m "drawn" v₁) "puts" v₂) "stop" v₃ "words" = some vw := (upd_ne (by decide)).trans w2
 have n3 : upd (upd (upd m "drawn" v₁) "puts" v₂) "stop" v₃ "menu" = some vm := (upd_ne (by decide)).trans n2
 have q3 : upd (upd (upd m "drawn" v₁) "puts" v₂) "stop" v₃ "puts" = some v₂ := (upd_ne (by decide)).trans q2
 have rd3 : Rd g₃ v₁ (.list ((drOf xs).map natD)) := rd2.mono sg₃
 have rw3 : Rd g₃ vw (.list (dStrs W51)) := rw1.mono (sg₂.trans sg₃)
 have rm3 : Rd g₃ vm (.list (dStrs M55)) := rm.mono ((sg₁.trans sg₂).trans sg₃)
 have hsum : ∀ l : List Nat, ((l.map fun x => w51 x ++ m55 x).map (·.length)).sum ≤ 16 * l.length := fun l => by
  induction l with
  | nil => exact Nat.le_refl _
  | cons a l ih =>
   rw [List.map_cons, List.map_cons, List.sum_cons, List.length_cons, len_app]
   exact sum_room (w51_le a) (m55_le a) ih
 have hjl : ∀ l : List Str, (Txt.join "" l).length = (l.map (·.length)).sum := by
  intro l
  rw [← len_cps, join_empty, List.length_flatMap]
  congr 1
 refine S₃.assign (P := RdP (.str (lineOf (drOf xs)))) (.tail _ (.tail _ (.tail _ (.tail _ (.tail _ (.tail _ (.tail _ (.head _)))))))) ?_ fun g₄ s₄ v₄ sg₄ p₄ S₄ => ?_
 ·have hjz : (Txt.join "" ((drOf xs).map fun x => w51 x ++ m55 x)).length ≤ 160 := by rw [hjl]; have := hsum (drOf xs); omega
  have hjok : (((drOf xs).map fun x => w51 x ++ m55 x).map (·.length)).sum + ((drOf xs).map fun x => w51 x ++ m55 x).length * ("" : Str).length ≤ 16777216 := by
   have := hsum (drOf xs)
   have e0 : ("" : Str).length = 0 := by decide
   rw [e0, Nat.mul_zero]; omega
  have ht : (" <<==aa !=BB= =**=$$7 \t" : Str).length = 23 := by decide +kernel
  refine gv_add_str (by rw [ht, sizeLine_eq]; omega) (gv_join hjok gv_str ?_) gv_str
  have e : dStrs ((drOf xs).map fun x => w51 x ++ m55 x) = outs (drOf xs).length (fun _ => true) (fun i => .str (w51 ((drOf xs).getD i 0) ++ m55 ((drOf xs).getD i 0))) := by
   rw [outs_all (fun x : Nat => PyData.str (w51 x ++ m55 x)) 0 (drOf xs)]
   unfold dStrs; rw [List.map_map]; rfl
  rw [e]
  refine gv_listcomp (c := fnCx c (en259 c.w.params L) (upd (upd (upd m "drawn" v₁) "puts" v₂) "stop" v₃) W O ss259 s₀) ["x"] _ _ (by rfl) (by rfl) (gv_var rfl d3 rd3) (fun g' y sg p => it_listN hA' p hdl) hz10 at_name fun i gB c' hi sg inC tg => ?_
  refine ⟨tl_nil, fun _ => ?_⟩
  obtain ⟨v', e', tv⟩ := tg
  obtain ⟨_, rv⟩ := vd_at (d := (0 : Nat)) tv
  have hw : c'.m "words" = some vw := inC_free inC rfl rfl w3
  have hm : c'.m "menu" = some vm := inC_free inC rfl rfl n3
  obtain ⟨⟨C, W', O', s', m', rfl⟩, _, _, _⟩ := inC
  have := w51_le ((drOf xs).getD i 0)
  have := m55_le ((drOf xs).getD i 0)
  exact gv_add_str (by rw [sizeLine_eq]; omega) (gv_list_item (by rw [hW]; decide +kernel) (strs_get (by rw [W51_len]; exact Nat.mod_lt _ (by decide))) (gv_var rfl hw (rw3.mono sg)) (gv_mod_nat (by decide) (gv_var rfl e' rv) gv_int))
   (gv_list_item (by rw [hM]; decide +kernel) (strs_get (by rw [M55_len]; exact Nat.mod_lt _ (by decide))) (gv_var rfl hm (rm3.mono sg)) (gv_mod_nat (by decide) (gv_var rfl e' rv) gv_int))
 have S₄ : St (fnCx c (en259 c.w.params L) (upd (upd (upd (upd m "drawn" v₁) "puts" v₂) "stop" v₃) "line" v₄) W O ss259 s₀) g₄ s₄ := S₄
 refine wpAny_execs_nil (h _ g₄ s₄ S₄ (((sg₁.trans sg₂).trans sg₃).trans sg₄) ⟨⟨v₁, (upd_ne (by decide)).trans d3, rd3.mono sg₄⟩, ⟨v₂, (upd_ne (by decide)).trans q3, Rd.mono p₂ (sg₃.trans sg₄)⟩, ⟨v₃, (upd_ne (by decide)).trans upd_eq, Rd.mono p₃ sg₄⟩, ⟨v₄, upd_eq, p₄⟩⟩ fun y hy => ?_)
 exact (upd_ne (nc_head (nc_tail (nc_tail (nc_tail hy))))).trans ((upd_ne (nc_head (nc_tail (nc_tail hy)))).trans ((upd_ne (nc_head (nc_tail hy))).trans (upd_ne (nc_head hy))))
end
noncomputable def numF (w : Str) : Int := match at? ownKv w with
 | some (.int n) => n
 | _ => 0
noncomputable def isIntD (o : Option PyData) (n : Int) : Bool := match o with
 | some (.int k) => k == n
 | _ => false
theorem isIntD_eq {o : Option PyData} {n : Int} (h : isIntD o n = true) : o = some (.int n) := by
 unfold isIntD at h
 split at h
 ·rw [beq_iff_eq.mp h]
 ·cases h
theorem nums_all : W51.all (fun p => (ones p).all fun one => one == "" || (isIntD (at? ownKv one) (numF one) && isIntD (at? numKv one) (numF one))) = true := by decide +kernel
theorem six_mem : (["<<=", "==", "!", "BB", "aa", "$$"] : List Str).all W51.contains = true := by decide +kernel
theorem three_mem : (["**=", "!=", "~"] : List Str).all W51.contains = true := by decide +kernel
theorem puts_mem {dr : List Nat} {p : Str} (h : p ∈ putsOf dr) : p ∈ W51 := by
 unfold putsOf at h
 rcases List.mem_append.mp h with h | h
 ·rcases List.mem_append.mp h with h | h
  ·exact List.contains_iff_mem.mp (List.all_eq_true.mp six_mem _ h)
  ·obtain ⟨n, _, rfl⟩ := List.mem_map.mp h
   exact w51_mem n
 ·exact List.contains_iff_mem.mp (List.all_eq_true.mp three_mem _ h)
theorem num_at {p one : Str} (hp : p ∈ W51) (ho : one ∈ ones p) (hn : (one != ("" : Str)) = true) : at? ownKv one = some (.int (numF one)) ∧ at? numKv one = some (.int (numF one)) := by
 have := List.all_eq_true.mp (List.all_eq_true.mp nums_all p hp) one ho
 have hne : (one == ("" : Str)) = false := by simpa using hn
 rw [hne, Bool.false_or, Bool.and_eq_true] at this
 exact ⟨isIntD_eq this.1, isIntD_eq this.2⟩
theorem putsOf_len (dr : List Nat) : (putsOf dr).length = dr.length + 9 := by simp [putsOf]
theorem puts_le {dr : List Nat} {p : Str} (h : p ∈ putsOf dr) : p.length ≤ sizeLine := Nat.le_trans (of_decide_eq_true (List.all_eq_true.mp w51_all _ (puts_mem h))) (by decide +kernel)
noncomputable abbrev ixB (dr : List Nat) : Book := ixTo (putsOf dr) (stopOf dr) numF (putsOf dr).length
noncomputable abbrev duB (dr : List Nat) : Book := dueB (putsOf dr) (stopOf dr : Nat) numF
section
variable {c : Cx} {g : Heap} {s : Shared} {k : Nat} {Q : Flow → Shared → Prop} {E : Value → Shared → Prop}
theorem St.openX {X : List Addr} (S : St c g s) (hX : ∀ a ∈ X, a ∈ c.W) : St { c with O := X ++ c.O, s₀ := anchor c.s₀ X } g s :=
 ⟨by obtain ⟨h, tk, e⟩ := S.sm; exact ⟨h, tk, e⟩, fun b o e => S.kp b o (Sub.hide _ _ e), S.fz, S.live, S.gl, S.vars, S.inW,
  fun a q => (List.mem_append.mp q).elim (fun q => ⟨hX a q, hideAll_none _ q⟩) fun q => ⟨(S.own a q).1, Sub.none Sub.hide (S.own a q).2⟩, List.mem_append_right _ S.loc, fun x hx => ⟨(S.sto x hx).1, fun a l => ⟨List.mem_append_right _ ((S.sto x hx).2 a l).1, ((S.sto x hx).2 a l).2⟩⟩, S.eg, S.eb⟩
theorem St.closeX {X O : List Addr} (S : St { c with O := X ++ O } g s) (hl : c.env.locals ∈ O) (hs : ∀ x ∈ c.S, ∀ a, c.env.cells.lookup x = some a → a ∈ O) : St { c with O := O, s₀ := anchor s O } g s :=
 ⟨⟨s.heap, s.toks, rfl⟩, Sub.hide, S.fz, S.live, S.gl, S.vars, S.inW, fun a q => ⟨(S.own a (List.mem_append_right _ q)).1, hideAll_none _ q⟩, hl, fun x hx => ⟨(S.sto x hx).1, fun a l => ⟨hs x hx a l, ((S.sto x hx).2 a l).2⟩⟩, S.eg, S.eb⟩
structure FC (w : World) (dr : List Nat) (m : Str → Option Value) (g : Heap) : Prop where
 heads : ∃ v, m "heads" = some v ∧ IdxP w (ixB dr) g v
structure Kept (X : List Addr) (s s' : Shared) : Prop where
 sm : Sm s s'
 old : ∀ b o, b ∉ X → s.heap.get? b = some o → s'.heap.get? b = some o
 gr : ∀ a ∈ X, GrownAt a s'.heap
theorem stageC {m : Str → Option Value} {L : Addr} {W O : List Addr} {s₀ : Shared} {dr : List Nat} (hdr : dr.length ≤ 10) (hK : c.K = HK c.w.params) (hA : AOk 14 c.A) (S : St (fnCx c (en259 c.w.params L) m W O ss259 s₀) g s) (fa : FA c.w m g) (fb : FB c.w dr m g)
  (hX : ∀ a ∈ [225, 100], a ∈ W ∧ a ∉ foot (en259 c.w.params L)) (hO : ∀ x ∈ ss259, ∀ a, (en259 c.w.params L).cells.lookup x = some a → a ∈ O) (hT : ∀ a ∈ [225, 100], s₀.heap.get? a = some (tabObj #[]))
  (h : ∀ m' g' s' s₀', St (fnCx c (en259 c.w.params L) m' W O ss259 s₀') g' s' → Sub g g' → FC c.w dr m' g' → Keep ["heads"] m m' → Kept [225, 100] s₀ s₀' → Q .next s') :
  wpAny (model PG c.w) (c.A.deeper (en259 c.w.params L)) (execs (((bd259 c.w.params).drop 8).take 1) (en259 c.w.params L)) Q E s := by
 have hA' : AOk 13 (c.A.deeper (en259 c.w.params L)) := AOk.deeper (n := 13) hA
 obtain ⟨_, _, _, ⟨vn, en, rn⟩⟩ := fa
 obtain ⟨_, ⟨vp, ep, rp⟩, ⟨vs, es, rs⟩, _⟩ := fb
 have t1 : s.heap.get? 225 = some (tabObj #[]) := S.kp _ _ (hT 225 (.head _))
 have t2 : s.heap.get? 100 = some (tabObj #[]) := S.kp _ _ (hT 100 (.tail _ (.head _)))
 have S₁ : St (fnCx c (en259 c.w.params L) m W ([225, 100] ++ O) ss259 (anchor s₀ [225, 100])) g s := S.openX (X := [225, 100]) fun a q => (hX a q).1
 have hpl := putsOf_len dr
 refine wpAny_execs_cons (wpAny_Assign_Name ?_ (by rfl))
 refine Call_ (S₁.run Sub.refl (gv_global (P := fun _ v => v = .ref 230) (v := .ref 230) rfl (by show nsIn c.K _ _ = _; rw [hK]; rfl) fun _ _ => rfl) fun g₂ s₂ v S₂ sg₂ sh₂ q => ?_) (by rfl)
 subst q
 refine callWith_def (o := ob230 c.w.params) (fd := fd230 c.w.params) rfl ?_ (by rfl)
 refine S₂.run Sub.refl (ar_d (gv_var rfl ep (rp.mono sg₂)) (ar_d (gv_var rfl es (rs.mono sg₂)) (ar_cons (P := DcP c.w numKv) DcP.mono (gv_name rfl en fun g' s => DcP.mono _ _ _ (sg₂.trans s) rn) ar_nil))) fun g₃ s₃ vsx S₃ sg₃ sh₃ q => ?_
 obtain ⟨v1, _, rfl, r1, v2, _, rfl, r2, v3, _, rfl, r3, rfl⟩ := q
 have sh : Sub s.heap s₃.heap := sh₂.trans sh₃
 refine ⟨S₃.fz.sub _ _ (S₃.gl.K _ _ (by show c.K.lookup _ = _; rw [hK]; rfl)), ?_⟩
 refine call_index (c := fnCx c (en259 c.w.params L) m W ([225, 100] ++ O) ss259 (anchor s₀ [225, 100])) numF hK (AOk.mono hA' (by omega)) (by rw [hpl, sizeLine_eq]; omega) (fun p hp => puts_le hp) (fun p hp one ho hn => (num_at (puts_mem hp) ho hn).2) r1 r2 r3 S₃ (.head _) (.tail _ (.head _)) (hX 225 (.head _)).2 (hX 100 (.tail _ (.head _))).2
  (sh _ _ t1) (sh _ _ t2) fun g₄ s₄ v S₄ sg₄ p gr1 gr2 kp₄ => ?_
 refine st_store (c := fnCx c (en259 c.w.params L) m W ([225, 100] ++ O) ss259 (anchor s₀ [225, 100])) S₄ (by show _ ∈ ss259; decide) fun s₅ S₅ b₅ => ?_
 have nfoot : ∀ a ∈ [225, 100], a ∉ foot (en259 c.w.params L) := fun a q => (hX a q).2
 have S₅ : St { (fnCx c (en259 c.w.params L) (upd m "heads" v) W O ss259 (anchor s₀ [225, 100])) with O := [225, 100] ++ O } g₄ s₅ := S₅
 have S₆ : St (fnCx c (en259 c.w.params L) (upd m "heads" v) W O ss259 (anchor s₅ O)) g₄ s₅ := St.closeX (c := fnCx c (en259 c.w.params L) (upd m "heads" v) W O ss259 (anchor s₀ [225, 100])) S₅ S.loc hO
 refine wpAny_execs_nil (h _ g₄ s₅ _ S₆ ((sg₂.trans sg₃).trans sg₄) ⟨v, upd_eq, p⟩ (fun y hy => upd_ne (nc_head hy)) ?_)
 have hXO : ∀ a ∈ [225, 100], a ∉ O := fun a q z => by have := (S.own a z).2; rw [show (fnCx c (en259 c.w.params L) m W O ss259 s₀).s₀.heap.get? a = some _ from hT a q] at this; cases this
 refine ⟨?_, fun b o n e => ?_, fun a q => ?_⟩
 ·obtain ⟨h1, t, e⟩ := S₅.sm
  refine ⟨(anchor s₅ O).heap, s₅.toks, ?_⟩
  rw [e]; rfl
 ·have hbO : b ∉ O := fun z => by have := (S.own b z).2; rw [show (fnCx c (en259 c.w.params L) m W O ss259 s₀).s₀.heap.get? b = some o from e] at this; cases this
  exact hideAll_get _ (S₅.kp b o (hideAll_get _ e n)) hbO
 ·have : GrownAt a s₄.heap := by
   rcases List.mem_cons.mp q with rfl | q
   ·exact gr1
   ·rw [List.mem_singleton.mp q]; exact gr2
  obtain ⟨ps, e⟩ := this
  exact ⟨ps, hideAll_get _ (b₅.keep (nfoot a q) e) (hXO a q)⟩
end
noncomputable def rowN (b : Book) (i : Nat) : Row := (b.getD i ("", [])).2
noncomputable def stockKv (b : Book) : List (Str × PyData) := puts2 b.length (fun i => (rowN b i).length) (fun i j => ((rowN b i).getD j ("", 0)).1) (fun i j => .int ((rowN b i).getD j ("", 0)).2)
noncomputable def maxI (l : List Int) : Int := l.getD (bestOf (fun i j => decide (l.getD j 0 < l.getD i 0)) (l.length - 1)) 0
noncomputable def lensAt (kvs : List (Str × PyData)) (x : Str) (k : Nat) : List Int := [1] ++ ((kvs.map (·.1)).filter fun w => fits x k w).map fun w => (w.length : Int)
noncomputable def plainAt (kvs : List (Str × PyData)) (x : Str) (k : Nat) : Str := sl x k (k + (maxI (lensAt kvs x k)).toNat)
theorem maxI_ge (l : List Int) (a : Int) (r : List Int) (h : l = a :: r) : a ≤ maxI l := by
 have key : ∀ n, n < l.length → a ≤ l.getD (bestOf (fun i j => decide (l.getD j 0 < l.getD i 0)) n) 0 := by
  intro n
  induction n with
  | zero => intro _; subst h; exact Int.le_refl _
  | succ n ih =>
   intro hn
   have ih := ih (by omega)
   unfold bestOf
   split
   ·rename_i hg
    have := of_decide_eq_true hg
    omega
   ·exact ih
 subst h
 exact key _ (by simp)
section
variable {c : Cx} {g : Heap} {s : Shared} {k : Nat} {Q : Flow → Shared → Prop} {E : Value → Shared → Prop}
theorem max_ints {v : Value} {l : List Int} (hA : AOk (k + 1) c.A) (hv : Rd g v (.list (dInts l))) (hne : 0 < l.length) : Does c (call (.builtin "max") [v]) (RdP (.int (maxI l))) g := by
 have hl : (dInts l).length = l.length := List.length_map ..
 refine Does.imp (op_max (fun i j => decide (l.getD j 0 < l.getD i 0)) hA hv (by rw [hl]; exact hne) fun i j di dj vi vj s Q E hi hj ri rj q => ?_) fun g' x _ ⟨d, e, r⟩ => ?_
 ·unfold dInts at hi hj
  rw [List.getElem?_map] at hi hj
  cases e1 : l[i]? with
  | none => rw [e1] at hi; cases hi
  | some p =>
   cases e2 : l[j]? with
   | none => rw [e2] at hj; cases hj
   | some p' =>
    rw [e1] at hi; rw [e2] at hj
    cases hi; cases hj
    obtain ⟨t, rfl⟩ := ri.inv_int
    obtain ⟨u, rfl⟩ := rj.inv_int
    rw [getD_of e1, getD_of e2] at q
    exact PyProof.Rows.gt_int q
 ·rw [hl] at e
  unfold dInts at e
  rw [List.getElem?_map] at e
  cases e1 : l[bestOf (fun i j => decide (l.getD j 0 < l.getD i 0)) (l.length - 1)]? with
  | none => rw [e1] at e; cases e
  | some p =>
   rw [e1] at e; cases e
   unfold maxI
   rw [getD_of e1]; exact r
end
section
variable {c : Cx} {g : Heap} {s : Shared} {k : Nat} {Q : Flow → Shared → Prop} {E : Value → Shared → Prop}
theorem putsF_len (kvs : List (Str × PyData)) (key : Nat → Str) (val : Nat → PyData) : ∀ n, (putsF kvs key val n).length ≤ kvs.length + n
 | 0 => Nat.le_refl _
 | n + 1 => by rw [putsF_succ]; exact Nat.le_trans (put_len _ _ _) (Nat.succ_le_succ (putsF_len kvs key val n))
theorem puts2_len (n₁ : Nat → Nat) (key : Nat → Nat → Str) (val : Nat → Nat → PyData) (B : Nat) : ∀ n, (∀ i, i < n → n₁ i ≤ B) → (puts2 n n₁ key val).length ≤ n * B
 | 0, _ => Nat.zero_le _
 | n + 1, h => by
  rw [puts2_succ]
  have h1 := putsF_len (puts2 n n₁ key val) (key n) (val n) (n₁ n)
  have h2 := puts2_len n₁ key val B n fun i hi => h i (Nat.lt_succ_of_lt hi)
  have h3 := h n (Nat.lt_succ_self n)
  rw [Nat.succ_mul]; omega
theorem row_len38 {b : Book} (hf : Few b 38) (i : Nat) (hi : i < b.length) : (rowN b i).length ≤ 38 := hf.2 _ (getD_mem hi)
theorem VD.sub {ds : List PyData} {i : Nat} {g g' : Heap} {v : Value} (x : VD ds i g v) (s : Sub g g') : VD ds i g' v := let ⟨d, e, r⟩ := x; ⟨d, e, r.mono s⟩
theorem it_dict_valuesN {tg : Expr} {v : Value} {n : Nat} {kvs : List (Str × PyData)} (hA : AOk k c.A) (h : VwP c.w kvs g v) (hn : kvs.length = n) : DoesIt c tg (pyIter v) n (VD (kvs.map (·.2))) g := hn ▸ it_dict_values hA h
theorem it_dict_keysN {tg : Expr} {v : Value} {ks : List Str} {kvs : List (Str × PyData)} (hA : AOk k c.A) (h : DcP c.w kvs g v) (hn : kvs.map (·.1) = ks) : DoesIt c tg (pyIter v) ks.length (VD (ks.map PyData.str)) g := by
 subst hn
 rw [List.length_map, List.map_map]
 exact it_dict_keys hA h
structure FD (w : World) (b : Book) (x : Str) (m : Str → Option Value) (g : Heap) : Prop where
 due : ∃ v, m "due" = some v ∧ DcP w (encB b) g v
 stock : ∃ v, m "stock" = some v ∧ DcP w (stockKv b) g v
 toks : ∃ v, m "tokens" = some v ∧ Rd g v (.list ((tokens b x).map encT))
 plain : ∃ v, m "plain" = some v ∧ Rd g v (.list ((tokens b x).map fun t => .str (plainAt (stockKv b) x t.1)))
theorem encB_len (b : Book) : (encB b).length = b.length := List.length_map ..
theorem encB_vals (b : Book) : (encB b).map (·.2) = b.map (fun kv => encRow kv.2) := by unfold encB; rw [List.map_map]; rfl
theorem le_one_add {a b f : Nat} (h1 : a ≤ 1) (h2 : b ≤ f) : a + b ≤ f + 1 := by rw [Nat.add_comm]; exact Nat.add_le_add h2 h1
theorem dict_room {F P i j r b : Nat} (h1 : P ≤ i * 38) (h2 : F ≤ P + j) (h3 : r ≤ 38) (hj : j < r) (h4 : b ≤ 38) (hi : i < b) : F ≤ sizeLine := by rw [sizeLine_eq]; omega
theorem toksF_len (b : Book) (x : Str) : ∀ f k, (toksF b x f k).length ≤ f
 | 0, _ => Nat.le_refl _
 | f + 1, k => by
  unfold toksF
  split
  ·rw [List.length_append]
   have h1 : (tokAt b x k).length ≤ 1 := by unfold tokAt; split <;> simp
   exact le_one_add h1 (toksF_len b x f (k + (best b x k).1.toNat))
  ·exact Nat.zero_le _
theorem tokens_len (b : Book) (x : Str) : (tokens b x).length ≤ x.length := Nat.le_trans (toksF_len b x _ _) (Nat.sub_le _ _)
noncomputable def trip (t : Tk) : List PyData := [.int (t.1 : Int), .str t.2.1, .int t.2.2]
theorem encT_trip (l : List Tk) : l.map encT = (l.map trip).map PyData.tuple := by rw [List.map_map]; rfl
theorem trip3 (l : List Tk) : ∀ d ∈ l.map trip, d.length = 3 := fun d hd => by obtain ⟨t, _, rfl⟩ := List.mem_map.mp hd; rfl
theorem at_trip {l : List Tk} {i : Nat} (h : i < l.length) : (l.map trip)[i]? = some (trip (l.getD i (0, "", 0))) := by
 rw [List.getElem?_map, getD_some' (d := (((0, "", 0) : Tk))) h]; rfl
theorem stageD {m : Str → Option Value} {L : Addr} {W O : List Addr} {s₀ : Shared} {b : Book} {x : Str} {dr : List Nat} (hdr : dr.length ≤ 10) (hK : c.K = HK c.w.params) (hA : AOk 14 c.A) (S : St (fnCx c (en259 c.w.params L) m W O ss259 s₀) g s) (fa : FA c.w m g) (fb : FB c.w dr m g) (hx : x = lineOf dr)
  (hb : b = duB dr) (hheads : ∃ v, m "heads" = some v ∧ IdxP c.w b g v) (hxz : x.length ≤ 1000) (hent : ∀ kv ∈ b, ∀ p ∈ kv.2, p.1.length ≤ 8) (hst : (stockKv b).length ≤ 2000) (hkl : ∀ kv ∈ stockKv b, kv.1.length ≤ 8)
  (h : ∀ m' g' s', St (fnCx c (en259 c.w.params L) m' W O ss259 s₀) g' s' → Sub g g' → FD c.w b x m' g' → Keep ["due", "stock", "tokens", "plain"] m m' → Q .next s') :
  wpAny (model PG c.w) (c.A.deeper (en259 c.w.params L)) (execs (((bd259 c.w.params).drop 9).take 4) (en259 c.w.params L)) Q E s := by
 have hA' : AOk 13 (c.A.deeper (en259 c.w.params L)) := AOk.deeper (n := 13) hA
 obtain ⟨_, _, ⟨vo, eo, ro⟩, _⟩ := fa
 obtain ⟨_, ⟨vp, ep, rp⟩, ⟨vs, es, rs⟩, ⟨vl, el, rl⟩⟩ := fb
 obtain ⟨vh, eh, rh⟩ := hheads
 rw [← hx] at rl
 have hpl := putsOf_len dr
 have hfew : Few b 38 := by
  have := few_due (puts := putsOf dr) (stop := (stopOf dr : Nat)) (num := numF) (putsOf dr).length
  rw [hb]
  exact ⟨Nat.le_trans this.1 (by omega), fun kv hm => Nat.le_trans (this.2 kv hm) (by omega)⟩
 refine S.assign (P := DcP c.w (encB b)) (by show _ ∈ ss259; decide) ?_ fun g₁ s₁ v₁ sg₁ p₁ S₁ => ?_
 ·refine gv_call_d (o := ob237 c.w.params) (fd := fd237 c.w.params) (R := PL [RdP (.list (dStrs (putsOf dr))), RdP (.int (stopOf dr : Nat)), DcP c.w ownKv]) (by show c.K.lookup _ = _; rw [hK]; rfl) rfl (gv_global (v := .ref 237) rfl (by show nsIn c.K _ _ = _; rw [hK]; rfl) fun _ _ => rfl)
   (ar_d (gv_var rfl ep rp) (ar_d (gv_var rfl es rs) (ar_cons DcP.mono (gv_name rfl eo fun g' s => DcP.mono _ _ _ s ro) ar_nil))) fun g₁ vsx sg q => ?_
  obtain ⟨v1, _, rfl, r1, v2, _, rfl, r2, v3, _, rfl, r3, rfl⟩ := q
  rw [hb]
  exact call_due numF hK (AOk.mono hA' (by omega)) (by rw [hpl, sizeLine_eq]; omega) (fun p hp => puts_le hp) (fun p hp one ho hn => (num_at (puts_mem hp) ho hn).1) r1 r2 r3
 have S₁ : St (fnCx c (en259 c.w.params L) (upd m "due" v₁) W O ss259 s₀) g₁ s₁ := S₁
 have d1 : upd m "due" v₁ "due" = some v₁ := upd_eq
 have l1 : upd m "due" v₁ "line" = some vl := (upd_ne (by decide)).trans el
 have h1 : upd m "due" v₁ "heads" = some vh := (upd_ne (by decide)).trans eh
 refine S₁.assign (P := DcP c.w (stockKv b)) (by show _ ∈ ss259; decide) ?_ fun g₂ s₂ v₂ sg₂ p₂ S₂ => ?_
 ·have hvals : (encB b).map (·.2) = b.map (fun kv => encRow kv.2) := encB_vals b
  refine gv_comp (G := ⟨_, _, _, _⟩) (T := ["row", "one", "number"]) (n := b.length) (V := VD ((encB b).map (·.2))) (Acc := AccD c.w (stockKv b)) (arm_eval_DictComp ..) rfl (fun _ => rfl) (by rfl) (by rfl)
   (.of (P := VwP c.w (encB b)) (gv_values (gv_name rfl d1 fun g' s => DcP.mono _ _ _ s p₁)) fun g' y sg p => it_dict_valuesN (c := fnCx c (en259 c.w.params L) (upd m "due" v₁) W O ss259 s₀) (kvs := encB b) hA' p (encB_len b))
   (fun s Q E q => new_dict s Q E q) rfl (fun g' q => ?_) AccD.res
  refine blk_dict2 (T₀ := ["row"]) (T₁ := ["one", "number"]) (Tg := TgN "row" (VD ((encB b).map (·.2)))) (P₁ := fun i => RdP (encRow (rowN b i))) (V₁ := fun i => VD (((rowN b i).map fun p => [PyData.str p.1, PyData.int p.2]).map PyData.tuple)) (Tg₁ := fun i => TgT ["one", "number"] ((rowN b i).map fun p => [PyData.str p.1, PyData.int p.2]))
   (fun i j => ((rowN b i).getD j ("", 0)).1) (fun i j => .int ((rowN b i).getD j ("", 0)).2) (fun i j hi hj => ?_) (fun y hy => nc_one (nc_head hy)) (fun y hy => ?_) (fun y hy => ?_) at_name (fun i hi => at_pair hA' (by decide) fun d hd => by obtain ⟨p, _, rfl⟩ := List.mem_map.mp hd; rfl)
   (fun i g g' m m' s q ⟨v, e, r⟩ => ⟨v, (q "row" (by decide)).trans e, r.sub s⟩) (fun i gB c' hi sg inC tg => ?_) (fun i j gB c' hi hj sg inC tg tg1 => ?_) (fun _ _ => rfl)
  ·have h1 := puts2_len (fun i => (rowN b i).length) (fun i j => ((rowN b i).getD j ("", 0)).1) (fun i j => .int ((rowN b i).getD j ("", 0)).2) 38 i fun i' hi' => row_len38 hfew i' (Nat.lt_trans hi' hi)
   have h2 := putsF_len (puts2 i (fun i => (rowN b i).length) (fun i j => ((rowN b i).getD j ("", 0)).1) (fun i j => .int ((rowN b i).getD j ("", 0)).2)) (fun j => ((rowN b i).getD j ("", 0)).1) (fun j => .int ((rowN b i).getD j ("", 0)).2) j
   exact dict_room h1 h2 (row_len38 hfew i hi) hj hfew.1 hi
  ·have := nc_tail hy
   exact this
  ·rcases hy with hy | hy
   ·rw [List.mem_singleton.mp hy]; exact .head _
   ·exact .tail _ hy
  ·obtain ⟨v', e', d, hd, rv⟩ := tg
   rw [hvals, List.getElem?_map, getD_some' (d := (((("" : Str), ([] : Row))))) hi] at hd
   cases hd
   obtain ⟨⟨C, W', O', s', m', rfl⟩, _, _, _⟩ := inC
   exact ⟨gv_var rfl e' rv, fun g' y sg p => it_listN hA' (encRow_eq _ ▸ p) (by rw [List.length_map, List.length_map])⟩
  ·have hget : ((rowN b i).map fun p => [PyData.str p.1, PyData.int p.2])[j]? = some [.str ((rowN b i).getD j ("", 0)).1, .int ((rowN b i).getD j ("", 0)).2] := by
    rw [List.getElem?_map, getD_some' (l := rowN b i) (d := ((("", 0) : Str × Int))) hj]; rfl
   obtain ⟨v1, v2, e1, e2, r1, r2⟩ := two_of tg1 hget
   obtain ⟨⟨C, W', O', s', m', rfl⟩, _, _, _⟩ := inC
   exact ⟨gv_var rfl e1 r1, gv_var rfl e2 r2⟩
 have S₂ : St (fnCx c (en259 c.w.params L) (upd (upd m "due" v₁) "stock" v₂) W O ss259 s₀) g₂ s₂ := S₂
 have d2 : upd (upd m "due" v₁) "stock" v₂ "due" = some v₁ := (upd_ne (by decide)).trans d1
 have l2 : upd (upd m "due" v₁) "stock" v₂ "line" = some vl := (upd_ne (by decide)).trans l1
 have h2 : upd (upd m "due" v₁) "stock" v₂ "heads" = some vh := (upd_ne (by decide)).trans h1
 have k2 : upd (upd m "due" v₁) "stock" v₂ "stock" = some v₂ := upd_eq
 refine S₂.assign (P := RdP (.list ((tokens b x).map encT))) (by show _ ∈ ss259; decide) ?_ fun g₃ s₃ v₃ sg₃ p₃ S₃ => ?_
 ·refine gv_call_d (o := ob242 c.w.params) (fd := fd242 c.w.params) (R := PL [IdxP c.w b, RdP (.str x)]) (by show c.K.lookup _ = _; rw [hK]; rfl) rfl (gv_global (v := .ref 242) rfl (by show nsIn c.K _ _ = _; rw [hK]; rfl) fun _ _ => rfl)
   (ar_cons IdxP.mono (gv_name rfl h2 fun g' s => IdxP.mono _ _ _ ((sg₁.trans sg₂).trans s) rh) (ar_d (gv_var rfl l2 (rl.mono (sg₁.trans sg₂))) ar_nil)) fun g₁ vsx sg q => ?_
  obtain ⟨v1, _, rfl, r1, v2, _, rfl, r2, rfl⟩ := q
  exact call_tokens hK (AOk.mono hA' (by omega)) (by rw [sizeLine_eq]; omega) (fun key => by have := hfew.at key; rw [sizeLine_eq]; omega) (fun kv hk p hp => Nat.le_trans (hent kv hk p hp) (by decide +kernel)) IdxP.mono heads_idx r1 r2
 have S₃ : St (fnCx c (en259 c.w.params L) (upd (upd (upd m "due" v₁) "stock" v₂) "tokens" v₃) W O ss259 s₀) g₃ s₃ := S₃
 have d3 : upd (upd (upd m "due" v₁) "stock" v₂) "tokens" v₃ "due" = some v₁ := (upd_ne (by decide)).trans d2
 have l3 : upd (upd (upd m "due" v₁) "stock" v₂) "tokens" v₃ "line" = some vl := (upd_ne (by decide)).trans l2
 have k3 : upd (upd (upd m "due" v₁) "stock" v₂) "tokens" v₃ "stock" = some v₂ := (upd_ne (by decide)).trans k2
 have t3 : upd (upd (upd m "due" v₁) "stock" v₂) "tokens" v₃ "tokens" = some v₃ := upd_eq
 have htl := tokens_len b x
 have htn : ((tokens b x).map encT).length = (tokens b x).length := List.length_map ..
 have hout : (tokens b x).map (fun t => PyData.str (plainAt (stockKv b) x t.1)) = outs (tokens b x).length (fun _ => true) (fun i => .str (plainAt (stockKv b) x ((tokens b x).getD i (0, "", 0)).1)) := (outs_all (fun t : Tk => PyData.str (plainAt (stockKv b) x t.1)) (0, "", 0) _).symm
 refine ex_listcomp (c := fnCx c (en259 c.w.params L) (upd (upd (upd m "due" v₁) "stock" v₂) "tokens" v₃) W O ss259 s₀) (n := (tokens b x).length) ["k", "word", "number"] (fun _ => true) (fun i => .str (plainAt (stockKv b) x ((tokens b x).getD i (0, "", 0)).1)) (by rfl) (by show _ ∈ ss259; decide) (by rfl) (by rfl)
  (gv_var rfl t3 p₃) (fun g' y sg p => it_listN hA' (encT_trip _ ▸ p) (by rw [List.length_map, List.length_map])) (by rw [sizeLine_eq]; omega) (at_triple hA' (by decide) (trip3 _)) (fun i gB c' hi sg inC tg => ⟨tl_nil, fun _ => ?_⟩) S₃ fun g₄ s₄ v₄ sg₄ p₄ S₄ => ?_
 ·obtain ⟨u1, u2, u3, e1, e2, e3, r1, r2, r3⟩ := three_of tg (at_trip hi)
  generalize (tokens b x).getD i (0, "", 0) = tk at r1 r2 r3 ⊢
  obtain ⟨q, tw, tn⟩ := tk
  have fl : c'.m "line" = some vl := inC_free inC rfl rfl l3
  have fs : c'.m "stock" = some v₂ := inC_free inC rfl rfl k3
  obtain ⟨⟨C, W', O', s', m', rfl⟩, _, _, _⟩ := inC
  have rl' : Rd gB vl (.str x) := rl.mono (((sg₁.trans sg₂).trans sg₃).trans sg)
  have rs' : DcP c.w (stockKv b) gB v₂ := DcP.mono _ _ _ (sg₃.trans sg) p₂
  have hmx : 1 ≤ maxI (lensAt (stockKv b) x q) := maxI_ge _ 1 _ rfl
  have hmi : ((maxI (lensAt (stockKv b) x q)).toNat : Int) = maxI (lensAt (stockKv b) x q) := Int.toNat_of_nonneg (by omega)
  obtain ⟨ks, hks⟩ : ∃ ks, (stockKv b).map (·.1) = ks := ⟨_, rfl⟩
  have hksl : ks.length ≤ 2000 := by rw [← hks, List.length_map]; exact hst
  have hkl' : ∀ w ∈ ks, w.length ≤ 8 := fun w hw => by rw [← hks] at hw; obtain ⟨kv, hm, rfl⟩ := List.mem_map.mp hw; exact hkl kv hm
  have r1 : Rd gB u1 (.int (q : Int)) := r1
  refine gv_str_slice (x := x) (a := q) (b := q + (maxI (lensAt (stockKv b) x q)).toNat) (by rw [sizeLine_eq]; omega) (Nat.le_add_right _ _) (gv_var rfl fl rl') (gv_var rfl e1 r1) ?_
  rw [Int.natCast_add, hmi]
  refine gv_add_int (gv_var rfl e1 r1) (gv_call_b (R := PL [RdP (.list (dInts (lensAt (stockKv b) x q)))]) (gv_bi rfl hK rfl (by rfl) (by decide)) (ar_d ?_ ar_nil) fun g₁ vsx sgx r => ?_)
  ·have e : dInts (lensAt (stockKv b) x q) = [.int 1] ++ outs ks.length (fun i => fits x q (ks.getD i ("" : Str))) (fun i => .int (((ks.getD i ("" : Str)).length : Nat) : Int)) := by
    rw [outs_list (fun w : Str => fits x q w) (fun w : Str => PyData.int ((w.length : Nat) : Int)) ("" : Str) ks]
    unfold lensAt dInts
    rw [hks, List.map_append, List.map_map]
    rfl
   have ho : (outs ks.length (fun i => fits x q (ks.getD i ("" : Str))) (fun i => PyData.int (((ks.getD i ("" : Str)).length : Nat) : Int))).length ≤ 2000 := by
    rw [outs_list (fun w : Str => fits x q w) (fun w : Str => PyData.int ((w.length : Nat) : Int)) ("" : Str) ks, List.length_map]
    exact Nat.le_trans (List.length_filter_le _ _) hksl
   rw [e]
   refine gv_add_list (by rw [sizeLine_eq]; simp only [List.length_cons, List.length_nil]; omega) (gv_list (ds := [.int 1]) (ar_d gv_int ar_nil) (by rw [sizeLine_eq]; decide)) ?_
   refine gv_listcomp (n := ks.length) ["one"] _ _ (by rfl) (by rfl) (P := DcP c.w (stockKv b)) (V := VD (ks.map PyData.str)) (gv_name rfl fs fun g' s => DcP.mono _ _ _ s rs') (fun g' y sg p => it_dict_keysN hA' p hks) (by rw [sizeLine_eq]; omega) at_name fun i gC c'' hi' sgC inC2 tg2 => ?_
   ·obtain ⟨v', e', tv⟩ := tg2
    obtain ⟨hlt, rv⟩ := vd_at (d := ("" : Str)) tv
    have hmw : ks.getD i ("" : Str) ∈ ks := getD_mem hlt
    generalize ks.getD i ("" : Str) = w at rv hmw ⊢
    have hwl : w.length ≤ sizeLine := Nat.le_trans (hkl' w hmw) (by decide +kernel)
    have fk : c''.m "k" = some u1 := inC_free inC2 rfl rfl e1
    have fl2 : c''.m "line" = some vl := inC_free inC2 rfl rfl fl
    obtain ⟨⟨C2, W2, O2, s2, m2, rfl⟩, _, _, _⟩ := inC2
    refine ⟨tl_one (ts_compare1 (P₁ := RdP (.str (sl x q (q + w.length)))) RdP.mono (gv_str_slice (by rw [sizeLine_eq]; omega) (Nat.le_add_right _ _) (gv_var rfl fl2 (rl'.mono sgC)) (gv_var rfl fk (r1.mono sgC)) (by rw [Int.natCast_add]; exact gv_add_int (gv_var rfl fk (r1.mono sgC)) (gv_len_str hwl (gv_bi rfl hK rfl (by rfl) (by decide)) (gv_var rfl e' rv)))) (gv_var rfl e' rv) fun g₁ a b _ p q => op_eq_str p q), fun _ => gv_len_str hwl (gv_bi rfl hK rfl (by rfl) (by decide)) (gv_var rfl e' rv)⟩
  ·obtain ⟨v, _, rfl, rv, rfl⟩ := r
   exact max_ints (k := 12) hA' rv (Nat.succ_pos _)
 have S₄ : St (fnCx c (en259 c.w.params L) (upd (upd (upd (upd m "due" v₁) "stock" v₂) "tokens" v₃) "plain" v₄) W O ss259 s₀) g₄ s₄ := S₄
 rw [← hout] at p₄
 refine wpAny_execs_nil (h _ g₄ s₄ S₄ (((sg₁.trans sg₂).trans sg₃).trans sg₄) ⟨⟨v₁, (upd_ne (by decide)).trans d3, DcP.mono _ _ _ ((sg₂.trans sg₃).trans sg₄) p₁⟩, ⟨v₂, (upd_ne (by decide)).trans k3, DcP.mono _ _ _ (sg₃.trans sg₄) p₂⟩, ⟨v₃, (upd_ne (by decide)).trans t3, Rd.mono p₃ sg₄⟩, ⟨v₄, upd_eq, p₄⟩⟩ fun y hy => ?_)
 exact (upd_ne (nc_head (nc_tail (nc_tail (nc_tail hy))))).trans ((upd_ne (nc_head (nc_tail (nc_tail hy)))).trans ((upd_ne (nc_head (nc_tail hy))).trans (upd_ne (nc_head hy))))
end
noncomputable def Sh (n : Nat) (d : PyData) : Prop := d.canLay0 = true ∧ d.depth ≤ n
noncomputable def Ok (x : Str) : Prop := x.length ≤ 2000 ∧ ∀ ch ∈ x.cps.toList, ch < 128
theorem sh_all {n : Nat} : ∀ ds : List PyData, (∀ d ∈ ds, Sh n d) → PyData.canLayAll0 ds = true ∧ PyData.depthAll ds ≤ n
 | [], _ => ⟨rfl, Nat.zero_le _⟩
 | d :: ds, h => by
  obtain ⟨h1, h2⟩ := h d (.head _)
  obtain ⟨h3, h4⟩ := sh_all ds fun e he => h e (.tail _ he)
  refine ⟨by rw [PyData.canLayAll0, h1, h3]; rfl, ?_⟩
  rw [PyData.depthAll]; exact Nat.max_le.mpr ⟨h2, h4⟩
theorem Sh.list {n : Nat} {ds : List PyData} (h : ∀ d ∈ ds, Sh n d) : Sh (n + 1) (.list ds) := by
 obtain ⟨h1, h2⟩ := sh_all ds h
 exact ⟨by rw [PyData.canLay0]; exact h1, by rw [PyData.depth]; omega⟩
theorem Sh.tuple {n : Nat} {ds : List PyData} (h : ∀ d ∈ ds, Sh n d) : Sh (n + 1) (.tuple ds) := by
 obtain ⟨h1, h2⟩ := sh_all ds h
 exact ⟨by rw [PyData.canLay0]; exact h1, by rw [PyData.depth]; omega⟩
theorem Sh.int {n : Nat} {i : Int} : Sh n (.int i) := ⟨rfl, by simp [PyData.depth]⟩
theorem Sh.str {n : Nat} {x : Str} (h : Ok x) : Sh n (.str x) := by
 refine ⟨?_, by simp [PyData.depth]⟩
 rw [PyData.canLay0]
 unfold PyData.strOk
 rw [← Array.all_toList, List.all_eq_true]
 intro ch hc
 have := h.2 ch hc
 exact decide_eq_true (by omega)
theorem Sh.mono {n k : Nat} {d : PyData} (h : Sh n d) (hk : n ≤ k) : Sh k d := ⟨h.1, Nat.le_trans h.2 hk⟩
theorem Sh.shaped {n : Nat} {d : PyData} (h : Sh n d) (hn : n ≤ 64) : SeqAt.shaped d = true := by
 unfold SeqAt.shaped
 rw [h.1, Bool.true_and]
 exact decide_eq_true (Nat.le_trans h.2 hn)
theorem Sh.refl {n : Nat} {d : PyData} (h : Sh n d) : PyData.eqv d d = true := SeqAt.eqv_refl d h.1
theorem Ok.sl {x : Str} (h : Ok x) (a b : Nat) : Ok (Mine.sl x a b) := by
 have e : (Mine.sl x a b).cps.toList = (x.cps.toList.drop a).take (b - a) := rfl
 refine ⟨?_, fun ch hc => h.2 ch ?_⟩
 ·rw [← len_cps, e, List.length_take, List.length_drop]
  exact Nat.le_trans (Nat.min_le_right _ _) (Nat.le_trans (Nat.sub_le _ _) (len_cps x ▸ h.1))
 ·rw [e] at hc
  exact List.mem_of_mem_drop (List.mem_of_mem_take hc)
theorem toksF_sl {b : Book} {x : Str} : ∀ f k, ∀ t ∈ toksF b x f k, ∃ a, t.2.1 = sl x t.1 a
 | 0, _, t, h => by cases h
 | f + 1, k, t, h => by
  unfold toksF at h
  split at h
  ·rcases List.mem_append.mp h with h | h
   ·unfold tokAt at h
    split at h
    ·cases h
    ·rw [List.mem_singleton.mp h]; exact ⟨_, rfl⟩
   ·exact toksF_sl f _ t h
  ·cases h
theorem tokens_sl {b : Book} {x : Str} {t : Tk} (h : t ∈ tokens b x) : ∃ a, t.2.1 = sl x t.1 a := toksF_sl _ _ t h
section
variable {c : Cx} {g : Heap} {s : Shared} {k : Nat} {Q : Flow → Shared → Prop} {E : Value → Shared → Prop}
noncomputable def numOf (b : Book) (w : Str) : PyData := (at? (stockKv b) w).getD (.int 0)
theorem stageE {m : Str → Option Value} {L : Addr} {W O : List Addr} {s₀ : Shared} {b : Book} {x : Str} (hK : c.K = HK c.w.params) (hA : AOk 14 c.A) (S : St (fnCx c (en259 c.w.params L) m W O ss259 s₀) g s) (fd : FD c.w b x m g) (hxz : x.length ≤ 1000) (okx : Ok x)
  (T1 : ∀ t ∈ tokens b x, plainAt (stockKv b) x t.1 = t.2.1 ∧ numOf b t.2.1 = .int t.2.2)
  (h : ∀ g' s', St (fnCx c (en259 c.w.params L) m W O ss259 s₀) g' s' → Sub g g' → Q .next s') :
  wpAny (model PG c.w) (c.A.deeper (en259 c.w.params L)) (execs (((bd259 c.w.params).drop 13).take 1) (en259 c.w.params L)) Q E s := by
 have hA' : AOk 13 (c.A.deeper (en259 c.w.params L)) := AOk.deeper (n := 13) hA
 obtain ⟨_, ⟨vk, ek, rk⟩, ⟨vt, et, rt⟩, ⟨vp, ep, rp⟩⟩ := fd
 have htl := tokens_len b x
 have eL : outs (tokens b x).length (fun _ => true) (fun i => PyData.tuple [.str ((tokens b x).getD i (0, "", 0)).2.1, .int ((tokens b x).getD i (0, "", 0)).2.2]) = (tokens b x).map fun t => .tuple [.str t.2.1, .int t.2.2] :=
  outs_all (fun t : Tk => PyData.tuple [.str t.2.1, .int t.2.2]) (0, "", 0) _
 have eR : outs (tokens b x).length (fun _ => true) (fun i => PyData.tuple [.str (plainAt (stockKv b) x ((tokens b x).getD i (0, "", 0)).1), numOf b (plainAt (stockKv b) x ((tokens b x).getD i (0, "", 0)).1)]) = (tokens b x).map fun t => .tuple [.str t.2.1, .int t.2.2] := by
  rw [outs_all (fun t : Tk => PyData.tuple [.str (plainAt (stockKv b) x t.1), numOf b (plainAt (stockKv b) x t.1)]) (0, "", 0) _]
  refine List.map_congr_left fun t ht => ?_
  rw [(T1 t ht).1, (T1 t ht).2]
 have hsh : Sh 2 (.list ((tokens b x).map fun t => .tuple [.str t.2.1, .int t.2.2])) := Sh.list fun d hd => by
  obtain ⟨t, ht, rfl⟩ := List.mem_map.mp hd
  refine Sh.tuple fun e he => ?_
  rcases List.mem_cons.mp he with rfl | he
  ·obtain ⟨a, e⟩ := tokens_sl ht
   rw [e]
   exact Sh.str (okx.sl _ _)
  ·rw [List.mem_singleton.mp he]; exact Sh.int
 refine S.ite (x := false) (ts_compare1 (P₁ := RdP (.list ((tokens b x).map fun t => .tuple [.str t.2.1, .int t.2.2]))) (P₂ := RdP (.list ((tokens b x).map fun t => .tuple [.str t.2.1, .int t.2.2]))) RdP.mono ?_ ?_ fun g₁ a b' _ p q => ?_) fun g' s' sg' S' sh => ?_
 ·rw [← eL]
  refine gv_listcomp (c := fnCx c (en259 c.w.params L) m W O ss259 s₀) (n := (tokens b x).length) ["k", "word", "number"] _ _ (by rfl) (by rfl) (gv_var rfl et rt) (fun g' y sg p => it_listN hA' (encT_trip _ ▸ p) (by rw [List.length_map, List.length_map])) (by rw [sizeLine_eq]; omega) (at_triple hA' (by decide) (trip3 _)) fun i gB c' hi sg inC tg => ⟨tl_nil, fun _ => ?_⟩
  obtain ⟨u1, u2, u3, e1, e2, e3, r1, r2, r3⟩ := three_of tg (at_trip hi)
  obtain ⟨⟨C, W', O', s', m', rfl⟩, _, _, _⟩ := inC
  exact gv_tuple (ds := [_, _]) (ar_d (gv_var rfl e2 r2) (ar_d (gv_var rfl e3 r3) ar_nil)) (by rw [sizeLine_eq]; show 2 ≤ _; decide)
 ·rw [← eR]
  refine gv_listcomp (c := fnCx c (en259 c.w.params L) m W O ss259 s₀) (n := (tokens b x).length) ["one"] _ _ (by rfl) (by rfl) (gv_var rfl ep rp) (fun g' y sg p => it_listN hA' p (List.length_map ..)) (by rw [sizeLine_eq]; omega) at_name fun i gB c' hi sg inC tg => ⟨tl_nil, fun _ => ?_⟩
  obtain ⟨v', e', tv⟩ := tg
  obtain ⟨_, rv⟩ := vd_at (h := fun t : Tk => PyData.str (plainAt (stockKv b) x t.1)) (d := (0, "", 0)) tv
  have fk : c'.m "stock" = some vk := inC_free inC rfl rfl ek
  obtain ⟨⟨C, W', O', s', m', rfl⟩, _, _, _⟩ := inC
  exact gv_tuple (ds := [_, _]) (ar_d (gv_var rfl e' rv) (ar_d (gv_dict_get (gv_name rfl fk fun g' s => DcP.mono _ _ _ (sg.trans s) rk) (gv_var rfl e' rv) gv_int hA') ar_nil)) (by rw [sizeLine_eq]; show 2 ≤ _; decide)
 ·have := op_ne_data (c := fnCx c (en259 c.w.params L) m W O ss259 s₀) hA' (hsh.shaped (by decide)) (hsh.shaped (by decide)) p q
  rw [hsh.refl] at this
  exact this
 ·rw [if_neg Bool.false_ne_true]
  exact wpAny_execs_nil (wpAny_execs_nil (h g' s' S' sg'))
end
noncomputable abbrev spansOf (x : Str) : List (List Nat) := spansN x.cps.toList
noncomputable def cutOf (b : Book) (q : Str × List Nat) : List Tk := (tokens b q.1).map fun t => (q.2.getD 0 0 + t.1, t.2.1, t.2.2)
noncomputable def cutsOf (b : Book) (x : Str) : List (List Tk) := ((peeled x).zip (spansOf x)).map (cutOf b)
noncomputable def bareTest (t : Tk) : Bool := Txt.rstripChars t.2.1 "=" != ("" : Str)
noncomputable def bareD (b : Book) (t : Tk) : PyData := .tuple [.int (t.1 : Int), .str (Txt.rstripChars t.2.1 "="), numOf b (Txt.rstripChars t.2.1 "=")]
noncomputable def bareOf (b : Book) (x : Str) : List PyData := ((tokens b x).filter bareTest).map (bareD b)
theorem flat_one {α : Type} (f : α → Bool) (h : α → PyData) (d : α) (xs : List α) : flat xs.length (fun _ => 1) (fun i _ => f (xs.getD i d)) (fun i _ => h (xs.getD i d)) = (xs.filter f).map h := by
 unfold flat
 have e : ∀ i, outs 1 (fun _ => f (xs.getD i d)) (fun _ => h (xs.getD i d)) = if f (xs.getD i d) then [h (xs.getD i d)] else [] := fun i => by
  have key : ∀ (bb : Bool) (y : PyData), ((List.range 1).filter fun _ => bb).map (fun _ => y) = if bb then [y] else [] := fun bb y => by cases bb <;> rfl
  exact key _ _
 rw [show (fun i => outs 1 (fun _ => f (xs.getD i d)) (fun _ => h (xs.getD i d))) = fun i => if f (xs.getD i d) then [h (xs.getD i d)] else [] from funext e]
 rw [← outs_list f h d xs]
 unfold outs
 generalize xs.length = n
 induction n with
 | zero => rfl
 | succ n ih =>
  rw [List.range_succ, List.flatMap_append, ih, List.filter_append, List.map_append]
  congr 1
  have key : ∀ bb : Bool, f (xs.getD n d) = bb → (if bb = true then [h (xs.getD n d)] else []) = List.map (fun i => h (xs.getD i d)) (List.filter (fun i => f (xs.getD i d)) [n]) := fun bb hb => by
   rw [List.filter_cons, hb]
   cases bb <;> rfl
  simp only [List.flatMap_cons, List.flatMap_nil, List.append_nil]
  exact key _ rfl
structure FE (w : World) (b : Book) (x : Str) (m : Str → Option Value) (g : Heap) : Prop where
 parts : ∃ v, m "parts" = some v ∧ Rd g v (.list (dStrs (peeled x)))
 spans : ∃ v, m "spans" = some v ∧ Rd g v (.list ((spansOf x).map natsD))
 cuts : ∃ v, m "cuts" = some v ∧ Rd g v (.list ((cutsOf b x).map fun r => .list (r.map encT)))
 bare : ∃ v, m "bare" = some v ∧ Rd g v (.list (bareOf b x))
section
variable {c : Cx} {g : Heap} {s : Shared} {k : Nat} {Q : Flow → Shared → Prop} {E : Value → Shared → Prop}
theorem lawFr {m : Str → Option Value} {L : Addr} {W O : List Addr} {s₀ : Shared} (S : St (fnCx c (en259 c.w.params L) m W O ss259 s₀) g s) : FrOk [en259 c.w.params L] s.heap ∧ ∀ a ∈ frs [en259 c.w.params L], a ∈ W ∧ s₀.heap.get? a = none :=
 ⟨S.frOwn rfl fun env m => (nomatch m), fun a q => by
  have q : a ∈ [L] := q
  rw [List.mem_singleton.mp q]
  exact ⟨S.inW _ (.head _), (S.own _ S.loc).2⟩⟩
theorem stageF1 {m : Str → Option Value} {L : Addr} {W O : List Addr} {s₀ : Shared} {x : Str} {rest : List Stmt} (hK : c.K = HK c.w.params) (hA : AOk 14 c.A) (hfr : c.A.frames = some []) (S : St (fnCx c (en259 c.w.params L) m W O ss259 s₀) g s) (hl : ∃ v, m "line" = some v ∧ Rd g v (.str x)) (hxz : x.length ≤ 1000)
  (h : ∀ v g' s', St (fnCx c (en259 c.w.params L) (upd m "parts" v) W O ss259 s₀) g' s' → Sub g g' → Rd g' v (.list (dStrs (peeled x))) → wpC (model PG c.w) (c.A.deeper (en259 c.w.params L)) (execs ((bd259 c.w.params).drop 15) (en259 c.w.params L)) Q E s') :
  wpC (model PG c.w) (c.A.deeper (en259 c.w.params L)) (execs ((bd259 c.w.params).drop 14) (en259 c.w.params L)) Q E s := by
 have hA' : AOk 13 (c.A.deeper (en259 c.w.params L)) := AOk.deeper (n := 13) hA
 obtain ⟨vl, el, rl⟩ := hl
 obtain ⟨hF, hW⟩ := lawFr S
 refine wpC_execs_cons (wpC_Assign (S.evPeeled (fr := [en259 c.w.params L]) (x := x) hK (AOk.mono hA' (by omega)) (Around.frames_deeper hfr) hF hW (gv_global (v := .ref 249) rfl (by show nsIn c.K _ _ = _; rw [hK]; rfl) fun _ _ => rfl) (gv_var rfl el rl) (by rw [sizeLine_eq]; omega) fun g' s' v S' sg r sm u => ?_) (by rfl))
 exact st_store (c := fnCx c (en259 c.w.params L) m W O ss259 s₀) S' (by show _ ∈ ss259; decide) fun s₂ S₂ b₂ => h v g' s₂ S₂ sg r
theorem stageF2 {m : Str → Option Value} {L : Addr} {W O : List Addr} {s₀ : Shared} {b : Book} {x : Str} (hK : c.K = HK c.w.params) (hA : AOk 14 c.A) (S : St (fnCx c (en259 c.w.params L) m W O ss259 s₀) g s) (fd : FD c.w b x m g) (hl : ∃ v, m "line" = some v ∧ Rd g v (.str x))
  (hheads : ∃ v, m "heads" = some v ∧ IdxP c.w b g v) (hp : ∃ v, m "parts" = some v ∧ Rd g v (.list (dStrs (peeled x)))) (hxz : x.length ≤ 1000) (hfew : Few b 38) (hent : ∀ kv ∈ b, ∀ p ∈ kv.2, p.1.length ≤ 8) (hpx : ∀ p ∈ peeled x, p.length ≤ 1000) (hpn : (peeled x).length ≤ 1001) (hsn : (spansOf x).length ≤ 1001) (hsl : ∀ sp ∈ spansOf x, sp.length ≤ 1000)
  (hne : ∀ q ∈ (peeled x).zip (spansOf x), tokens b q.1 ≠ [] → q.2 ≠ [])
  (h : ∀ m' g' s', St (fnCx c (en259 c.w.params L) m' W O ss259 s₀) g' s' → Sub g g' → FE c.w b x m' g' → Keep ["spans", "cuts", "bare"] m m' → Q .next s') :
  wpAny (model PG c.w) (c.A.deeper (en259 c.w.params L)) (execs (((bd259 c.w.params).drop 15).take 3) (en259 c.w.params L)) Q E s := by
 have hA' : AOk 13 (c.A.deeper (en259 c.w.params L)) := AOk.deeper (n := 13) hA
 obtain ⟨_, ⟨vk, ek, rk⟩, ⟨vt, et, rt⟩, _⟩ := fd
 obtain ⟨vl, el, rl⟩ := hl
 obtain ⟨vh, eh, rh⟩ := hheads
 obtain ⟨vp, ep, rp⟩ := hp
 refine S.assign (P := RdP (.list ((spansOf x).map natsD))) (by show _ ∈ ss259; decide) ?_ fun g₁ s₁ v₁ sg₁ p₁ S₁ => ?_
 ·refine gv_call_d (o := ob254 c.w.params) (fd := fd254 c.w.params) (R := PL [RdP (.str x)]) (by show c.K.lookup _ = _; rw [hK]; rfl) rfl (gv_global (v := .ref 254) rfl (by show nsIn c.K _ _ = _; rw [hK]; rfl) fun _ _ => rfl) (ar_d (gv_var rfl el rl) ar_nil) fun g₁ vsx sg q => ?_
  obtain ⟨v1, _, rfl, r1, rfl⟩ := q
  exact call_spans hK (AOk.mono hA' (by omega)) (by rw [sizeLine_eq]; omega) r1
 have S₁ : St (fnCx c (en259 c.w.params L) (upd m "spans" v₁) W O ss259 s₀) g₁ s₁ := S₁
 have a1 : upd m "spans" v₁ "spans" = some v₁ := upd_eq
 have p1 : upd m "spans" v₁ "parts" = some vp := (upd_ne (by decide)).trans ep
 have h1 : upd m "spans" v₁ "heads" = some vh := (upd_ne (by decide)).trans eh
 have t1 : upd m "spans" v₁ "tokens" = some vt := (upd_ne (by decide)).trans et
 have k1 : upd m "spans" v₁ "stock" = some vk := (upd_ne (by decide)).trans ek
 have hzl : ((peeled x).zip (spansOf x)).length = min (dStrs (peeled x)).length ((spansOf x).map natsD).length := by rw [List.length_zip]; simp [dStrs]
 have hzip : ((dStrs (peeled x)).zip ((spansOf x).map natsD)).map (fun p => PyData.tuple [p.1, p.2]) = (((peeled x).zip (spansOf x)).map fun q => [PyData.str q.1, natsD q.2]).map PyData.tuple := by
  unfold dStrs
  rw [List.zip_map, List.map_map, List.map_map]; rfl
 have hcut : (cutsOf b x).map (fun r => PyData.list (r.map encT)) = outs ((peeled x).zip (spansOf x)).length (fun _ => true) (fun i => .list ((cutOf b (((peeled x).zip (spansOf x)).getD i ("", []))).map encT)) := by
  rw [outs_all (fun q : Str × List Nat => PyData.list ((cutOf b q).map encT)) ("", []) _]
  unfold cutsOf
  rw [List.map_map]; rfl
 refine ex_comp (c := fnCx c (en259 c.w.params L) (upd m "spans" v₁) W O ss259 s₀) (T := ["part", "span"]) (G := ⟨_, _, _, _⟩) (gs := []) (n := ((peeled x).zip (spansOf x)).length) (V := VD ((((peeled x).zip (spansOf x)).map fun q => [PyData.str q.1, natsD q.2]).map PyData.tuple)) (by rfl) rfl rfl (fun _ => rfl) (by rfl) (by rfl) (by show _ ∈ ss259; decide)
  (by rw [hzl, ← hzip]; exact it2_zip hA' (gv_bi rfl hK rfl (by rfl) (by decide)) (gv_var rfl p1 (rp.mono sg₁)) (gv_var rfl a1 p₁)) (fun s Q E q => new_list s Q E q) rfl
  (blk_list (Tg := TgT ["part", "span"] (((peeled x).zip (spansOf x)).map fun q => [PyData.str q.1, natsD q.2])) (fun _ => true) (fun i => .list ((cutOf b (((peeled x).zip (spansOf x)).getD i ("", []))).map encT)) (by rw [List.length_zip, sizeLine_eq]; omega) (at_pair hA' (by decide) fun d hd => by obtain ⟨p, _, rfl⟩ := List.mem_map.mp hd; rfl) fun i gB c' hi sg inC tg => ⟨tl_nil, fun _ => ?_⟩) AccL.res S₁ fun g₂ s₂ v₂ sg₂ p₂ S₂ => ?_
 ·have hget : (((peeled x).zip (spansOf x)).map fun q => [PyData.str q.1, natsD q.2])[i]? = some [.str (((peeled x).zip (spansOf x)).getD i ("", [])).1, natsD (((peeled x).zip (spansOf x)).getD i ("", [])).2] := by
   rw [List.getElem?_map, getD_some' (l := (peeled x).zip (spansOf x)) (d := ((("", []) : Str × List Nat))) hi]; rfl
  obtain ⟨u1, u2, e1, e2, r1, r2⟩ := two_of tg hget
  have hm : ((peeled x).zip (spansOf x)).getD i ("", []) ∈ (peeled x).zip (spansOf x) := getD_mem hi
  have hne' := hne _ hm
  have hpl : (((peeled x).zip (spansOf x)).getD i ("", [])).1.length ≤ 1000 := hpx _ (List.of_mem_zip hm).1
  have hsl' : (((peeled x).zip (spansOf x)).getD i ("", [])).2.length ≤ 1000 := hsl _ (List.of_mem_zip hm).2
  generalize ((peeled x).zip (spansOf x)).getD i ("", []) = q at r1 r2 hne' hpl hsl' ⊢
  have fh : c'.m "heads" = some vh := inC_free inC rfl rfl h1
  obtain ⟨⟨C, W', O', s', m', rfl⟩, _, _, _⟩ := inC
  have htl := tokens_len b q.1
  have e : (cutOf b q).map encT = outs (tokens b q.1).length (fun _ => true) (fun i => .tuple [.int ((q.2.getD 0 0 + ((tokens b q.1).getD i (0, "", 0)).1 : Nat) : Int), .str ((tokens b q.1).getD i (0, "", 0)).2.1, .int ((tokens b q.1).getD i (0, "", 0)).2.2]) := by
   rw [outs_all (fun t : Tk => PyData.tuple [.int ((q.2.getD 0 0 + t.1 : Nat) : Int), .str t.2.1, .int t.2.2]) (0, "", 0) _]
   unfold cutOf
   rw [List.map_map]; rfl
  rw [e]
  refine gv_listcomp (n := (tokens b q.1).length) ["k", "word", "number"] _ _ (by rfl) (by rfl) (P := RdP (.list ((tokens b q.1).map encT))) ?_ (fun g' y sg p => it_listN hA' (encT_trip _ ▸ p) (by rw [List.length_map, List.length_map])) (by rw [sizeLine_eq]; omega) (at_triple hA' (by decide) (trip3 _)) fun j gC c'' hj sgC inC2 tg2 => ⟨tl_nil, fun _ => ?_⟩
  ·refine gv_call_d (o := ob242 c.w.params) (fd := fd242 c.w.params) (R := PL [IdxP c.w b, RdP (.str q.1)]) (by show c.K.lookup _ = _; rw [hK]; rfl) rfl (gv_global (v := .ref 242) rfl (by show nsIn c.K _ _ = _; rw [hK]; rfl) fun _ _ => rfl)
    (ar_cons IdxP.mono (gv_name rfl fh fun g' s => IdxP.mono _ _ _ ((sg₁.trans sg).trans s) rh) (ar_d (gv_var rfl e1 r1) ar_nil)) fun g₁ vsx sg q' => ?_
   obtain ⟨v1, _, rfl, r1', v2, _, rfl, r2', rfl⟩ := q'
   exact call_tokens hK (AOk.mono hA' (by omega)) (by rw [sizeLine_eq]; omega) (fun key => by have := hfew.at key; rw [sizeLine_eq]; omega) (fun kv hk p hp => Nat.le_trans (hent kv hk p hp) (by decide +kernel)) IdxP.mono heads_idx r1' r2'
  ·obtain ⟨w1, w2, w3, f1, f2, f3, s1, s2, s3⟩ := three_of tg2 (at_trip hj)
   have hq : q.2 ≠ [] := hne' fun z => by rw [z] at hj; exact absurd hj (Nat.not_lt_zero _)
   have fs : c''.m "span" = some u2 := inC_free inC2 rfl rfl e2
   obtain ⟨⟨C2, W2, O2, s2', m2, rfl⟩, _, _, _⟩ := inC2
   have h0 : (q.2.map natD)[0]? = some (.int ((q.2.getD 0 0 : Nat) : Int)) := by
    obtain ⟨q1, q2⟩ := q
    cases q2 with
    | nil => exact absurd rfl hq
    | cons a l => rfl
   refine gv_tuple (ds := [_, _, _]) (ar_d ?_ (ar_d (gv_var rfl f2 s2) (ar_d (gv_var rfl f3 s3) ar_nil))) (by rw [sizeLine_eq]; show 3 ≤ _; decide)
   rw [Int.natCast_add]
   exact gv_add_int (gv_list_item (ds := q.2.map natD) (j := 0) (by rw [List.length_map, sizeLine_eq]; omega) h0 (gv_var rfl fs (r2.mono sgC)) gv_int) (gv_var rfl f1 s1)
 have S₂ : St (fnCx c (en259 c.w.params L) (upd (upd m "spans" v₁) "cuts" v₂) W O ss259 s₀) g₂ s₂ := S₂
 have t2 : upd (upd m "spans" v₁) "cuts" v₂ "tokens" = some vt := (upd_ne (by decide)).trans t1
 have k2 : upd (upd m "spans" v₁) "cuts" v₂ "stock" = some vk := (upd_ne (by decide)).trans k1
 have p₂ : Rd g₂ v₂ (.list ((cutsOf b x).map fun r => PyData.list (r.map encT))) := by rw [hcut]; exact p₂
 have htl := tokens_len b x
 have hW : ∀ t : Tk, t ∈ tokens b x → t.2.1.length ≤ sizeLine := fun t ht => by
  obtain ⟨a, e⟩ := tokens_sl ht
  rw [e, ← len_cps, show (sl x t.1 a).cps.toList = (x.cps.toList.drop t.1).take (a - t.1) from rfl, List.length_take, List.length_drop, len_cps]
  exact Nat.le_trans (Nat.min_le_right _ _) (Nat.le_trans (Nat.sub_le _ _) (Nat.le_trans hxz (by decide +kernel)))
 have hflat : bareOf b x = flat (tokens b x).length (fun _ => 1) (fun i _ => bareTest ((tokens b x).getD i (0, "", 0))) (fun i _ => bareD b ((tokens b x).getD i (0, "", 0))) := (flat_one bareTest (bareD b) (0, "", 0) _).symm
 have hbl : ∀ i j, i < (tokens b x).length → j < 1 → (flat i (fun _ => 1) (fun i _ => bareTest ((tokens b x).getD i (0, "", 0))) (fun i _ => bareD b ((tokens b x).getD i (0, "", 0))) ++ outs j (fun _ => bareTest ((tokens b x).getD i (0, "", 0))) (fun _ => bareD b ((tokens b x).getD i (0, "", 0)))).length ≤ sizeLine := fun i j hi hj => by
  have h1 : ∀ n, (flat n (fun _ => 1) (fun i _ => bareTest ((tokens b x).getD i (0, "", 0))) (fun i _ => bareD b ((tokens b x).getD i (0, "", 0)))).length ≤ n := fun n => by
   induction n with
   | zero => exact Nat.le_refl _
   | succ n ih =>
    rw [flat_succ, List.length_append]
    have : (outs 1 (fun _ => bareTest ((tokens b x).getD n (0, "", 0))) (fun _ => bareD b ((tokens b x).getD n (0, "", 0)))).length ≤ 1 := by
     unfold outs; rw [List.length_map]; exact List.length_filter_le _ _
    exact Nat.add_le_add ih this
  have h2 : (outs j (fun _ => bareTest ((tokens b x).getD i (0, "", 0))) (fun _ => bareD b ((tokens b x).getD i (0, "", 0)))).length ≤ j := by
   unfold outs; rw [List.length_map]; exact Nat.le_trans (List.length_filter_le _ _) (by simp)
  rw [List.length_append]
  exact Nat.le_trans (Nat.add_le_add (h1 i) h2) (Nat.le_trans (Nat.add_le_add (Nat.le_of_lt hi) (Nat.le_of_lt hj)) (Nat.le_trans (Nat.add_le_add_right (Nat.le_trans htl hxz) 1) (by decide +kernel)))
 refine ex_comp (c := fnCx c (en259 c.w.params L) (upd (upd m "spans" v₁) "cuts" v₂) W O ss259 s₀) (T := ["k", "word", "number", "one"]) (G := ⟨_, _, _, _⟩) (n := (tokens b x).length) (V := VD ((tokens b x).map encT)) (by rfl) rfl rfl (fun _ => rfl) (by rfl) (by rfl) (by show _ ∈ ss259; decide)
  (.of (P := RdP (.list ((tokens b x).map encT))) (gv_var rfl t2 (rt.mono (sg₁.trans sg₂))) fun g' y sg p => it_listN hA' p (List.length_map ..)) (fun s Q E q => new_list s Q E q) rfl
  (blk_list2 (T₀ := ["k", "word", "number"]) (T₁ := ["one"]) (Tg := TgT ["k", "word", "number"] ((tokens b x).map trip)) (P₁ := fun i => RdP (.list [.str (Txt.rstripChars ((tokens b x).getD i (0, "", 0)).2.1 "=")])) (n₁ := fun _ => 1) (V₁ := fun i => VD [.str (Txt.rstripChars ((tokens b x).getD i (0, "", 0)).2.1 "=")]) (Tg₁ := fun i => TgN "one" (VD [.str (Txt.rstripChars ((tokens b x).getD i (0, "", 0)).2.1 "=")]))
   (fun i _ => bareTest ((tokens b x).getD i (0, "", 0))) (fun i _ => bareD b ((tokens b x).getD i (0, "", 0))) hbl (fun y hy => ?_) (fun y hy => ?_) (fun y hy => ?_) ?_ (fun i hi => at_name)
   (fun i g g' m m' s q t => ?_) (fun i gB c' hi sg inC tg => ?_) (fun i j gB c' hi hj sg inC tg tg1 => ?_) (fun _ _ => rfl)) AccL.res S₂ fun g₃ s₃ v₃ sg₃ p₃ S₃ => ?_
 ·have h := nc_head hy; have h' := nc_tail hy; have h2 := nc_head h'; have h3 := nc_head (nc_tail h')
  rw [List.contains_cons, List.contains_cons, List.contains_cons]
  simp [h, h2, h3]
 ·exact nc_one (nc_head (nc_tail (nc_tail (nc_tail hy))))
 ·rcases hy with hy | hy
  ·rcases List.mem_cons.mp hy with rfl | hy
   ·exact .head _
   ·rcases List.mem_cons.mp hy with rfl | hy
    ·exact .tail _ (.head _)
    ·rw [List.mem_singleton.mp hy]; exact .tail _ (.tail _ (.head _))
  ·rw [List.mem_singleton.mp hy]; exact .tail _ (.tail _ (.tail _ (.head _)))
 ·rw [encT_trip]; exact at_triple hA' (by decide) (trip3 _)
 ·obtain ⟨vs, e, r⟩ := t
  refine ⟨vs, ?_, r.mono s⟩
  rw [← e]
  refine List.map_congr_left fun y hy => q y ?_
  rcases List.mem_cons.mp hy with rfl | hy
  ·decide
  ·rcases List.mem_cons.mp hy with rfl | hy
   ·decide
   ·rw [List.mem_singleton.mp hy]; decide
 ·obtain ⟨u1, u2, u3, e1, e2, e3, r1, r2, r3⟩ := three_of tg (at_trip hi)
  have hw := hW _ (getD_mem (d := (((0, "", 0) : Tk))) hi)
  obtain ⟨⟨C, W', O', s', m', rfl⟩, _, _, _⟩ := inC
  exact ⟨gv_list (ds := [_]) (ar_d (gv_rstrip hw (gv_var rfl e2 r2) gv_str) ar_nil) (by rw [sizeLine_eq]; show 1 ≤ _; decide), fun g' y sg p => it_listN hA' p rfl⟩
 ·obtain ⟨u1, u2, u3, e1, e2, e3, r1, r2, r3⟩ := three_of tg (at_trip hi)
  obtain ⟨v', e', d, hd, rv⟩ := tg1
  have hj0 : j = 0 := by omega
  subst hj0
  cases hd
  have fk : c'.m "stock" = some vk := inC_free inC rfl rfl k2
  obtain ⟨⟨C, W', O', s', m', rfl⟩, _, _, _⟩ := inC
  refine ⟨tl_one (ts_compare1 (P₂ := RdP (.str "")) RdP.mono (gv_var rfl e' rv) gv_str fun g₁ a b' _ p q => op_ne_str p q), fun _ => ?_⟩
  exact gv_tuple (ds := [_, _, _]) (ar_d (gv_var rfl e1 r1) (ar_d (gv_var rfl e' rv) (ar_d (gv_dict_get (gv_name rfl fk fun g' s => DcP.mono _ _ _ (((sg₁.trans sg₂).trans sg).trans s) rk) (gv_var rfl e' rv) gv_int hA') ar_nil))) (by rw [sizeLine_eq]; show 3 ≤ _; decide)
 have S₃ : St (fnCx c (en259 c.w.params L) (upd (upd (upd m "spans" v₁) "cuts" v₂) "bare" v₃) W O ss259 s₀) g₃ s₃ := S₃
 have p₃ : Rd g₃ v₃ (.list (bareOf b x)) := by rw [hflat]; exact p₃
 refine wpAny_execs_nil (h _ g₃ s₃ S₃ ((sg₁.trans sg₂).trans sg₃) ⟨⟨vp, ((upd_ne (by decide)).trans (upd_ne (by decide))).trans p1, rp.mono ((sg₁.trans sg₂).trans sg₃)⟩, ⟨v₁, ((upd_ne (by decide)).trans (upd_ne (by decide))).trans a1, Rd.mono p₁ (sg₂.trans sg₃)⟩, ⟨v₂, (upd_ne (by decide)).trans upd_eq, p₂.mono sg₃⟩, ⟨v₃, upd_eq, p₃⟩⟩ fun y hy => ?_)
 exact (upd_ne (nc_head (nc_tail (nc_tail hy)))).trans ((upd_ne (nc_head (nc_tail hy))).trans (upd_ne (nc_head hy)))
end
section
variable {M : Model} {A : Around} {E : Value → Shared → Prop} {s : Shared} {env : Env}
theorem wpC_isTrue_Compare1 {l r : Expr} {op : CmpOp} {pos : Pos} {whole : Sem Value} {Q : Bool → Shared → Prop}
  (h : wpC M A (eval l env) (fun a s₁ => wpAny M A (eval r env) (fun b s₂ => wpAny M A (compareOp op a b) (fun c s₃ => wpAny M A (truthy c) Q E s₃) E s₂) E s₁) E s)
  (hm : behindInMarks op r = false := by with_unfolding_all rfl) : wpC M A (isTrue (.Compare l [op] [r] pos) env whole) Q E s := fun Γ p hΓ hc => by
 simp only [isTrue_Compare1, markedBehindIn_of_false hm, Sem.wp_bind', Sem.wp_holding, Sem.wp_cmd_standAt, Sem.wp_operate]
 exact Sem.wp_mono M Γ _ (fun a p₁ s₁ h₁ => Sem.wp_mono M Γ _ (fun b _ s₂ h₂ => Sem.wp_mono M Γ _ (fun c p₃ s₃ h₃ => h₃ Γ p₃ hΓ)
  (fun _ _ _ h' => h') _ _ (h₂ Γ _ hΓ)) (fun _ _ _ h' => h') _ _ (h₁ Γ p₁ hΓ)) (fun _ _ _ h' => h') _ _ (h Γ p hΓ hc)
theorem wpC_testsOf {e : Expr} {Q : Bool → Shared → Prop} (h : wpC M A (isTrue e env (eval e env)) Q E s) : wpC M A (testsOf [e] env) Q E s := by
 unfold testsOf
 simp only [List.forIn_cons, List.forIn_nil, if_true]
 exact wpC_bind (wpC_bind (wpC_mono h (fun b s' hb => wpC_pure (wpC_pure hb)) fun _ _ x => x))
theorem wpC_isTrue_BoolOp {op : BoolOp} {values : List Expr} {pos : Pos} {whole : Sem Value} {Q : Bool → Shared → Prop} (h : wpC M A (allTrue op values env) Q E s) : wpC M A (isTrue (.BoolOp op values pos) env whole) Q E s := by rw [arm_isTrue_BoolOp]; exact h
theorem wpC_allTrue_Or_cons {x : Expr} {rest : List Expr} {Q : Bool → Shared → Prop}
  (h : wpC M A (isTrue x env (eval x env)) (fun b s₁ => if b then Q true s₁ else wpC M A (allTrue .Or rest env) Q E s₁) E s) : wpC M A (allTrue .Or (x :: rest) env) Q E s := by
 show wpC M A (do match BoolOp.Or, ← isTrue x env (eval x env) with | .And, false => pure false | .Or, true => pure true | _, _ => allTrue .Or rest env) Q E s
 refine wpC_bind (wpC_mono h (fun b s₁ h₁ => ?_) fun _ _ x => x)
 cases b
 ·exact h₁
 ·exact wpC_pure h₁
theorem wpC_comp_free {e : Expr} {scope : Scope} {pos : Pos} {newAcc first : Sem Value} {g : Comprehension} {gs : List Comprehension} {cl : List (Str × Addr)} {Q : Value → Shared → Prop}
  (hcl : clausesOf e = g :: gs) (hs : ∀ x, foldedSetIterable g.iter env x = pure x) (hclos : closureFor scope env = pure cl)
  (hkind : scope.kind = .function) (hnames : ∀ x ∈ scope.names, x.2 = .local → scope.names.lookup x.1 = some .local)
  (h : wpAny M A first (fun x s₁ => wpAny M A (pyIter x) (fun it s₂ => wpAny M A newAcc (fun acc s₃ =>
   wpAny M A (newFunctionEnv scope env.globals cl [] env.qual none .none (some env)) (fun cenv s₄ =>
    codeC M A (.compStart e 0 it acc { cenv with scope := relabel scope env }) (fun r s' => match r with
     | .ok _ => ∃ m, s'.heap.Ns cenv.locals m ∧ ∀ h', Heap.SameBut cenv.locals s'.heap h' → Q acc { s' with heap := h' }
     | .error _ => False) s₄) E s₃) E s₂) E s₁) E s) :
  wpC M A (comprehension e scope env pos newAcc false first none) Q E s := by
 unfold comprehension
 rw [hclos, hcl]
 refine wpC_bindA (wpAny_mono h (fun x s₁ h₁ => wpC_bind (wpC_standAt (wpC_of_eq (hs x) (wpC_bindA (wpAny_holding (wpAny_mono h₁ (fun it s₂ h₂ => ?_) fun _ _ h' => h')))))) fun _ _ h' => h')
 refine wpC_bindA (m := newAcc) (wpAny_mono h₂ (fun acc s₃ h₃ => wpC_bindA (wpAny_pure (wpC_bindA (wpAny_mono h₃ (fun cenv s₄ h₄ => ?_) fun _ _ h' => h')))) fun _ _ h' => h')
 dsimp only
 have hv : ∀ x ∈ (scope.names.filter fun x => (x.2 == .local || x.2 == .cell) && x.1 != (".0" : Str)).reverse, x.2 = .local →
   Env.kindOf { cenv with scope := relabel scope env } x.1 = some .local := fun x hx hl => lookup_relabel_local (hnames x (List.mem_filter.mp (List.mem_reverse.mp hx)).1 hl)
 refine wpC_holding (wpC_bind (wpC_attempt (wpC_holding (wpC_run (codeC_mono (by rw [Around.mark_none]; exact h₄) fun r s' hr => ?_)))))
 cases r with
 | ok f =>
  obtain ⟨m, hn, hr⟩ := hr
  exact wpC_any (wpAny_bind (wpAny_holding (wpAny_comp_letGo (cenv := { cenv with scope := relabel scope env }) hkind _ s' m hv hn fun h' m' _ hs' => wpAny_pure (hr h' hs'))))
 | error x => exact hr.elim
theorem compStartC {e : Expr} {depth : Nat} {G : Comprehension} {it acc : Value} {w : World} {R : Result → Shared → Prop} (hq : (Code.compStart e depth it acc env).isFrame = false) (hu : A.under (Code.compStart e depth it acc env) = A)
  (hG : (clausesOf e)[depth]? = some G) (ha : G.is_async = 0) (h0 : codeC (model PG w) A (.compLoop e depth it acc env) R s)
  (h : wpAny (model PG w) A (pyIter it) (fun it' s' => codeC (model PG w) A (.compLoop e depth it' acc env) R s') (fun _ _ => False) s) :
  codeC (model PG w) A (.compStart e depth it acc env) R s := by
 refine codeC_of_tree ?_
 rw [hu]
 show wpC _ A (if (Code.compStart e depth it acc env).isFrame then (compStart e depth it acc env).onRaise (leaving env) else (compStart e depth it acc env).onRaise (fun x => do noteFrame x env; standAt theWindowsPlace)) _ _ s
 rw [hq]
 refine wpC_onRaise (wpC_mono (E := fun _ _ => False) ?_ (fun _ _ x => x) fun _ _ x => x.elim)
 unfold compStart
 rw [hG]
 simp only [Option.elim_some, ha, bne_self_eq_false, Bool.false_eq_true, if_false]
 show wpC _ _ (ask >>= _) _ _ s
 refine wpC_bindA (wpAny_askSetting ?_)
 split
 ·first
   | exact wpC_bind (wpC_pure (wpC_pure (And.intro rfl h0)))
   | exact wpC_pure (And.intro rfl h0)
 ·first
   | exact wpC_bindA (wpAny_rule (wpC_bind (wpC_standAt (wpC_bindA (wpAny_mono h (fun it' s' h' => wpC_pure (And.intro rfl h')) fun _ _ x => x)))))
   | (refine wpC_bindA (wpAny_rule ?_); show wpC _ _ (standAt G.iter.pos >>= _) _ _ s; exact wpC_bind (wpC_standAt (wpC_bindA (wpAny_mono h (fun it' s' h' => wpC_pure (And.intro rfl h')) fun _ _ x => x))))
end
section
variable {c : Cx} {g : Heap} {s : Shared} {k : Nat}
theorem levelC {e : Expr} {depth : Nat} {acc : Value} {p : Pos} {target test : Expr} {inner : Sem Unit} {I : Addr} {fp : List Addr} {n : Nat} {J : Nat → Heap → Prop} {V : Nat → Heap → Value → Prop} {R : Result → Shared → Prop} {T : List Str} {Tg : Nat → Heap → (Str → Option Value) → Prop}
  (hq : (Code.compLoop e depth (.ref I) acc c.env).isFrame = false) (hu : c.A.under (Code.compLoop e depth (.ref I) acc c.env) = c.A)
  (hturn : compTurn e depth (.ref I) acc c.env = standAt p >>= fun _ => pyNext (.ref I) >>= fun r => match r with
   | none => pure (.done .next)
   | some v => letOwnedTupleGo target (.ref I) v >>= fun _ => assign target c.env v >>= fun _ => testsOf [test] c.env >>= fun ok =>
    if ok = true then inner >>= fun _ => again (.compLoop e depth (.ref I) acc c.env) else again (.compLoop e depth (.ref I) acc c.env))
  (It0 : It c.w c.A target I fp g n J V) (S : St c g s) (j0 : J 0 s.heap) (hf : ∀ a ∈ fp, g.get? a = none ∧ (∃ o, s.heap.get? a = some o) ∧ a ∉ c.W ∧ c.s₀.heap.get? a = none)
  (Inv : Heap → Prop) (h0 : Inv s.heap) (stab : ∀ h h', Inv h → (∀ a ∈ c.O, ∀ o, h.get? a = some o → h'.get? a = some o) → Inv h') (stabB : ∀ h h', Inv h → But (foot c.env) h h' → Inv h')
  (ht : AsTo c.w c.A target T n V Tg) (hTS : ∀ x ∈ T, x ∈ c.S)
  (turn : ∀ W' s₀' i m g₁ s₁, (∀ a ∈ c.W, a ∈ W') → i < n → St { c with m := m, W := W', s₀ := s₀' } g₁ s₁ → Inv s₁.heap → Tg i g₁ m → (∀ y, T.contains y = false → m y = c.m y) → Sub g g₁ →
   wpC (model PG c.w) c.A (isTrue test c.env (eval test c.env)) (fun ok s₃ => ok = false ∧ ∃ g₂, St { c with m := m, W := W', s₀ := s₀' } g₂ s₃ ∧ Sub g₁ g₂ ∧ Inv s₃.heap) (fun _ _ => False) s₁)
  (done : ∀ m g' s', St { c with m := m } g' s' → Sub g g' → Inv s'.heap → R (.ok .next) s') :
  codeC (model PG c.w) c.A (.compLoop e depth (.ref I) acc c.env) R s := by
 have hfW : ∀ a ∈ fp, a ∉ c.W := fun a m => (hf a m).2.2.1
 have hf0 : ∀ a ∈ fp, c.s₀.heap.get? a = none := fun a m => (hf a m).2.2.2
 have hff : ∀ a ∈ fp, a ∉ foot c.env := fun a m q => hfW a m (S.inW a q)
 have hfO : ∀ a ∈ fp, a ∉ c.O := fun a m q => hfW a m (S.own a q).1
 refine codeC_loop rfl (fun k s' => ∃ i m g', k = n + 1 - i ∧ i ≤ n ∧ St { c with m := m, W := fp ++ c.W } g' s' ∧ Sub g g' ∧ Inv s'.heap ∧ (∀ y, T.contains y = false → m y = c.m y) ∧ J i s'.heap) ?_ (n + 1)
  ⟨0, c.m, g, rfl, Nat.zero_le _, S.addW fun a m => ⟨(hf a m).1, (hf a m).2.1⟩, Sub.refl, h0, fun _ _ => rfl, j0⟩
 rintro k s₃ ⟨i, m, g₃, rfl, hi, S₃, sg₃, inv, hm, j⟩
 rw [hu]
 show wpC _ c.A (if (Code.compLoop e depth (.ref I) acc c.env).isFrame then (compTurn e depth (.ref I) acc c.env).onRaise (leaving c.env) else (compTurn e depth (.ref I) acc c.env).onRaise (fun x => do noteFrame x c.env; theTreesLotGoes x)) _ _ s₃
 rw [hq]
 refine wpC_onRaise (wpC_mono (E := fun _ _ => False) ?_ (fun _ _ x => x) fun _ _ x => x.elim)
 rw [hturn]
 refine wpC_bind (wpC_standAt (wpC_bindA ?_))
 by_cases hlt : i < n
 ·refine It0.item i s₃ _ _ hlt j (sg₃.trans S₃.fz.sub) fun v s₄ JM sm₄ b₄ j₄ own hV => ?_
  have S₄ : St { c with m := m, W := fp ++ c.W } g₃ s₄ := S₃.iter sm₄ b₄ fun a q => ⟨List.mem_append_left _ q, hf0 a q, hff a q⟩
  refine wpC_bindA (own s₄ _ _ j₄ fun s₅ sm₅ b₅ j₅ => ?_)
  have S₅ : St { c with m := m, W := fp ++ c.W } g₃ s₅ := S₄.iter sm₅ b₅ fun a q => ⟨List.mem_append_left _ q, hf0 a q, hff a q⟩
  obtain ⟨S₆, sg₆⟩ := S₅.grow
  have kO : ∀ a ∈ c.O, ∀ o, s₃.heap.get? a = some o → s₅.heap.get? a = some o := fun a q o e => b₅.keep (fun z => hfO a z q) (b₄.keep (fun z => hfO a z q) e)
  have hv : V i (hideAll s₅.heap (fp ++ c.W)) v := hV _ (sg₃.trans sg₆) fun a o e e' => hideAll_get _ (b₅.keep (fun z => by obtain ⟨o', z'⟩ := S₃.live a (List.mem_append_left _ z); rw [e'] at z'; cases z') e) fun z => by obtain ⟨o', z'⟩ := S₃.live a z; rw [e'] at z'; cases z'
  refine wpC_bindA (ht { c with m := m, W := fp ++ c.W, s₀ := anchor s₅ c.O } _ s₅ i v _ _ rfl rfl hTS hlt S₆.anchored hv fun s₆ m' htg hother S₇ b₇ => ?_)
  have t := turn (fp ++ c.W) (anchor s₅ c.O) i m' _ s₆ (fun a q => List.mem_append_right _ q) hlt S₇ (stabB _ _ (stab _ _ inv kO) b₇) htg (fun y hy => (hother y hy).trans (hm y hy)) (sg₃.trans sg₆)
  refine wpC_bind (wpC_testsOf (wpC_mono t (fun ok s₈ h₈ => ?_) fun _ _ x => x))
  obtain ⟨rfl, g₂, S₈, sg₈, i₈⟩ := h₈
  exact wpC_pure (.inl ⟨rfl, n + 1 - (i + 1), turn_lt hlt, i + 1, m', g₂, rfl, hlt, St.unanchor (c := { c with m := m, W := fp ++ c.W }) S₆ S₈, (sg₃.trans sg₆).trans sg₈, i₈, fun y hy => (hother y hy).trans (hm y hy),
   It0.frame _ _ _ j₅ (fun a q o e => S₈.kp a o (hideAll_get _ e (hfO a q))) ((sg₃.trans sg₆).trans S₆.fz.sub) (((sg₃.trans sg₆).trans sg₈).trans S₈.fz.sub)⟩)
 ·have hin : i = n := by omega
  subst hin
  refine It0.done s₃ _ _ j (sg₃.trans S₃.fz.sub) fun s₄ sm₄ b₄ => ?_
  exact wpC_pure (done m g₃ s₄ (St.dropW (c := { c with m := m }) S₃ sm₄ b₄ (fun a q => ⟨hfW a q, hf0 a q⟩) S.inW fun a q => (S.own a q).1) sg₃ (stab _ _ inv fun a q o e => b₄ a o (fun z => hfO a z q) e))
end
section
variable {c : Cx} {g : Heap} {s : Shared} {k : Nat}
noncomputable abbrev emptyL : Obj := { cls := .type "list", dict := none, data := .seq ([] : List Value).toArray }
theorem St.compFalse (S : St c g s) {Lf : Addr} {ob : Obj} (hW : Lf ∈ c.W) (hL0 : c.s₀.heap.get? Lf = none) (hob : s.heap.get? Lf = some ob) {elt target iter test : Expr} {scope : Scope} {pos : Pos} (T : List Str) {n : Nat} {V : Nat → Heap → Value → Prop} {Tg : Nat → Heap → (Str → Option Value) → Prop} {Q : Value → Shared → Prop} {E : Value → Shared → Prop}
  (hc : compOk scope c.env = true) (hT : tgtOk scope T = true) (hfoot : ∀ C, foot (compEnvX c.env scope C) = [C]) (hI : DoesIt2 c target (eval iter c.env) n V g) (ht : AsTo c.w c.A target T n V Tg)
  (body : ∀ i C W' O' s₀' m gB sB, i < n → Sub g gB → St (compC c scope T C W' O' s₀' m) gB sB → Lf ∈ O' → Tg i gB m → (∀ y, T.contains y = false → m y = compM scope c.m y) → (∃ sl, sB.heap.get? Lf = some { ob with slots := sl }) →
   wpC (model PG c.w) c.A (isTrue test (compEnvX c.env scope C) (eval test (compEnvX c.env scope C))) (fun ok s' => ok = false ∧ ∃ g', St (compC c scope T C W' O' s₀' m) g' s' ∧ Sub gB g' ∧ Upto [Lf] sB.heap s'.heap) (fun _ _ => False) sB)
  (h : ∀ g' s' v, St c g' s' → Sub g g' → Rd g' v (.list []) → Q v s')
  (hs : ∀ x, foldedSetIterable iter c.env x = pure x := by intro _; rfl) :
  wpC (model PG c.w) c.A (eval (.ListComp elt [⟨target, iter, [test], 0⟩] scope pos) c.env) Q E s := by
 rw [eval_ListComp]
 have hk := Bool.and_eq_true_iff.mp hc
 have hnames := List.all_eq_true.mp hk.2
 have hclos : closureFor scope c.env = pure (closOf scope c.env) := closureFor_eq fun nk m hf => by
  have := (Bool.and_eq_true_iff.mp (hnames nk m)).2
  rw [hf] at this
  simp only [bne_self_eq_false, Bool.false_or, Bool.and_eq_true] at this
  exact this.1
 refine wpC_comp_free (g := ⟨target, iter, [test], 0⟩) (gs := []) (cl := closOf scope c.env) rfl hs hclos (by simpa using hk.1) (fun x m hl => by
  have := (Bool.and_eq_true_iff.mp (hnames x m)).1
  rw [hl] at this; simpa using this) (wpAny_mono (hI g s (fun it s₂ => wpAny (model PG c.w) c.A (newList []) (fun acc s₃ => wpAny (model PG c.w) c.A (newFunctionEnv scope c.env.globals (closOf scope c.env) [] c.env.qual none .none (some c.env)) (fun cenv s₄ => codeC (model PG c.w) c.A (.compStart (.ListComp elt [⟨target, iter, [test], 0⟩] scope pos) 0 it acc { cenv with scope := relabel scope c.env }) (fun r s' => match r with
     | .ok _ => ∃ m, s'.heap.Ns cenv.locals m ∧ ∀ h', Heap.SameBut cenv.locals s'.heap h' → Q acc { s' with heap := h' }
     | .error _ => False) s₄) E s₃) E s₂) E Sub.refl S fun gI s₂ I fp J S₂ sg₂ sh₂ It0 j0 hf => new_list s₂ _ _ (wpAny_compEnv ?_)) (fun _ _ q => q) fun _ _ q => q)
 obtain ⟨S₃, hD, hge⟩ := comp_St (o := emptyL) S S₂ sh₂ hc hT rfl
 have hsz : (s₂.heap.push emptyL).objs.size = s₂.heap.objs.size + 1 := Heap.size_push ..
 have sub₂ : Sub s₂.heap (pushCells ((s₂.heap.push emptyL).push { cls := .type "dict", data := .dict #[] }) scope.names) := fun b x e => pushCells_keeps _ _ b x (Heap.get?_push_of_some _ (Heap.get?_push_of_some _ e))
 have fpLt : ∀ a ∈ fp, a < s₂.heap.objs.size := fun a m => let ⟨_, e⟩ := (hf a m).2.2; Heap.lt_size e
 have hLt : @LT.lt Nat _ Lf s₂.heap.objs.size := Heap.lt_size (sh₂ _ _ hob)
 generalize hDe : s₂.heap.objs.size = D at *
 generalize hCe : (s₂.heap.push emptyL).objs.size = C at *
 have hDC : D < C := by rw [hsz]; exact Nat.lt_succ_self _
 have S₄ := S₃.openX (X := [Lf]) fun a q => by rw [List.mem_singleton.mp q]; exact List.mem_append_right _ hW
 have hfC := hfoot C
 have j0' := It0.frame _ _ _ j0 (fun a _ o e => sub₂ _ _ e) S₂.fz.sub S₃.fz.sub
 have loop := levelC (c := { compC c scope T C (D :: C :: (cellsFrom (C + 1) scope.names []).map (·.2) ++ c.W) (D :: C :: (cellsFrom (C + 1) scope.names []).map (·.2)) s (compM scope c.m) with O := [Lf] ++ (D :: C :: (cellsFrom (C + 1) scope.names []).map (·.2)), s₀ := anchor s [Lf] })
  (e := .ListComp elt [⟨target, iter, [test], 0⟩] scope pos) (depth := 0) (acc := .ref D) (p := iter.pos) (target := target) (test := test) (T := T) (inner := eval elt (compEnvX c.env scope C) >>= fun x => call (.builtin "list.append") [.ref D, x] >>= fun _ => pure ())
  (R := fun r s' => match r with
   | .ok _ => ∃ m, s'.heap.Ns C m ∧ ∀ h', Heap.SameBut C s'.heap h' → Q (.ref D) { s' with heap := h' }
   | .error _ => False)
  rfl hu_list (by rfl) It0 S₄ j0' (fun a m => ⟨(hf a m).1, ?_, fun q => ?_, Sub.none Sub.hide (hf a m).2.1⟩)
  (fun h => (∃ sl, h.get? Lf = some { ob with slots := sl }) ∧ h.get? D = some emptyL) ⟨⟨ob.slots, sub₂ _ _ (sh₂ _ _ hob)⟩, hD⟩
  (fun h h' ⟨⟨sl, e⟩, e2⟩ kp => ⟨⟨sl, kp Lf (.head _) _ e⟩, kp D (.tail _ (.head _)) _ e2⟩)
  (fun h h' ⟨⟨sl, e⟩, e2⟩ bt => ⟨⟨sl, bt.keep (fun q => ?_) e⟩, bt.keep (fun q => ?_) e2⟩) ht (fun _ h => h) ?_ ?_
 ·exact compStartC rfl hus_list rfl rfl loop (It0.self 0 _ _ _ j0' loop)
 ·obtain ⟨o', e'⟩ := (hf a m).2.2
  exact ⟨o', sub₂ _ _ e'⟩
 ·rcases List.mem_append.mp q with q | q
  ·exact absurd (fpLt a m) (Nat.not_lt.mpr (hge a q))
  ·obtain ⟨o', e'⟩ := S.live a q
   rw [(hf a m).2.1] at e'; cases e'
 ·have q : Lf ∈ foot (compEnvX c.env scope C) := q
  rw [hfC] at q
  rw [List.mem_singleton.mp q] at hLt
  exact absurd hLt (Nat.not_lt.mpr (Nat.le_of_lt hDC))
 ·have q : D ∈ foot (compEnvX c.env scope C) := q
  rw [hfC] at q
  exact absurd (List.mem_singleton.mp q) (Nat.ne_of_lt hDC)
 ·intro W' s₀' i m g₁ s₁ hW' hi S₅ inv htg hm sg₁
  refine wpC_mono (body i C W' _ s₀' m g₁ s₁ hi (sg₂.trans sg₁) S₅ (.head _) htg hm inv.1) (fun ok s' ⟨e, g', S₆, sg₆, u⟩ => ⟨e, g', S₆, sg₆, ?_, ?_⟩) fun _ _ x => x
  ·obtain ⟨sl, e⟩ := inv.1
   obtain ⟨sl', e'⟩ := u.at e
   exact ⟨sl', e'⟩
  ·exact u.1 D _ (fun q => by rw [← List.mem_singleton.mp q] at hLt; exact absurd hLt (Nat.lt_irrefl _)) inv.2
 ·intro m g'' s' S₅ sg₅ inv
  have kp5 : ∀ b o, b ≠ Lf → s.heap.get? b = some o → s'.heap.get? b = some o := fun b o n e => S₅.kp b o (hideAll_get _ e fun q => n (List.mem_singleton.mp q))
  have sm : Sm s s' := by obtain ⟨h1, t1, e⟩ := S₅.sm; exact ⟨h1, t1, e⟩
  have u : Upto [Lf] s.heap s'.heap := ⟨fun b o n e => kp5 b o (fun q => n (q ▸ .head _)) e, fun b o e => by
   by_cases q : b = Lf
   ·subst q
    rw [hob] at e; cases e
    obtain ⟨sl, e⟩ := inv.1
    exact ⟨sl, fun _ => e⟩
   ·exact ⟨o.slots, fun _ => kp5 b o q e⟩⟩
  have S₆ : St c g'' s' := S.backU (F := [Lf]) (fun a q => by rw [List.mem_singleton.mp q]; exact hL0) S₅ rfl (fun a q => List.mem_append_right _ q) sm u
  have hCs : s₂.heap.get? C = none := none_of_ge (by rw [hDe]; exact Nat.le_of_lt hDC)
  have hCW : C ∉ c.W := fun q => by obtain ⟨o', e'⟩ := S₂.live C q; rw [hCs] at e'; cases e'
  have hC0 : c.s₀.heap.get? C = none := Sub.none S₂.kp hCs
  obtain ⟨ml, hml, _⟩ := S₅.vars.loc
  have liveC : ∃ o, s'.heap.get? C = some o := S₅.live C (List.mem_append_left _ (.tail _ (.head _)))
  have S₇ : St { c with W := [C] ++ c.W } g'' s' := S₆.addW fun a m => by
   rw [List.mem_singleton.mp m]
   exact ⟨S₅.fz.off C (List.mem_append_left _ (.tail _ (.head _))), liveC⟩
  obtain ⟨S₈, sg₈⟩ := S₇.grow
  have hDW : D ∉ [C] ++ c.W := fun q => by
   rcases List.mem_append.mp q with q | q
   ·exact absurd (List.mem_singleton.mp q) (Nat.ne_of_lt hDC)
   ·have := S₂.lt q; rw [hDe] at this; exact Nat.lt_irrefl _ this
  have hR : Rd (hideAll s'.heap ([C] ++ c.W)) (.ref D) (.list []) := Rd.list (hideAll_get _ inv.2 hDW) rfl rfl .nil
  refine ⟨ml, hml, fun h' hs' => ?_⟩
  have off : Off [C] s'.heap h' := fun b o hb e => hs'.extBut b o (fun q => hb (q ▸ .head _)) e
  have S₉ : St c _ { s' with heap := h' } := St.dropW (fp := [C]) S₈ Sm.heap off (fun x q => by rw [List.mem_singleton.mp q]; exact ⟨hCW, hC0⟩) S.inW fun x m => (S.own x m).1
  exact h _ _ _ S₉ ((sg₂.trans sg₅).trans sg₈) hR
end
theorem range_getD {α β : Type} (f : α → β) (d : α) (xs : List α) : (List.range xs.length).map (fun i => f (xs.getD i d)) = xs.map f := by
 refine List.ext_getElem (by rw [List.length_map, List.length_map, List.length_range]) fun i h1 h2 => ?_
 have hi : i < xs.length := by simpa using h2
 rw [List.getElem_map, List.getElem_map, List.getElem_range]
 rw [List.getD_eq_getElem?_getD, List.getElem?_eq_getElem hi]; rfl
theorem flat_join {α : Type} (f : α → PyData) (d : α) (xs : List (List α)) : flat xs.length (fun i => (xs.getD i []).length) (fun _ _ => true) (fun i j => f ((xs.getD i []).getD j d)) = xs.flatten.map f := by
 unfold flat
 have e : (fun i => outs (xs.getD i []).length (fun _ => true) (fun j => f ((xs.getD i []).getD j d))) = fun i => (fun r : List α => r.map f) (xs.getD i []) := funext fun i => outs_all f d _
 rw [e, List.flatMap_def, range_getD (fun r : List α => r.map f) [] xs, List.map_flatten]
theorem cut_room {A B i j r n : Nat} (h1 : A ≤ i * 1000) (h2 : B ≤ j) (h3 : r ≤ 1000) (hj : j < r) (hi : i < n) (hn : n ≤ 1001) : A + B ≤ sizeLine := by rw [sizeLine_eq]; omega
theorem flat_le {n₁ : Nat → Nat} {test : Nat → Nat → Bool} {out : Nat → Nat → PyData} {B : Nat} (h : ∀ i, n₁ i ≤ B) : ∀ n, (flat n n₁ test out).length ≤ n * B := fun n => by
 induction n with
 | zero => exact Nat.zero_le _
 | succ n ih =>
  rw [flat_succ, List.length_append, Nat.succ_mul]
  have : (outs (n₁ n) (test n) (out n)).length ≤ n₁ n := by
   unfold outs; rw [List.length_map]; exact Nat.le_trans (List.length_filter_le _ _) (by simp)
  exact Nat.add_le_add ih (Nat.le_trans this (h n))
noncomputable def rowD (r : List Tk) : PyData := .list (r.map encT)
noncomputable def pieceOf (x : Str) (sp : List Nat) : Str := if sp = [] then "" else sl x (sp.getD 0 0) (sp.getLastD 0 + 1)
theorem natsD_sh (ns : List Nat) : Sh 1 (natsD ns) := Sh.list fun d hd => by
 obtain ⟨n, _, rfl⟩ := List.mem_map.mp hd
 exact Sh.int
section
variable {c : Cx} {g : Heap} {s : Shared} {k : Nat} {Q : Flow → Shared → Prop} {E : Value → Shared → Prop}
theorem stageG1 {m : Str → Option Value} {L : Addr} {W O : List Addr} {s₀ : Shared} {b : Book} {x : Str} (hK : c.K = HK c.w.params) (hA : AOk 14 c.A) (S : St (fnCx c (en259 c.w.params L) m W O ss259 s₀) g s) (fe : FE c.w b x m g)
  (okp : ∀ p ∈ peeled x, Ok p) (hpx : ∀ p ∈ peeled x, p.length ≤ 1000) (hpn : (peeled x).length ≤ 1001) (T2a : (peeled x).length = (spansOf x).length) (T2b : (cutsOf b x).flatten.map encT = bareOf b x)
  (h : ∀ g' s', St (fnCx c (en259 c.w.params L) m W O ss259 s₀) g' s' → Sub g g' → Q .next s') :
  wpAny (model PG c.w) (c.A.deeper (en259 c.w.params L)) (execs (((bd259 c.w.params).drop 18).take 1) (en259 c.w.params L)) Q E s := by
 have hA' : AOk 13 (c.A.deeper (en259 c.w.params L)) := AOk.deeper (n := 13) hA
 obtain ⟨⟨vp, ep, rp⟩, ⟨vs, es, rs⟩, ⟨vc, ec, rc⟩, ⟨vb, eb, rb⟩⟩ := fe
 have hcn : (cutsOf b x).length ≤ 1001 := by unfold cutsOf; rw [List.length_map, List.length_zip]; omega
 have hrow : ∀ r ∈ cutsOf b x, r.length ≤ 1000 := fun r hr => by
  unfold cutsOf at hr
  obtain ⟨q, hq, rfl⟩ := List.mem_map.mp hr
  unfold cutOf
  rw [List.length_map]
  exact Nat.le_trans (tokens_len _ _) (hpx _ (List.of_mem_zip hq).1)
 have hrowi : ∀ i, ((cutsOf b x).getD i []).length ≤ 1000 := fun i => by
  by_cases hi : i < (cutsOf b x).length
  ·exact hrow _ (getD_mem hi)
  ·rw [List.getD_eq_getElem?_getD, List.getElem?_eq_none (Nat.le_of_not_lt hi)]; exact Nat.zero_le _
 have hsh : Sh 3 (.list ((cutsOf b x).flatten.map encT)) := Sh.list fun d hd => by
  obtain ⟨t, ht, rfl⟩ := List.mem_map.mp hd
  obtain ⟨r, hr, ht⟩ := List.mem_flatten.mp ht
  unfold cutsOf at hr
  obtain ⟨q, hq, rfl⟩ := List.mem_map.mp hr
  unfold cutOf at ht
  obtain ⟨t', ht', rfl⟩ := List.mem_map.mp ht
  obtain ⟨a, e⟩ := tokens_sl ht'
  refine Sh.tuple fun d hd => ?_
  rcases List.mem_cons.mp hd with rfl | hd
  ·exact Sh.int
  rcases List.mem_cons.mp hd with rfl | hd
  ·show Sh 1 (.str t'.2.1)
   rw [e]
   exact Sh.str ((okp _ (List.of_mem_zip hq).1).sl _ _)
  ·rw [List.mem_singleton.mp hd]; exact Sh.int
 have hlp : (dStrs (peeled x)).length = (peeled x).length := List.length_map ..
 have e1 : (((dStrs (peeled x)).length : Int) != ((((spansOf x).map natsD).length : Nat) : Int)) = false := by
  rw [hlp, List.length_map, T2a]; simp
 refine S.ite (x := false || false) (ts_bool (ta_or (e1 ▸ ts_compare1 (P₁ := RdP (.int ((dStrs (peeled x)).length : Int))) (P₂ := RdP (.int ((((spansOf x).map natsD).length : Nat) : Int))) RdP.mono (gv_len_list (by rw [hlp, sizeLine_eq]; omega) (gv_bi rfl hK rfl (by rfl) (by decide)) (gv_var rfl ep rp)) (gv_len_list (by rw [List.length_map, sizeLine_eq]; omega) (gv_bi rfl hK rfl (by rfl) (by decide)) (gv_var rfl es rs)) fun g₁ a b' _ p q => op_ne_int p q) fun _ => ?_)) fun g' s' sg' S' sh => ?_
 ·refine ta_or (a := false) (b := false) (ts_compare1 (P₁ := RdP (.list ((cutsOf b x).flatten.map encT))) (P₂ := RdP (.list ((cutsOf b x).flatten.map encT))) RdP.mono ?_ ?_ fun g₁ a b' _ p q => ?_) fun _ => ta_or_nil
  ·rw [← flat_join encT (0, "", 0) (cutsOf b x)]
   refine gv_comp (c := fnCx c (en259 c.w.params L) m W O ss259 s₀) (T := ["row", "token"]) (G := ⟨_, _, _, _⟩) (n := (cutsOf b x).length) (V := VD ((cutsOf b x).map rowD)) (eval_ListComp ..) rfl (fun _ => rfl) (by rfl) (by rfl)
    (.of (P := RdP (.list ((cutsOf b x).map rowD))) (gv_var rfl ec rc) fun g' y sg p => it_listN hA' p (List.length_map ..)) (fun s Q E q => new_list s Q E q) rfl (fun g' q0 => 
    (blk_list2 (T₀ := ["row"]) (T₁ := ["token"]) (Tg := TgN "row" (VD ((cutsOf b x).map rowD))) (P₁ := fun i => RdP (.list (((cutsOf b x).getD i []).map encT))) (n₁ := fun i => ((cutsOf b x).getD i []).length) (V₁ := fun i => VD (((cutsOf b x).getD i []).map encT)) (Tg₁ := fun i => TgN "token" (VD (((cutsOf b x).getD i []).map encT)))
     (fun _ _ => true) (fun i j => encT (((cutsOf b x).getD i []).getD j (0, "", 0))) (fun i j hi hj => ?_) (fun y hy => nc_one (nc_head hy)) (fun y hy => nc_one (nc_head (nc_tail hy))) (fun y hy => ?_) at_name (fun i hi => at_name)
     (fun i g g' m m' s q t => ?_) (fun i gB c' hi sg inC tg => ?_) (fun i j gB c' hi hj sg inC tg tg1 => ?_) (fun _ _ => rfl))) AccL.res
   ·have h1 := flat_le (test := fun _ _ => true) (out := fun i j => encT (((cutsOf b x).getD i []).getD j (0, "", 0))) hrowi i
    have h2 : (outs j (fun _ => true) (fun j => encT (((cutsOf b x).getD i []).getD j (0, "", 0)))).length ≤ j := by
     unfold outs; rw [List.length_map]; exact Nat.le_trans (List.length_filter_le _ _) (by simp)
    rw [List.length_append]
    exact cut_room h1 h2 (hrowi i) hj hi hcn
   ·rcases hy with hy | hy
    ·rw [List.mem_singleton.mp hy]; exact .head _
    ·rw [List.mem_singleton.mp hy]; exact .tail _ (.head _)
   ·obtain ⟨v, e, d, hd, r⟩ := t
    exact ⟨v, (q "row" (by decide)).trans e, d, hd, r.mono s⟩
   ·obtain ⟨v', e', tv⟩ := tg
    obtain ⟨_, rv⟩ := vd_at (h := rowD) (d := []) tv
    obtain ⟨⟨C, W', O', s', m', rfl⟩, _, _, _⟩ := inC
    exact ⟨gv_var rfl e' rv, fun g' y sg p => it_listN hA' p (List.length_map ..)⟩
   ·obtain ⟨v', e', tv⟩ := tg1
    obtain ⟨_, rv⟩ := vd_at (h := encT) (d := (0, "", 0)) tv
    obtain ⟨⟨C, W', O', s', m', rfl⟩, _, _, _⟩ := inC
    exact ⟨tl_nil, fun _ => gv_var rfl e' rv⟩
  ·exact gv_var rfl eb (T2b ▸ rb)
  ·have := op_ne_data (c := fnCx c (en259 c.w.params L) m W O ss259 s₀) hA' (hsh.shaped (by decide)) (hsh.shaped (by decide)) p q
   rw [hsh.refl] at this
   exact this
 ·rw [if_neg (by decide)]
  exact wpAny_execs_nil (wpAny_execs_nil (h g' s' S' sg'))
theorem stageG2 {m : Str → Option Value} {L : Addr} {W O : List Addr} {s₀ : Shared} {b : Book} {x : Str} (hK : c.K = HK c.w.params) (hA : AOk 14 c.A) (S : St (fnCx c (en259 c.w.params L) m W O ss259 s₀) g s) (fe : FE c.w b x m g) (hl : ∃ v, m "line" = some v ∧ Rd g v (.str x)) (hxz : x.length ≤ 1000)
  (okp : ∀ p ∈ peeled x, Ok p) (hpn : (peeled x).length ≤ 1001) (hsn : (spansOf x).length ≤ 1001) (hsl : ∀ sp ∈ spansOf x, sp.length ≤ 1000) (hso : ∀ sp ∈ spansOf x, sp.getD 0 0 ≤ sp.getLastD 0 + 1) (T3 : peeled x = (spansOf x).map (pieceOf x))
  (h : ∀ g' s', St (fnCx c (en259 c.w.params L) m W O ss259 s₀) g' s' → Sub g g' → Q .next s') :
  wpAny (model PG c.w) (c.A.deeper (en259 c.w.params L)) (execs (((bd259 c.w.params).drop 19).take 1) (en259 c.w.params L)) Q E s := by
 have hA' : AOk 13 (c.A.deeper (en259 c.w.params L)) := AOk.deeper (n := 13) hA
 obtain ⟨⟨vp, ep, rp⟩, ⟨vs, es, rs⟩, ⟨vc, ec, rc⟩, ⟨vb, eb, rb⟩⟩ := fe
 obtain ⟨vl, el, rl⟩ := hl
 have hsh : Sh 2 (.list (dStrs (peeled x))) := Sh.list fun d hd => by
  obtain ⟨p, hp, rfl⟩ := List.mem_map.mp hd
  exact Sh.str (okp p hp)
 have e1 : outs (spansOf x).length (fun _ => true) (fun i => .str (pieceOf x ((spansOf x).getD i []))) = dStrs (peeled x) := by
  rw [outs_all (fun sp : List Nat => PyData.str (pieceOf x sp)) [] _, T3]; unfold dStrs; rw [List.map_map]; rfl
 refine S.ite (x := false) (ts_compare1 (P₁ := RdP (.list (dStrs (peeled x)))) (P₂ := RdP (.list (dStrs (peeled x)))) RdP.mono (gv_var rfl ep rp) ?_ fun g₁ a b' _ p q => ?_) fun g' s' sg' S' sh => ?_
 ·rw [← e1]
  refine gv_listcomp (c := fnCx c (en259 c.w.params L) m W O ss259 s₀) (n := (spansOf x).length) ["span"] _ _ (by rfl) (by rfl) (gv_var rfl es rs) (fun g' y sg p => it_listN hA' p (List.length_map ..)) (by rw [sizeLine_eq]; omega) at_name fun i gB c' hi sg inC tg => ⟨tl_nil, fun _ => ?_⟩
  obtain ⟨v', e', tv⟩ := tg
  obtain ⟨_, rv⟩ := vd_at (h := natsD) (d := []) tv
  have hm : (spansOf x).getD i [] ∈ spansOf x := getD_mem hi
  have h1 := hsl _ hm
  have h2 := hso _ hm
  generalize (spansOf x).getD i [] = sp at rv h1 h2 ⊢
  have fl : c'.m "line" = some vl := inC_free inC rfl rfl el
  obtain ⟨⟨C, W', O', s', m', rfl⟩, _, _, _⟩ := inC
  refine gv_ite (x := !PyData.eqv (natsD sp) (.list [])) (ts_compare1 (P₁ := RdP (natsD sp)) (P₂ := RdP (.list [])) RdP.mono (gv_var rfl e' rv) (gv_list (ds := []) ar_nil (Nat.zero_le _)) fun g₁ a b' _ p q => op_ne_data hA' ((natsD_sh sp).shaped (by decide)) (by rfl) p q) (fun e => ?_) fun e => ?_
  ·have hne : sp ≠ [] := fun q => by rw [q] at e; exact absurd e (by decide)
   unfold pieceOf
   rw [if_neg hne]
   obtain ⟨a, l, rfl⟩ := List.exists_cons_of_ne_nil hne
   have hlast : ((a :: l).map natD).getLast? = some (.int (((a :: l).getLastD 0 : Nat) : Int)) := by
    rw [List.getLast?_map, List.getLastD_eq_getLast?, List.getLast?_cons]; rfl
   refine gv_str_slice (by rw [sizeLine_eq]; omega) h2 (gv_name rfl fl fun g' s => Rd.mono (rl.mono sg) s) (gv_list_item (ds := (a :: l).map natD) (j := 0) (by rw [List.length_map, sizeLine_eq]; omega) rfl (gv_var rfl e' rv) gv_int) ?_
   rw [Int.natCast_add]
   exact gv_add_int (gv_list_last (ds := (a :: l).map natD) (by rw [List.length_map, sizeLine_eq]; omega) hlast (gv_var rfl e' rv) (gv_neg gv_int)) gv_int
  ·have hnil : sp = [] := by
    cases sp with
    | nil => rfl
    | cons a l => exact absurd e (by show (!PyData.eqv (.list (natD a :: l.map natD)) (.list [])) ≠ false; simp [PyData.eqv, PyData.eqvAll])
   subst hnil
   exact gv_str
 ·have := op_ne_data (c := fnCx c (en259 c.w.params L) m W O ss259 s₀) hA' (hsh.shaped (by decide)) (hsh.shaped (by decide)) p q
  rw [hsh.refl] at this
  exact this
 ·rw [if_neg Bool.false_ne_true]
  exact wpAny_execs_nil (wpAny_execs_nil (h g' s' S' sg'))
end
section
variable {c : Cx} {g : Heap} {s : Shared} {k : Nat} {Q : Flow → Shared → Prop} {E : Value → Shared → Prop}
noncomputable abbrev cxOf {c : Cx} {g : Heap} {s : Shared} (_ : St c g s) : Cx := c
theorem Does.run {α : Type} {t : Sem α} {P : Heap → α → Prop} {Q : α → Shared → Prop} (h : Does c t P g) (S : St c g s) (k : ∀ g₂ s' v, St c g₂ s' → Sub g g₂ → Sub s.heap s'.heap → P g₂ v → Q v s') : wpAny (model PG c.w) c.A t Q E s := h g s Q E Sub.refl S k
theorem dStrs_sh {ys : List Str} (h : ∀ p ∈ ys, Ok p) : Sh 2 (.list (dStrs ys)) := Sh.list fun d hd => by
 obtain ⟨p, hp, rfl⟩ := List.mem_map.mp hd
 exact Sh.str (h p hp)
theorem sum_le {ys : List Str} {B : Nat} (h : ∀ p ∈ ys, p.length ≤ B) : (ys.map (·.length)).sum ≤ ys.length * B := by
 induction ys with
 | nil => exact Nat.zero_le _
 | cons a l ih =>
  have h1 := h a (.head _)
  have h2 := ih fun p hp => h p (.tail _ hp)
  rw [List.map_cons, List.sum_cons, List.length_cons, Nat.succ_mul]
  omega
theorem stageG3 {m : Str → Option Value} {L : Addr} {W O : List Addr} {s₀ : Shared} {b : Book} {x : Str} (hK : c.K = HK c.w.params) (hA : AOk 14 c.A) (hfr : c.A.frames = some []) (S : St (fnCx c (en259 c.w.params L) m W O ss259 s₀) g s) (fe : FE c.w b x m g)
  (okp : ∀ p ∈ peeled x, Ok p) (hpx : ∀ p ∈ peeled x, p.length ≤ 1000) (hpn : (peeled x).length ≤ 1001) (hj : (Txt.join " = " (peeled x)).length ≤ 1000000)
  (T4a : peeled (Txt.join " = " (peeled x)) = peeled x) (T4b : ∀ p ∈ peeled x, peeled p = [p])
  (h : ∀ g' s', St (fnCx c (en259 c.w.params L) m W O ss259 s₀) g' s' → Sub g g' → wpC (model PG c.w) (c.A.deeper (en259 c.w.params L)) (execs ((bd259 c.w.params).drop 21) (en259 c.w.params L)) Q E s') :
  wpC (model PG c.w) (c.A.deeper (en259 c.w.params L)) (execs ((bd259 c.w.params).drop 20) (en259 c.w.params L)) Q E s := by
 have hA' : AOk 13 (c.A.deeper (en259 c.w.params L)) := AOk.deeper (n := 13) hA
 have hfr' : (c.A.deeper (en259 c.w.params L)).frames = some [en259 c.w.params L] := Around.frames_deeper hfr
 obtain ⟨⟨vp, ep, rp⟩, _, _, _⟩ := fe
 obtain ⟨hF, hW⟩ := lawFr S
 have hsh := dStrs_sh okp
 have hsum := sum_le hpx
 refine wpC_execs_cons (wpC_If (wpC_isTrue_BoolOp (wpC_allTrue_Or_cons (wpC_isTrue_Compare1 (S.evPeeled (fr := [en259 c.w.params L]) (x := Txt.join " = " (peeled x)) hK (AOk.mono hA' (by omega)) hfr' hF hW (gv_global (v := .ref 249) rfl (by show nsIn c.K _ _ = _; rw [hK]; rfl) fun _ _ => rfl)
  (gv_join (by show _ + _ * 3 ≤ _; omega) gv_str (gv_var rfl ep rp)) (by rw [sizeLine_eq]; omega) fun g₁ s₁ v₁ S₁ sg₁ r₁ sm₁ u₁ => ?_)))))
 rw [T4a] at r₁
 refine Does.run (gv_var (c := fnCx c (en259 c.w.params L) m W O ss259 s₀) rfl ep (rp.mono sg₁)) S₁ fun g₂ s₂ v₂ S₂ sg₂ sh₂ r₂ => ?_
 refine Does.run (op_ne_data (c := fnCx c (en259 c.w.params L) m W O ss259 s₀) hA' (hsh.shaped (by decide)) (hsh.shaped (by decide)) (r₁.mono sg₂) r₂) S₂ fun g₃ s₃ v₃ S₃ sg₃ sh₃ r₃ => ?_
 rw [hsh.refl] at r₃
 refine Does.run (op_truthy (b := false) r₃) S₃ fun g₄ s₄ ok S₄ sg₄ sh₄ e => ?_
 subst e
 have sg14 : Sub g g₄ := sg₁.trans (sg₂.trans (sg₃.trans sg₄))
 obtain ⟨hF4, hW4⟩ := lawFr S₄
 obtain ⟨hkm, Lf, ob, hLf, hob, hdat⟩ := hF4 _ (.head _)
 have hLf : some L = some Lf := hLf
 cases hLf
 refine wpC_allTrue_Or_cons (wpC_isTrue_Compare1 (St.compFalse (T := ["part"]) (n := (peeled x).length) (V := VD (dStrs (peeled x))) S₄ (Lf := L) (S₄.inW _ (.head _)) (S₄.own _ S₄.loc).2 hob (by rfl) (by rfl) (fun _ => rfl)
  (.of (P := RdP (.list (dStrs (peeled x)))) (gv_var rfl ep (rp.mono sg14)) fun g' y sg p => it_listN hA' p (List.length_map ..)) at_name (fun i C W' O' s₀' mB gB sB hi sgB SB hLO tg hm hsl => ?_) fun g₅ s₅ v₅ S₅ sg₅ r₅ => ?_))
 ·obtain ⟨v', e', tv⟩ := tg
  obtain ⟨_, rv⟩ := vd_at (h := PyData.str) (d := "") tv
  have hmem : (peeled x).getD i "" ∈ peeled x := getD_mem hi
  generalize (peeled x).getD i "" = p at rv hmem
  obtain ⟨sl, hsl⟩ := hsl
  have hFB : FrOk [en259 c.w.params L] sB.heap := fun env q => by
   rw [List.mem_singleton.mp q]
   exact ⟨hkm, L, _, rfl, hsl, hdat⟩
  have hsh1 : Sh 2 (.list [.str p]) := dStrs_sh (ys := [p]) fun q hq => by rw [List.mem_singleton.mp hq]; exact okp p hmem
  have hpl := hpx p hmem
  refine wpC_isTrue_Compare1 (SB.evPeeled (fr := [en259 c.w.params L]) (x := p) hK (AOk.mono hA' (by omega)) hfr' hFB (fun a q => ?_) (gv_global (v := .ref 249) rfl (by show nsIn c.K _ _ = _; rw [hK]; rfl) fun _ _ => rfl) (gv_var rfl e' rv) (by rw [sizeLine_eq]; omega) fun g₅ s₅ v₅ S₅ sg₅ r₅ sm₅ u₅ => ?_)
  ·have q : a ∈ [L] := q
   rw [List.mem_singleton.mp q]
   exact SB.own _ hLO
  ·rw [T4b p hmem] at r₅
   refine Does.run (c := cxOf SB) (gv_list (c := cxOf SB) (ds := [.str p]) (ar_d (gv_var rfl e' (rv.mono sg₅)) ar_nil) (by rw [sizeLine_eq]; show 1 ≤ _; decide)) S₅ fun g₆ s₆ v₆ S₆ sg₆ sh₆ r₆ => ?_
   refine Does.run (c := cxOf SB) (op_ne_data (c := cxOf SB) hA' (hsh1.shaped (by decide)) (hsh1.shaped (by decide)) (r₅.mono sg₆) r₆) S₆ fun g₇ s₇ v₇ S₇ sg₇ sh₇ r₇ => ?_
   rw [hsh1.refl] at r₇
   refine Does.run (c := cxOf SB) (op_truthy (b := false) r₇) S₇ fun g₈ s₈ ok S₈ sg₈ sh₈ e => ?_
   exact ⟨e, g₈, S₈, ((sg₅.trans sg₆).trans sg₇).trans sg₈, u₅.trans (Upto.of_sub ((sh₆.trans sh₇).trans sh₈))⟩
 ·refine Does.run (gv_list (c := fnCx c (en259 c.w.params L) m W O ss259 s₀) (ds := []) ar_nil (Nat.zero_le _)) S₅ fun g₆ s₆ v₆ S₆ sg₆ sh₆ r₆ => ?_
  refine Does.run (op_ne_data (c := fnCx c (en259 c.w.params L) m W O ss259 s₀) hA' (by rfl) (by rfl) (r₅.mono sg₆) r₆) S₆ fun g₇ s₇ v₇ S₇ sg₇ sh₇ r₇ => ?_
  refine Does.run (op_truthy (b := false) r₇) S₇ fun g₈ s₈ ok S₈ sg₈ sh₈ e => ?_
  subst e
  refine wpC_any (wpAny_allTrue_Or_nil ?_)
  exact wpC_any (wpAny_execs_nil (h g₈ s₈ S₈ (((sg14.trans sg₅).trans sg₆).trans (sg₇.trans sg₈))))
end
noncomputable abbrev itO (a : Value) (f : Bool) (d : Addr) (i n ep : Nat) (ok ov : Value) : Obj := { cls := .type "dict_itemiterator", dict := none, data := .fields #[a, .bool f, .ref d, .int i 0, .int n 0, .int ep 0, ok, ov], slots := #[] }
section
variable {prog : Program} {w : World} {A : Around} {E : Value → Shared → Prop} {s : Shared} {it d : Addr} {od : Obj} {es : Array DictEntry} {i ep : Nat} {a ok ov : Value} {f : Bool}
theorem it_front {e : DictEntry} {Q : Option Value → Shared → Prop} (hit : s.heap.get? it = some (itO a f d i es.size ep ok ov)) (hod : s.heap.get? d = some od) (hdd : od.data = .dict es ep) (hx : es[i]? = some e)
  (h : ∀ h₁, h₁.get? it = some (itO a f d (i + 1) es.size ep ok ov) → Heap.SameBut it s.heap h₁ → wpAny (model prog w) A.in1 (Builtin.Dict_items.pairFromOwner (.ref it) 6 e.key e.val) (fun v s' => Q (some v) s') (fun _ _ => False) { s with heap := h₁ }) :
  wpAny (model prog w) A (pyNext (.ref it)) Q E s := by
 obtain ⟨hp, g, dr, tk, os⟩ := s
 have hT : Shared.TypeIs ⟨hp, g, dr, tk, os⟩ (.ref it) "dict_itemiterator" := ⟨_, hit, rfl⟩
 unfold pyNext
 refine wpAny_bind (wpAny_attempt (wpAny_callSpecial?_slot (name := Str.ofString "__next__") hT PySem.F.slot_dict_itemiterator_next (wpAny_call_entry PySem.F.slot_dict_itemiterator_next hT PySem.F.entry_dict_itemiterator_next ?_ (PySem.F.args_dict_itemiterator_next_1 _))))
 refine wpAny_bind (wpAny_pure (wpAny_bind (wpAny_bind (wpAny_bind (wpAny_typeNameOfWhole_itemiter hT (wpAny_pure (wpAny_bind (wpAny_fieldsOf hit rfl ?_))))))))
 have hown : Builtin.Dict_items.ownsTuple "dict_itemiterator" = true := by decide
 simp only [hown, if_true]
 show wpAny _ _ (if (Value.ref d == Value.none) = true then _ else _) _ _ _
 rw [if_neg (show ¬ ((Value.ref d == Value.none) = true) from Bool.false_ne_true)]
 refine wpAny_bind (wpAny_pure (wpAny_bind (wpAny_dictEntries hod hdd ?_)))
 rw [if_neg (by simp)]
 refine wpAny_bind (wpAny_pure (wpAny_bind (wpAny_dictEpoch hod hdd ?_)))
 rw [if_neg (by simp)]
 refine wpAny_pure ?_
 simp only [show ¬ ((i : Int) < 0) from by omega, if_false, Int.toNat_natCast, hx]
 refine wpAny_bind (wpAny_bind (wpAny_typeNameOfWhole_itemiter hT (wpAny_pure (wpAny_bind (wpAny_isOneOf_itemiter hT ?_)))))
 show wpAny _ _ (setField (.ref it) 3 (rawInt ((i : Int) + 1)) >>= _) _ _ ⟨hp, g, dr, tk, os⟩
 refine wpAny_bind (wpAny_setField_rec hit (by simp) fun h₁ he₁ hs₁ => ?_)
 have he₂ : h₁.get? it = some (itO a f d (i + 1) es.size ep ok ov) := by
  have q : ((i + 1 : Nat) : Int) = (i : Int) + 1 := by omega
  unfold itO; rw [q]; simpa [rawInt] using he₁
 have hT₁ : Shared.TypeIs ⟨h₁, g, dr, tk, os⟩ (.ref it) "dict_itemiterator" := ⟨_, he₂, rfl⟩
 refine wpAny_bind (wpAny_holding (wpAny_bind (wpAny_isOneOf_itemiter hT₁ (wpAny_bind (wpAny_isOneOf_itemiter hT₁ ?_)))))
 exact wpAny_mono (h h₁ he₂ hs₁) (fun v s' q => wpAny_pure ⟨_, rfl, wpAny_pure q⟩) fun _ _ x => x.elim
theorem pair_fresh {n : Nat} {k v : Value} {Q : Value → Shared → Prop} (hit : s.heap.get? it = some (itO .none f d i n ep ok ov))
  (h : ∀ h', h'.get? it = some (itO (rawInt s.heap.objs.size) false d i n ep k v) → h'.get? s.heap.objs.size = some { cls := .type "tuple", data := .seq #[k, v] } → (∀ b o, b ≠ it → s.heap.get? b = some o → h'.get? b = some o) → Q (.ref s.heap.objs.size) { s with heap := h' }) :
  wpAny (model prog w) A (Builtin.Dict_items.pairFromOwner (.ref it) 6 k v) Q E s := by
 obtain ⟨hp, g, dr, tk, os⟩ := s
 have hlt : it < hp.objs.size := Heap.lt_size hit
 unfold Builtin.Dict_items.pairFromOwner
 refine wpAny_bind (wpAny_newTuple ?_)
 have e₂ : (hp.push { cls := .type "tuple", data := .seq #[k, v] }).get? it = some (itO .none f d i n ep ok ov) := Heap.get?_push_of_some _ hit
 have t₂ : (hp.push { cls := .type "tuple", data := .seq #[k, v] }).get? hp.objs.size = some { cls := .type "tuple", data := .seq #[k, v] } := Heap.get?_push_size _ rfl
 have k₂ : ∀ b o, b ≠ it → hp.get? b = some o → (hp.push { cls := .type "tuple", data := .seq #[k, v] }).get? b = some o := fun b o _ e => Heap.get?_push_of_some _ e
 show wpAny _ _ (Builtin.Dict_items.ownedTupleIsFree (.ref it) >>= _) _ _ ⟨hp.push { cls := .type "tuple", data := .seq #[k, v] }, g, dr, tk, os⟩
 generalize (hp.push { cls := .type "tuple", data := .seq #[k, v] }) = h₂ at e₂ t₂ k₂
 refine wpAny_bind ?_
 unfold Builtin.Dict_items.ownedTupleIsFree
 refine wpAny_bind (wpAny_field e₂ rfl (x := .none) rfl (wpAny_pure ?_))
 simp only [if_true]
 refine wpAny_bind (wpAny_field e₂ rfl (x := ok) rfl (wpAny_bind (wpAny_field e₂ rfl (x := ov) rfl ?_)))
 refine wpAny_bind (wpAny_setField_rec e₂ (by simp) fun h₃ e₃ s₃ => ?_)
 replace e₃ : h₃.get? it = some (itO .none f d i n ep k ov) := e₃
 refine wpAny_bind (wpAny_setField_rec e₃ (by simp) fun h₄ e₄ s₄ => ?_)
 replace e₄ : h₄.get? it = some (itO .none f d i n ep k v) := e₄
 refine wpAny_bind (wpAny_setField_rec e₄ (by simp) fun h₅ e₅ s₅ => ?_)
 replace e₅ : h₅.get? it = some (itO (rawInt hp.objs.size) f d i n ep k v) := e₅
 refine wpAny_bind (wpAny_setField_rec e₅ (by simp) fun h₆ e₆ s₆ => ?_)
 replace e₆ : h₆.get? it = some (itO (rawInt hp.objs.size) false d i n ep k v) := e₆
 have up : ∀ b o, b ≠ it → h₂.get? b = some o → h₆.get? b = some o := fun b o n e => s₆.extBut b o n (s₅.extBut b o n (s₄.extBut b o n (s₃.extBut b o n e)))
 exact wpAny_bind (wpAny_letGo (wpAny_pure (h h₆ e₆ (up _ _ (Nat.ne_of_gt hlt) t₂) fun b o n e => up b o n (k₂ b o n e))))
theorem pair_out {n : Nat} {k v : Value} {t : Addr} {ot : Obj} {Q : Value → Shared → Prop} (hit : s.heap.get? it = some (itO (rawInt t) f d i n ep ok ov)) (ht : s.heap.get? t = some ot)
  (h : ∀ h', h'.get? it = some (itO (rawInt t) true d i n ep ok ov) → h'.get? s.heap.objs.size = some { cls := .type "tuple", data := .seq #[k, v] } → (∀ b o, b ≠ it → s.heap.get? b = some o → h'.get? b = some o) → Q (.ref s.heap.objs.size) { s with heap := h' }) :
  wpAny (model prog w) A (Builtin.Dict_items.pairFromOwner (.ref it) 6 k v) Q E s := by
 obtain ⟨hp, g, dr, tk, os⟩ := s
 have hlt : it < hp.objs.size := Heap.lt_size hit
 unfold Builtin.Dict_items.pairFromOwner
 refine wpAny_bind (wpAny_newTuple ?_)
 have e₂ : (hp.push { cls := .type "tuple", data := .seq #[k, v] }).get? it = some (itO (rawInt t) f d i n ep ok ov) := Heap.get?_push_of_some _ hit
 have t₂ : (hp.push { cls := .type "tuple", data := .seq #[k, v] }).get? hp.objs.size = some { cls := .type "tuple", data := .seq #[k, v] } := Heap.get?_push_size _ rfl
 have a₂ : (hp.push { cls := .type "tuple", data := .seq #[k, v] }).get? t = some ot := Heap.get?_push_of_some _ ht
 have k₂ : ∀ b o, b ≠ it → hp.get? b = some o → (hp.push { cls := .type "tuple", data := .seq #[k, v] }).get? b = some o := fun b o _ e => Heap.get?_push_of_some _ e
 show wpAny _ _ (Builtin.Dict_items.ownedTupleIsFree (.ref it) >>= _) _ _ ⟨hp.push { cls := .type "tuple", data := .seq #[k, v] }, g, dr, tk, os⟩
 generalize (hp.push { cls := .type "tuple", data := .seq #[k, v] }) = h₂ at e₂ t₂ a₂ k₂
 refine wpAny_bind ?_
 unfold Builtin.Dict_items.ownedTupleIsFree
 refine wpAny_bind (wpAny_field e₂ rfl (x := rawInt t) rfl ?_)
 show wpAny _ _ (loadIfAlive ((t : Int).toNat) >>= _) _ _ _
 rw [Int.toNat_natCast]
 refine wpAny_bind (kdx_alive a₂ ?_)
 simp only [Option.isNone_some, Bool.false_eq_true, if_false]
 refine wpAny_bind (wpAny_field e₂ rfl (x := .bool f) rfl ?_)
 have fin : ∀ h₃ : Heap, h₃.get? it = some (itO (rawInt t) true d i n ep ok ov) → Heap.SameBut it h₂ h₃ → Q (.ref hp.objs.size) ⟨h₃, g, dr, tk, os⟩ := fun h₃ e₃ s₃ =>
  h h₃ e₃ (s₃.extBut _ _ (Nat.ne_of_gt hlt) t₂) fun b o n e => s₃.extBut b o n (k₂ b o n e)
 cases f with
 | true =>
  rw [if_neg (show ¬ ((Value.bool true != Value.bool true) = true) from Bool.false_ne_true)]
  exact wpAny_pure (wpAny_pure (fin h₂ e₂ (Heap.SameBut.refl _ _)))
 | false =>
  rw [if_pos (show (Value.bool false != Value.bool true) = true from rfl)]
  refine wpAny_bind (wpAny_setField_rec e₂ (by simp) fun h₃ e₃ s₃ => ?_)
  exact wpAny_pure (wpAny_pure (fin h₃ e₃ s₃))
theorem it_end {Q : Option Value → Shared → Prop} (hh : A.handled = none) (hit : s.heap.get? it = some (itO a f d es.size es.size ep ok ov)) (hod : s.heap.get? d = some od) (hdd : od.data = .dict es ep)
  (h : ∀ h', Heap.ExtBut it s.heap h' → Q none { s with heap := h' }) : wpAny (model prog w) A (pyNext (.ref it)) Q E s := by
 have hT : s.TypeIs (.ref it) "dict_itemiterator" := ⟨_, hit, rfl⟩
 unfold pyNext
 refine wpAny_bind (wpAny_attempt (wpAny_callSpecial?_slot (name := Str.ofString "__next__") hT PySem.F.slot_dict_itemiterator_next (wpAny_call_entry PySem.F.slot_dict_itemiterator_next hT PySem.F.entry_dict_itemiterator_next ?_ (PySem.F.args_dict_itemiterator_next_1 _))))
 refine wpAny_bind (wpAny_pure (wpAny_bind (wpAny_bind (wpAny_bind (wpAny_typeNameOfWhole_itemiter hT (wpAny_pure (wpAny_bind (wpAny_fieldsOf hit rfl ?_))))))))
 have hown : Builtin.Dict_items.ownsTuple "dict_itemiterator" = true := by decide
 simp only [hown, if_true]
 show wpAny _ _ (if (Value.ref d == Value.none) = true then _ else _) _ _ s
 rw [if_neg (show ¬ ((Value.ref d == Value.none) = true) from Bool.false_ne_true)]
 refine wpAny_bind (wpAny_pure (wpAny_bind (wpAny_dictEntries hod hdd ?_)))
 rw [if_neg (by simp)]
 refine wpAny_bind (wpAny_pure (wpAny_bind (wpAny_dictEpoch hod hdd ?_)))
 rw [if_neg (by simp)]
 refine wpAny_pure ?_
 simp only [show ¬ ((es.size : Int) < 0) from by omega, if_false, Int.toNat_natCast, Array.getElem?_eq_none (Nat.le_refl es.size)]
 refine wpAny_bind (wpAny_bind (wpAny_typeNameOfWhole_itemiter hT (wpAny_pure ?_)))
 show wpAny _ _ (setField (.ref it) 2 .none >>= _) _ _ s
 refine wpAny_bind (wpAny_setField hit rfl (by simp) ?_)
 show wpAny _ _ (newExc (.type "StopIteration") [] >>= _) _ _ _
 refine wpAny_bind ?_
 simp only [newExc, newTuple]
 refine wpAny_bind (wpAny_newObj_type ?_ (by size_fits))
 refine wpAny_bind (m := firstArgMember _ _) (wpAny_of_eq (a := Value.none) (by first | rfl | (simp only [firstArgMember]; rfl)) ?_)
 refine wpAny_newObj_type ?_ (by size_fits)
 simp only [raiseNew]
 refine wpAny_bind (wpAny_handled ?_)
 rw [show A.in1.handled = none from hh]
 refine wpAny_bind (wpAny_pure (wpAny_throw ?_))
 refine wpAny_bind (wpAny_isInstance (T := "StopIteration") (b := true) ⟨_, Heap.get?_push_size _ rfl, rfl⟩ isSubtype_stop ?_)
 exact wpAny_pure (h _ (((Heap.SameBut.update ..).extBut.push _).push _))
end
noncomputable abbrev lsO (acc : Array Value) (c : Nat) : Obj := { cls := .type "list", dict := none, data := .seq acc c, slots := #[] }
noncomputable abbrev tuO (k v : Value) : Obj := { cls := .type "tuple", data := .seq #[k, v] }
noncomputable def Got (es : Array DictEntry) (S I : Addr) (h₁ h : Heap) (acc : Array Value) : Prop := ∀ (j : Nat) v, acc[j]? = some v → ∃ t e, v = .ref t ∧ es[j]? = some e ∧ t ≠ S ∧ t ≠ I ∧ h.get? t = some (tuO e.key e.val) ∧ h₁.get? t = none
structure Lp (es : Array DictEntry) (ep : Nat) (od : Obj) (S I d : Addr) (h₁ : Heap) (i : Nat) (acc : Array Value) (h : Heap) : Prop where
 it : ∃ a f ok ov, h.get? I = some (itO a f d i es.size ep ok ov) ∧ (a = .none ∨ ∃ (t : Addr) (ot : Obj), a = rawInt t ∧ h.get? t = some ot ∧ t ≠ I ∧ t ≠ S)
 dd : h.get? d = some od
 li : ∃ c, h.get? S = some (lsO acc c)
 sz : acc.size = i
 got : Got es S I h₁ h acc
 base : ∀ b o, b ≠ S → b ≠ I → h₁.get? b = some o → h.get? b = some o
section
variable {prog : Program} {w : World} {A : Around} {E : Value → Shared → Prop} {s : Shared} {S I d : Addr} {od : Obj} {es : Array DictEntry} {ep : Nat} {h₁ : Heap} {R : Result → Shared → Prop}
theorem Lp.step (hdd : od.data = .dict es ep) (nSI : S ≠ I) (ndS : d ≠ S) (ndI : d ≠ I) {i : Nat} {acc : Array Value} {Q : Option Value → Shared → Prop} (hi : i < es.size) (L : Lp es ep od S I d h₁ i acc s.heap)
  (h : ∀ v h', (∀ h'', (∀ b o, b ≠ S → h'.get? b = some o → h''.get? b = some o) → (∃ c, h''.get? S = some (lsO (acc.push v) c)) → Lp es ep od S I d h₁ (i + 1) (acc.push v) h'') → (∃ c, h'.get? S = some (lsO acc c)) → Q (some v) { s with heap := h' }) :
  wpAny (model prog w) A (pyNext (.ref I)) Q E s := by
 obtain ⟨⟨a, f, ok, ov, hit, ha⟩, hd, ⟨c, hS⟩, hsz, hgot, hbase⟩ := L
 have hx : es[i]? = some es[i] := Array.getElem?_eq_getElem hi
 have lt : ∀ b o, s.heap.get? b = some o → b ≠ s.heap.objs.size := fun b o e => Nat.ne_of_lt (Heap.lt_size e)
 have hfr : h₁.get? s.heap.objs.size = none := by
  cases q : h₁.get? s.heap.objs.size with
  | none => rfl
  | some o => exact absurd rfl (lt _ _ (hbase _ _ (lt S _ hS).symm (lt I _ hit).symm q))
 have fin : ∀ h₀ h₂ a' f' ok' ov', Heap.SameBut I s.heap h₀ → h₂.get? I = some (itO a' f' d (i + 1) es.size ep ok' ov') → (a' = .none ∨ ∃ (t : Addr) (ot : Obj), a' = rawInt t ∧ h₂.get? t = some ot ∧ t ≠ I ∧ t ≠ S) → h₂.get? s.heap.objs.size = some (tuO es[i].key es[i].val) → (∀ b o, b ≠ I → h₀.get? b = some o → h₂.get? b = some o) → Q (some (.ref s.heap.objs.size)) { s with heap := h₂ } := fun h₀ h₂ a' f' ok' ov' sb e1 e2 e3 k => by
  have kp : ∀ b o, b ≠ I → s.heap.get? b = some o → h₂.get? b = some o := fun b o n e => k b o n (sb.extBut b o n e)
  refine h _ h₂ (fun h'' up li => ⟨⟨a', f', ok', ov', up I _ nSI.symm e1, e2.imp_right fun ⟨t, ot, x1, x2, x3, x4⟩ => ⟨t, ot, x1, up t _ x4 x2, x3, x4⟩⟩, up d _ ndS (kp d _ ndI hd), li, by rw [Array.size_push, hsz], fun j v hj => ?_, fun b o n1 n2 e => up b o n1 (kp b o n2 (hbase b o n1 n2 e))⟩) ⟨c, kp S _ nSI hS⟩
  rw [Array.getElem?_push] at hj
  split at hj
  ·rename_i q
   cases hj
   exact ⟨_, es[i], rfl, by rw [q, hsz]; exact hx, (lt S _ hS).symm, (lt I _ hit).symm, up _ _ (lt S _ hS).symm e3, hfr⟩
  ·obtain ⟨t, e, rfl, g2, g3, g4, g5, g6⟩ := hgot j v hj
   exact ⟨t, e, rfl, g2, g3, g4, up t _ g3 (kp t _ g4 g5), g6⟩
 refine it_front hit hd hdd hx fun h₀ e₀ sb => ?_
 rcases ha with rfl | ⟨t, ot, rfl, ht, htI, htS⟩
 ·refine pair_fresh (s := { s with heap := h₀ }) e₀ fun h₂ e₂ t₂ k₂ => ?_
  dsimp only at e₂ t₂ k₂ ⊢
  rw [sb.1] at e₂ t₂ ⊢
  exact fin h₀ h₂ _ _ _ _ sb e₂ (.inr ⟨_, _, rfl, t₂, (lt I _ hit).symm, (lt S _ hS).symm⟩) t₂ k₂
 ·refine pair_out (s := { s with heap := h₀ }) e₀ (sb.extBut _ _ htI ht) fun h₂ e₂ t₂ k₂ => ?_
  dsimp only at e₂ t₂ k₂ ⊢
  rw [sb.1] at t₂ ⊢
  exact fin h₀ h₂ _ _ _ _ sb e₂ (.inr ⟨_, _, rfl, k₂ _ _ htI (sb.extBut _ _ htI ht), htI, htS⟩) t₂ k₂
theorem lp_loop (hh : A.handled = none) (hdd : od.data = .dict es ep) (nSI : S ≠ I) (ndS : d ≠ S) (ndI : d ≠ I) (hn : es.size ≤ sizeLine) (res : Value)
  (hR : ∀ h' tk acc, (∃ c, h'.get? S = some (lsO acc c)) → acc.size = es.size → Got es S I h₁ h' acc → (∀ b o, b ≠ S → b ≠ I → h₁.get? b = some o → h'.get? b = some o) → R (.ok (.ret res)) { s with heap := h', toks := tk }) :
  ∀ (k i : Nat) (h : Heap) (tk : Nat) (acc : Array Value), es.size - i = k → i ≤ es.size → Lp es ep od S I d h₁ i acc h → codeAny (model prog w) A (.builtin "list.extend.loop" ⟨[.ref S, .ref I, res], []⟩) R { s with heap := h, toks := tk } := by
 intro k
 induction k with
 | zero =>
  intro i h tk acc hk hi L
  have hin := left_end hk hi
  subst hin
  refine codeAny_builtin PySem.F.entry_extend_loop ?_
  rw [Around.under_plainId PySem.F.plain_extend_loop _]
  show wpAny _ A.in1 (pyNext (.ref I) >>= _) _ _ _
  obtain ⟨⟨a, f, ok, ov, hit, ha⟩, hd, ⟨c, hS⟩, hsz, hgot, hbase⟩ := L
  refine wpAny_bind (it_end (s := { s with heap := h, toks := tk }) (A := A.in1) hh hit hd hdd fun h' he => ?_)
  refine wpAny_pure (hR h' tk acc ⟨c, he S _ nSI hS⟩ hsz (fun j v hj => ?_) fun b o n1 n2 e => he b o n2 (hbase b o n1 n2 e))
  obtain ⟨t, e, e1, e2, e3, e4, e5, e6⟩ := hgot j v hj
  exact ⟨t, e, e1, e2, e3, e4, he t _ e4 e5, e6⟩
 | succ k ih =>
  intro i h tk acc hk hi L
  have hlt := left_lt hk
  have hsz := L.sz
  refine codeAny_builtin PySem.F.entry_extend_loop ?_
  rw [Around.under_plainId PySem.F.plain_extend_loop _]
  show wpAny _ A.in1 (pyNext (.ref I) >>= _) _ _ _
  refine wpAny_bind (Lp.step (s := { s with heap := h, toks := tk }) hdd nSI ndS ndI hlt L fun v h' mk hS => ?_)
  obtain ⟨c, hS⟩ := hS
  show wpAny _ A.in1 (updateSeq S (·.push v) >>= _) _ _ _
  refine wpAny_bind (wpAny_updateSeq hS rfl (wpAny_pure ⟨plainId_quiet PySem.F.plain_extend_loop _, ih (i + 1) _ tk (acc.push v) (left_next hk) hlt (mk _ (fun b o n e => (Heap.get?_update_other _ _ (Ne.symm n)).trans e) ⟨_, Heap.get?_update_self _ hS rfl⟩)⟩) (by rw [hsz]; exact Nat.le_trans hi hn) (by show (acc.push v).size ≤ sizeLine + 1; rw [Array.size_push, hsz]; exact Nat.succ_le_succ (Nat.le_trans hi hn)))
end
section
variable {prog : Program} {w : World} {A : Around} {E : Value → Shared → Prop} {s : Shared} {r d : Addr} {od : Obj} {es : Array DictEntry} {ep : Nat}
theorem iter_view {Q : Value → Shared → Prop} (hv : s.heap.IsItemsView r d) (hod : s.heap.get? d = some od) (hdd : od.data = .dict es ep)
  (hQ : Q (.ref s.heap.objs.size) { s with heap := s.heap.push (itO .none false d 0 es.size ep .none .none) }) : wpAny (model prog w) A (pyIter (.ref r)) Q E s := by
 obtain ⟨ov, hov, hcv, hdv⟩ := id hv
 refine wpAny_pyIter_slot hv.typeIs PySem.F.slot_dict_items_iter (wpAny_call_entry PySem.F.slot_dict_items_iter hv.typeIs PySem.F.entry_dict_items_iter ?_ (PySem.F.args_dict_items_iter_1 _))
 unfold Builtin.«dict_items.__iter__»
 refine wpAny_bind (wpAny_pure (wpAny_bind ?_))
 unfold Builtin.Dict_items.dictOf
 refine wpAny_bind (wpAny_field hov hdv (x := .ref d) rfl (wpAny_pure (wpAny_bind ?_)))
 unfold Builtin.Dict_items.newIterator
 refine wpAny_bind (wpAny_dictEntries hod hdd (wpAny_bind (wpAny_dictEpoch hod hdd ?_)))
 have hown : Builtin.Dict_items.ownsTuple "dict_itemiterator" = true := by decide
 simp only [hown, if_true]
 refine wpAny_newObj_type (wpAny_pure ⟨_, rfl, "dict_itemiterator", _, ⟨_, Heap.get?_push_size _ rfl, rfl⟩, PySem.F.slot_dict_itemiterator_next.lookup, ?_⟩)
  (by simp only [sizeOk, Builtin.Dict_items.ownedTupleFields, List.size_toArray, List.length_append, List.length_cons, List.length_nil, sizeLine_eq]; omega)
 simpa [rawInt, itO, Builtin.Dict_items.ownedTupleFields] using hQ
theorem list_items {Q : Value → Shared → Prop} (hh : A.handled = none) (hv : s.heap.IsItemsView r d) (hod : s.heap.get? d = some od) (hdd : od.data = .dict es ep) (hn : es.size ≤ sizeLine)
  (hQ : ∀ h' tk acc c, Sub s.heap h' → h'.get? s.heap.objs.size = some (lsO acc c) → acc.size = es.size → (∀ (j : Nat) v, acc[j]? = some v → ∃ t e, v = .ref t ∧ es[j]? = some e ∧ h'.get? t = some (tuO e.key e.val) ∧ s.heap.get? t = none) → Q (.ref s.heap.objs.size) { s with heap := h', toks := tk }) :
  wpAny (model prog w) A (call (.type "list") [.ref r]) Q E s := by
 refine callType_codes (Q₁ := fun obj s₁ => obj = .ref s.heap.objs.size ∧ s₁ = { s with heap := s.heap.push { cls := .type "list", data := .seq #[] } }) PySem.F.called_list (PySem.F.typeCall_list_1 _) PySem.F.entry_list_init
  (code_list_new _ ⟨rfl, rfl⟩) fun obj s₁ q₁ => ?_
 obtain ⟨rfl, rfl⟩ := q₁
 obtain ⟨ov, hov, hcv, hdv⟩ := id hv
 have hrlt := Heap.lt_size hov
 have hdlt := Heap.lt_size hod
 have hS : (s.heap.push { cls := .type "list", data := .seq #[] }).get? s.heap.objs.size = some { cls := .type "list", data := .seq #[] } := Heap.get?_push_size _ rfl
 refine ⟨⟨_, hS, rfl⟩, PySem.F.args_list_init_2 _ _, ?_⟩
 have hS₂ := Heap.get?_update_self (Obj.mapSeq (fun _ => (#[] : Array Value))) hS rfl
 have base : ∀ b o, s.heap.get? b = some o → ((s.heap.push { cls := .type "list", data := .seq #[] }).update s.heap.objs.size (Obj.mapSeq (fun _ => (#[] : Array Value)))).get? b = some o :=
  fun b o e => (Heap.get?_update_other _ _ (Nat.ne_of_gt (Heap.lt_size e))).trans (Heap.get?_push_of_some _ e)
 have hz2 : ((s.heap.push { cls := .type "list", data := .seq #[] }).update s.heap.objs.size (Obj.mapSeq (fun _ => (#[] : Array Value)))).objs.size = s.heap.objs.size + 1 := by
  rw [(Heap.SameBut.update ..).1, Heap.size_push]
 show wpAny _ _ (do let old ← Builtin.List.listItems (.ref s.heap.objs.size); Builtin.List.listUpdate (.ref s.heap.objs.size) (fun _ => #[]); letGo old.toList.reverse; Builtin.List.listExtendWith (.ref s.heap.objs.size) (.ref r) .none) _ _ _
 refine wpAny_bind ?_
 unfold Builtin.List.listItems
 refine wpAny_bind (wpAny_seqItems hS rfl (wpAny_pure ?_))
 show wpAny _ _ (updateSeq s.heap.objs.size (fun _ => #[]) >>= fun _ => letGo (#[] : Array Value).toList.reverse >>= fun _ => Builtin.List.listExtendWith (.ref s.heap.objs.size) (.ref r) .none) _ _ _
 refine wpAny_bind (wpAny_updateSeq hS rfl (wpAny_bind (wpAny_letGo ?_)))
 generalize hN : s.heap.objs.size = S at *
 generalize ((s.heap.push { cls := .type "list", data := .seq #[] }).update S (Obj.mapSeq (fun _ => (#[] : Array Value)))) = h₂ at *
 have hv₂ : h₂.IsItemsView r d := ⟨ov, base _ _ hov, hcv, hdv⟩
 have hd₂ := base _ _ hod
 have nrS : S ≠ r := Nat.ne_of_gt hrlt
 have ndS : d ≠ S := Nat.ne_of_lt hdlt
 have nSI : S ≠ h₂.objs.size := by rw [hz2]; exact Nat.ne_of_lt (Nat.lt_succ_self _)
 have ndI : d ≠ h₂.objs.size := by rw [hz2]; exact Nat.ne_of_lt (Nat.lt_succ_of_lt hdlt)
 have key : ∀ (h : Heap) (tk : Nat), (∀ b o, b ≠ S → (h₂.push (itO .none false d 0 es.size ep .none .none)).get? b = some o → h.get? b = some o) → (∃ c, h.get? S = some (lsO #[] c)) →
   codeAny (model prog w) A.in1 (.builtin "list.extend.loop" ⟨[.ref S, .ref h₂.objs.size, .none], []⟩) (fun r₂ s' => match r₂ with
    | .ok (.ret r) => r = .none ∧ Q (.ref S) s'
    | .ok _ => False
    | .error e => E e s') { s with heap := h, toks := tk } := fun h tk up li =>
  lp_loop (od := od) (d := d) (h₁ := h₂) (R := fun r₂ s' => match r₂ with
    | .ok (.ret r) => r = .none ∧ Q (.ref S) s'
    | .ok _ => False
    | .error e => E e s') (A := A.in1) hh hdd nSI ndS ndI hn .none (fun h' tk' acc ⟨c, e⟩ z g kp => ⟨rfl, hQ h' tk' acc c (fun b o x => by
     have lb := Heap.lt_size x
     rw [hN] at lb
     exact kp b o (Nat.ne_of_lt lb) (by rw [hz2]; exact Nat.ne_of_lt (Nat.lt_succ_of_lt lb)) (base _ _ x)) e z fun j v hj => let ⟨t, e, q1, q2, _, _, q5, q6⟩ := g j v hj; ⟨t, e, q1, q2, q5, Sub.none (fun b o x => base b o x) q6⟩⟩)
   es.size 0 h tk #[] (Nat.sub_zero _) (Nat.zero_le _) ⟨⟨_, _, _, _, up _ _ nSI.symm (Heap.get?_push_size _ rfl), .inl rfl⟩, up _ _ ndS (Heap.get?_push_of_some _ hd₂), li, rfl, fun j v hj => by simp at hj, fun b o n1 n2 e => up b o n1 (Heap.get?_push_of_some _ e)⟩
 unfold Builtin.List.listExtendWith
 refine wpAny_bind (wpAny_typeOf (T := "dict_items") hv₂.typeIs ?_)
 have h1 : Builtin.List.listSameRef (.ref S) (.ref r) = false := by simp [Builtin.List.listSameRef, nrS]
 have h2 : (Value.type "dict_items" == Value.type "list") = false := by decide
 have h3 : (Value.type "dict_items" == Value.type "tuple") = false := by decide
 simp only [h1, h2, h3, Bool.or_false, Bool.false_eq_true, if_false]
 refine wpAny_bind (iter_view hv₂ hd₂ hdd ?_)
 have hS₃ := Heap.get?_push_of_some (itO .none false d 0 es.size ep .none .none) hS₂
 refine wpAny_bind (wpAny_holding (kdx_hint ⟨ov, Heap.get?_push_of_some _ (base _ _ hov), hcv⟩ ?_))
 refine wpAny_ite_split (fun _ => ?_) (fun _ => wpAny_pure ⟨plainId_quiet PySem.F.plain_extend_loop _, key _ _ (fun b o _ e => e) ⟨_, hS₃⟩⟩)
 refine wpAny_bind (wpAny_rule (wpAny_bind ?_))
 show wpAny _ _ (updateSeq S (·.push .none) >>= fun _ => updateSeq S (·.pop)) _ _ _
 refine wpAny_bind (wpAny_updateSeq hS₃ rfl ?_)
 have hS₄ := Heap.get?_update_self (Obj.mapSeq (·.push Value.none)) hS₃ rfl
 refine wpAny_updateSeq (hz := by seq_fits) hS₄ rfl ?_
 have hS₅ := Heap.get?_update_self (Obj.mapSeq (·.pop)) hS₄ rfl
 exact wpAny_pure ⟨plainId_quiet PySem.F.plain_extend_loop _, key _ _ (fun b o hb e => (Heap.get?_update_other _ _ (Ne.symm hb)).trans ((Heap.get?_update_other _ _ (Ne.symm hb)).trans e)) ⟨_, hS₅⟩⟩
end
noncomputable def IvP (w : World) (kvs : List (Str × PyData)) : Heap → Value → Prop := fun h v => ∃ u d od es ep xs, v = .ref u ∧ h.IsItemsView u d ∧ h.get? d = some od ∧ od.data = .dict es ep ∧ Pairs (strKind PG w) es.toList xs ∧ KvR h xs kvs
theorem IvP.mono {w : World} {kvs : List (Str × PyData)} : Mono (IvP w kvs) := fun _ _ _ s ⟨u, d, od, es, ep, xs, e, ⟨ov, h1, h2⟩, h3, h4, h5, h6⟩ => ⟨u, d, od, es, ep, xs, e, ⟨ov, s _ _ h1, h2⟩, s _ _ h3, h4, h5, h6.mono s⟩
section
variable {c : Cx} {g : Heap} {pos : Pos} {k : Nat} {kvs : List (Str × PyData)}
theorem op_list_items {v : Value} (hA : AOk k c.A) (hz : kvs.length ≤ sizeLine) (h : IvP c.w kvs g v) : Does c (call (.type "list") [v]) (RdP (.list (kvs.map fun kv => .tuple [.str kv.1, kv.2]))) g := fun g₁ s Q E sg S kk => by
 obtain ⟨u, d, od, es, ep, xs, rfl, hv, hd, hdd, hp, r⟩ := IvP.mono _ _ _ sg h
 have hl : es.size = kvs.length := by rw [← r.length, ← hp.length]; simp
 refine list_items hA.1 (let ⟨ov, a, b⟩ := hv; ⟨ov, S.fz.sub _ _ a, b⟩) (S.fz.sub _ _ hd) hdd (by rw [hl]; exact hz) fun h' tk acc c' sub hS hsz hgot => ?_
 have S' : St c g₁ { s with heap := h', toks := tk } := S.step ⟨_, _, rfl⟩ sub
 obtain ⟨S₂, sg₂⟩ := S'.grow
 have off : ∀ a o, s.heap.get? a = none → h'.get? a = some o → (hideAll h' c.W).get? a = some o := fun a o n e => hideAll_get _ e fun q => by
  obtain ⟨o', e'⟩ := S.live a q
  rw [n] at e'; cases e'
 refine kk _ _ _ S₂ sg₂ sub (Rd.list (off _ _ (none_of_ge (Nat.le_refl _)) hS) rfl rfl (Rds.of_each (by rw [List.length_map, Array.length_toList, hsz, hl]) fun j v dd hj hd' => ?_))
 rw [Array.getElem?_toList] at hj
 obtain ⟨t, e, rfl, he, ht, hn⟩ := hgot j v hj
 rw [List.getElem?_map] at hd'
 cases hk : kvs[j]? with
 | none => rw [hk] at hd'; cases hd'
 | some kv =>
  obtain ⟨key, x⟩ := kv
  rw [hk] at hd'
  cases hd'
  obtain ⟨val, hx, rv⟩ := r.get hk
  obtain ⟨k1, k2⟩ := hp.get? (e := e) (by rw [Array.getElem?_toList]; exact he) hx
  obtain ⟨t', kt⟩ := Value.isStrOf_shape k1
  exact Rd.tuple (off _ _ hn ht) rfl rfl (.cons (by rw [kt]; exact Rd.str) (.cons (by rw [k2]; exact rv.mono sg₂) .nil))
theorem gv_dict_items {o : Expr} {apos : Pos} (ho : Does c (eval o c.env) (DcP c.w kvs) g)
  (hbase : attributeBase o "items" c.env (eval o c.env) = eval o c.env := by rfl) (hline : (apos.endLine == pos.line) = true := by rfl) :
  Does c (eval (.Call (.Attribute o "items" apos) [] [] pos) c.env) (IvP c.w kvs) g :=
 gv_method0 PySem.F.plainAttrs_dict PySem.F.slot_dict_items PySem.F.type_dict_items ho (fun g₁ v s ⟨a, xs, e, l, D, r⟩ sg => ⟨e ▸ (D.keep sg).typeIs, fun b hb => (D.keep sg).mapOf.noDict b (e ▸ hb)⟩) (fun g₁ v sg p => fun g₂ s Q E sg' S kk => by
  obtain ⟨a, xs, rfl, l, D, r⟩ := p
  have D' := D.keep (sg'.trans S.fz.sub)
  refine call_meetsIn PySem.F.slot_dict_items D'.typeIs PySem.F.entry_dict_items (PySem.F.args_dict_items_1 _) (meets_dict_items (strKind PG c.w) a l) ⟨⟨_, D'⟩, ?_⟩
  obtain ⟨g', S', sg₁, e'⟩ := S.new (o := { cls := .type "dict_items", data := .fields #[.ref a] }) (tk := s.toks) rfl
  obtain ⟨od, es, ep, hod, hc, hdd, hk, hp, hn⟩ := D.keep (sg'.trans sg₁)
  exact kk g' _ _ S' sg₁ Sub.push ⟨_, a, od, es, ep, xs, rfl, ⟨_, e', rfl, rfl⟩, hod, hdd, hp, r.mono (sg'.trans sg₁)⟩) hbase hline
theorem items_meth {w : World} {A : Around} {E : Value → Shared → Prop} {h : Heap} {x dx : Addr} {ga : Array GenState} {d : Drawn} {tk : Nat} {os : OsState} {es : Array DictEntry} {ep : Nat} {sl : Array (Option Value)} {fv : Option Value} {pl : Sem Bool} {Q : Value × List Value → Shared → Prop} (X : (HK w.params).In h) (hx : h.get? x = some (hdObj dx es ep sl)) (D : DxAt h dx fv) (hq : Q (.builtin "dict.items", [.ref x]) ⟨h, ga, d, tk, os⟩) :
  wpAny (model PG w) A (getMethod (.ref x) "items" pl) Q E ⟨h, ga, d, tk, os⟩ := by
 obtain ⟨od, I, hl⟩ := D.inst hx
 have hga : findIn (HK w.params) (.ref 108) "__getattribute__" = some (some (.builtin "collections.defaultdict.__getattribute__")) := by rfl
 have hk : findIn (HK w.params) (.ref 108) "__getattr__" = some none := by rfl
 have hf : findIn (HK w.params) (.ref 108) "items" = some (some (.builtin "dict.items")) := by rfl
 unfold getMethod specialOf
 refine wpAny_bind (wpAny_bind (I.type.here ((looks_findIn X hga).here ?_)))
 dsimp only
 rw [canon_dga, if_neg (by decide)]
 refine wpAny_bind (wpAny_bind (I.type.here ((looks_findIn X hk).here ?_)))
 refine wpAny_bind (wpAny_bind (I.type.here ((looks_findIn X hf).here (wpAny_bind (wpAny_of_eq PySem.F.type_dict_items ?_)))))
 rw [if_neg (by decide +kernel)]
 refine wpAny_bind (wpAny_loadPart hx ?_)
 have hd := I.dict
 refine wpAny_bind (wpAny_bind (wpAny_loadPart hd ?_))
 rw [nsLook_of (hl "items")]
 refine wpAny_pure ?_
 rw [show (fzM fv "items").isSome = false from by unfold fzM; rw [if_neg (by decide)]; rfl]
 exact wpAny_bind (wpAny_rule (wpAny_pure hq))
theorem items_run {w : World} {A : Around} {h : Heap} {x dx : Addr} {ga : Array GenState} {d : Drawn} {tk : Nat} {os : OsState} {R : Result → Shared → Prop} {es : Array DictEntry} {ep : Nat} {sl : Array (Option Value)} (X : (HK w.params).In h) (ho : h.get? x = some (hdObj dx es ep sl)) (h3 : 3 < x)
  (hq : R (.ok (.ret (.ref h.objs.size))) ⟨h.push { cls := .type "dict_items", data := .fields #[.ref x] }, ga, d, tk, os⟩) :
  codeAny (model PG w) A (.call (.builtin "dict.items") ⟨[.ref x], []⟩) R ⟨h, ga, d, tk, os⟩ := by
 have t1 : Looks (model PG w) h (typeOf (.ref x)) (.ref 108) := (Looks.ld ho).andThen .now
 have l1 : Looks (model PG w) h (isInstance (.ref x) (.type "dict")) true := t1.andThen (looks_mroIn X (by rfl))
 have l2 : Looks (model PG w) h (isInstance (.ref x) (.type "collections.OrderedDict")) false := t1.andThen (looks_mroIn X (by rfl))
 have hk : builtinKind "dict.items" = some .method := by decide +kernel
 have hs : splitId "dict.items" = some ("dict", "items") := by decide +kernel
 have pl : plainId "dict.items" = true := by decide +kernel
 refine codeAny_call_builtin pl PySem.F.entry_dict_items ?_
 refine @check_meth (model PG w) _ _ _ "dict.items" "dict" "items" (.ref x) [] [] _ hk hs l1 (PySem.F.args_dict_items_1 _) ?_
 unfold Builtin.«dict.items»
 refine wpAny_bind ?_
 unfold Builtin.Dict.noArgs
 refine wpAny_bind ?_
 unfold Builtin.Dict.notOrdered
 rw [if_pos (by decide)]
 refine wpAny_bind (t1.at ?_)
 rw [if_pos (by rfl)]
 refine wpAny_bind (l2.at ?_)
 rw [if_neg (by decide)]
 refine wpAny_pure ?_
 show wpAny _ _ (pure x) _ _ _
 refine wpAny_pure ?_
 show wpAny _ _ (Builtin.Dict.showsAll x >>= _) _ _ _
 unfold Builtin.Dict.showsAll
 rw [if_neg (by rw [sysNe h3]; exact Bool.false_ne_true)]
 refine wpAny_bind (wpAny_pure ?_)
 exact wpAny_bind (wpAny_newObj_type (wpAny_pure hq))
theorem gv_heads_items {b : Book} {nm : Str} {np apos : Pos} (hK : c.K = HK c.w.params) (ho : Does c (eval (.Name nm np) c.env) (IdxP c.w b) g)
  (hbase : attributeBase (.Name nm np) "items" c.env (eval (.Name nm np) c.env) = eval (.Name nm np) c.env := by rfl) (hline : (apos.endLine == pos.line) = true := by rfl) :
  Does c (eval (.Call (.Attribute (.Name nm np) "items" apos) [] [] pos) c.env) (IvP c.w (encB b)) g := fun g₁ s Q E sg S kk => by
 refine call_gm (ho g₁ s _ E sg S fun g₂ s₂ v S₂ sg₂ sh₂ p => fun pl => ?_) hbase hline rfl
 obtain ⟨x, dx, fa, lam, xs, rfl, H, R, D, L, F, h3⟩ := p
 have X : (HK c.w.params).In s₂.heap := (hK ▸ S₂.gl.K : (HK c.w.params).In g₂).keeps S₂.fz.sub
 obtain ⟨es, ep, ho', hk, hp, hn⟩ := H
 obtain ⟨g', S', sg₁, e'⟩ := S₂.new (o := { cls := .type "dict_items", data := .fields #[.ref x] }) (tk := s₂.toks) rfl
 have hx := S₂.fz.sub _ _ ho'
 have D' := D.sub fun o e => S₂.fz.sub _ _ e
 have fin : Q (.ref s₂.heap.objs.size) { s₂ with heap := s₂.heap.push { cls := .type "dict_items", data := .fields #[.ref x] } } := kk g' _ _ S' (sg₂.trans sg₁) (sh₂.trans Sub.push) ⟨_, x, _, es, ep, xs, rfl, ⟨_, e', rfl, rfl⟩, sg₁ _ _ ho', rfl, hp, R.mono sg₁⟩
 obtain ⟨h₂, ga, dr, tk, os⟩ := s₂
 exact items_meth X hx D' (callWith_method0 (wpAny_call (items_run X hx h3 fin)))
end
section
variable {c : Cx} {g : Heap} {s : Shared} {k : Nat} {Q : Flow → Shared → Prop} {E : Value → Shared → Prop}
noncomputable def itemsD (b : Book) : PyData := .list ((encB b).map fun kv => .tuple [.str kv.1, kv.2])
theorem itemsD_sh {b : Book} (h : ∀ kv ∈ b, Ok kv.1 ∧ ∀ p ∈ kv.2, Ok p.1) : Sh 5 (itemsD b) := Sh.list fun d hd => by
 obtain ⟨kv, hkv, rfl⟩ := List.mem_map.mp hd
 unfold encB at hkv
 obtain ⟨kv', hkv', rfl⟩ := List.mem_map.mp hkv
 obtain ⟨h1, h2⟩ := h _ hkv'
 refine Sh.tuple fun d hd => ?_
 rcases List.mem_cons.mp hd with rfl | hd
 ·exact (Sh.str (n := 1) h1).mono (by decide)
 ·rw [List.mem_singleton.mp hd]
  refine (Sh.list (n := 2) fun d hd => ?_).mono (by decide)
  obtain ⟨p, hp, rfl⟩ := List.mem_map.mp hd
  refine Sh.tuple fun d hd => ?_
  rcases List.mem_cons.mp hd with rfl | hd
  ·exact Sh.str (h2 p hp)
  ·rw [List.mem_singleton.mp hd]; exact Sh.int
theorem stageG4 {m : Str → Option Value} {L : Addr} {W O : List Addr} {s₀ : Shared} {b : Book} (hK : c.K = HK c.w.params) (hA : AOk 14 c.A) (S : St (fnCx c (en259 c.w.params L) m W O ss259 s₀) g s) (hdue : ∃ v, m "due" = some v ∧ DcP c.w (encB b) g v)
  (hheads : ∃ v, m "heads" = some v ∧ IdxP c.w b g v) (hbl : b.length ≤ 1000) (hok : ∀ kv ∈ b, Ok kv.1 ∧ ∀ p ∈ kv.2, Ok p.1)
  (h : ∀ g' s' v, St (fnCx c (en259 c.w.params L) m W O ss259 s₀) g' s' → Sub g g' → Rd g' v (.bool true) → Q (.ret v) s') :
  wpAny (model PG c.w) (c.A.deeper (en259 c.w.params L)) (execs ((bd259 c.w.params).drop 21) (en259 c.w.params L)) Q E s := by
 have hA' : AOk 13 (c.A.deeper (en259 c.w.params L)) := AOk.deeper (n := 13) hA
 obtain ⟨vd, ed, rd⟩ := hdue
 obtain ⟨vh, eh, rh⟩ := hheads
 have hsh := itemsD_sh hok
 have hbl' : (encB b).length ≤ sizeLine := by rw [encB_len, sizeLine_eq]; omega
 refine ex_return (c := fnCx c (en259 c.w.params L) m W O ss259 s₀) (P := RdP (.bool true)) (gv_compare1 (P₁ := RdP (itemsD b)) (P₂ := RdP (itemsD b)) RdP.mono ?_ ?_ fun g₁ a b' _ p q => ?_) S fun g' s' v sg r S' sh => h g' s' v S' sg r
 ·refine gv_call_t (T := "list") (R := PL [IvP c.w (encB b)]) (gv_bi rfl hK rfl (by rfl) (by decide)) (ar_cons IvP.mono (gv_heads_items (c := fnCx c (en259 c.w.params L) m W O ss259 s₀) hK (gv_name rfl eh fun g' s => IdxP.mono _ _ _ s rh)) ar_nil) fun g₁ vs sg q => ?_
  obtain ⟨u, _, rfl, pu, rfl⟩ := q
  exact op_list_items (c := fnCx c (en259 c.w.params L) m W O ss259 s₀) hA' hbl' pu
 ·refine gv_call_t (T := "list") (R := PL [IvP c.w (encB b)]) (gv_bi rfl hK rfl (by rfl) (by decide)) (ar_cons IvP.mono (gv_dict_items (c := fnCx c (en259 c.w.params L) m W O ss259 s₀) (gv_name rfl ed fun g' s => DcP.mono _ _ _ s rd)) ar_nil) fun g₁ vs sg q => ?_
  obtain ⟨u, _, rfl, pu, rfl⟩ := q
  exact op_list_items (c := fnCx c (en259 c.w.params L) m W O ss259 s₀) hA' hbl' pu
 ·have := op_eq_data (c := fnCx c (en259 c.w.params L) m W O ss259 s₀) hA' (hsh.shaped (by decide)) (hsh.shaped (by decide)) p q
  rw [hsh.refl] at this
  exact this
end
section
variable {M : Model} {A : Around} {E : Value → Shared → Prop} {s : Shared} {env : Env}
theorem wpC_app {l1 l2 : List Stmt} {Q : Flow → Shared → Prop} (h : wpAny M A (execs l1 env) (fun f s' => match f with | .next => wpC M A (execs l2 env) Q E s' | f => Q f s') E s) : wpC M A (execs (l1 ++ l2) env) Q E s := fun Γ p hΓ hc => by
 have z := h Γ p hΓ
 clear h
 induction l1 generalizing p s with
 | nil =>
  rw [execs_nil, Sem.wp_pure'] at z
  exact z Γ p hΓ hc
 | cons st l1 ih =>
  rw [execs_cons, Sem.wp_bind'] at z
  rw [List.cons_append, execs_cons, Sem.wp_bind']
  refine Sem.wp_mono M Γ _ (fun f p' s' h' => ?_) (fun _ _ _ h' => h') _ _ z
  cases f with
  | next => exact ih p' h'
  | _ => exact h'
end
theorem keep_of {T : List Str} {m m' : Str → Option Value} {g g' : Heap} {x : Str} {P : Heap → Value → Prop} (k : Keep T m m') (hP : Mono P) (s : Sub g g') (h : ∃ v, m x = some v ∧ P g v) (hx : T.contains x = false) : ∃ v, m' x = some v ∧ P g' v := let ⟨v, e, r⟩ := h; ⟨v, (k x hx).trans e, hP _ _ _ s r⟩
theorem FA.keep {w : World} {T : List Str} {m m' : Str → Option Value} {g g' : Heap} (f : FA w m g) (k : Keep T m m') (s : Sub g g') (h1 : T.contains "words" = false) (h2 : T.contains "menu" = false) (h3 : T.contains "own" = false) (h4 : T.contains "numbers" = false) : FA w m' g' :=
 ⟨keep_of k RdP.mono s f.words h1, keep_of k RdP.mono s f.menu h2, keep_of k DcP.mono s f.own h3, keep_of k DcP.mono s f.nums h4⟩
theorem FB.keep {w : World} {dr : List Nat} {T : List Str} {m m' : Str → Option Value} {g g' : Heap} (f : FB w dr m g) (k : Keep T m m') (s : Sub g g') (h1 : T.contains "drawn" = false) (h2 : T.contains "puts" = false) (h3 : T.contains "stop" = false) (h4 : T.contains "line" = false) : FB w dr m' g' :=
 ⟨keep_of k RdP.mono s f.drawn h1, keep_of k RdP.mono s f.puts h2, keep_of k RdP.mono s f.stop h3, keep_of k RdP.mono s f.line h4⟩
theorem FD.keep {w : World} {b : Book} {x : Str} {T : List Str} {m m' : Str → Option Value} {g g' : Heap} (f : FD w b x m g) (k : Keep T m m') (s : Sub g g') (h1 : T.contains "due" = false) (h2 : T.contains "stock" = false) (h3 : T.contains "tokens" = false) (h4 : T.contains "plain" = false) : FD w b x m' g' :=
 ⟨keep_of k DcP.mono s f.due h1, keep_of k DcP.mono s f.stock h2, keep_of k RdP.mono s f.toks h3, keep_of k RdP.mono s f.plain h4⟩
theorem FE.keep {w : World} {b : Book} {x : Str} {m : Str → Option Value} {g g' : Heap} (f : FE w b x m g) (s : Sub g g') : FE w b x m g' :=
 have k : Keep [] m m := fun _ _ => rfl
 ⟨keep_of k RdP.mono s f.parts rfl, keep_of k RdP.mono s f.spans rfl, keep_of k RdP.mono s f.cuts rfl, keep_of k RdP.mono s f.bare rfl⟩
structure Good (b : Book) (x : Str) : Prop where
 bl : b.length ≤ 38
 few : Few b 38
 ent : ∀ kv ∈ b, ∀ p ∈ kv.2, p.1.length ≤ 8
 stn : (stockKv b).length ≤ 2000
 stl : ∀ kv ∈ stockKv b, kv.1.length ≤ 8
 okb : ∀ kv ∈ b, Ok kv.1 ∧ ∀ p ∈ kv.2, Ok p.1
 xz : x.length ≤ 1000
 okx : Ok x
 t1 : ∀ t ∈ tokens b x, plainAt (stockKv b) x t.1 = t.2.1 ∧ numOf b t.2.1 = .int t.2.2
 okp : ∀ p ∈ peeled x, Ok p
 px : ∀ p ∈ peeled x, p.length ≤ 1000
 pn : (peeled x).length ≤ 1001
 sn : (spansOf x).length ≤ 1001
 sl : ∀ sp ∈ spansOf x, sp.length ≤ 1000
 so : ∀ sp ∈ spansOf x, sp.getD 0 0 ≤ sp.getLastD 0 + 1
 ne : ∀ q ∈ (peeled x).zip (spansOf x), tokens b q.1 ≠ [] → q.2 ≠ []
 t2a : (peeled x).length = (spansOf x).length
 t2b : (cutsOf b x).flatten.map encT = bareOf b x
 t3 : peeled x = (spansOf x).map (pieceOf x)
 jl : (Txt.join " = " (peeled x)).length ≤ 1000000
 t4a : peeled (Txt.join " = " (peeled x)) = peeled x
 t4b : ∀ p ∈ peeled x, peeled p = [p]
section
variable {c : Cx} {g : Heap} {s : Shared} {k : Nat} {Q : Flow → Shared → Prop} {E : Value → Shared → Prop}
theorem law_body {m : Str → Option Value} {L : Addr} {W O : List Addr} {s₀ : Shared} {xs : List Int} {vs : Value} (hK : c.K = HK c.w.params) (hA : AOk 14 c.A) (hfr : c.A.frames = some []) (S : St (fnCx c (en259 c.w.params L) m W O ss259 s₀) g s)
  (hs : m "script" = some vs) (rs : Rd g vs (.list (dInts xs))) (hxs : xs.length ≤ 63)
  (hX : ∀ a ∈ [225, 100], a ∈ W ∧ a ∉ foot (en259 c.w.params L)) (hO : ∀ x ∈ ss259, ∀ a, (en259 c.w.params L).cells.lookup x = some a → a ∈ O) (hT : ∀ a ∈ [225, 100], s₀.heap.get? a = some (tabObj #[]))
  (hb : ixB (drOf xs) = duB (drOf xs)) (G : Good (duB (drOf xs)) (lineOf (drOf xs)))
  (h : ∀ m' g' s' s₀' v, St (fnCx c (en259 c.w.params L) m' W O ss259 s₀') g' s' → Sub g g' → Kept [225, 100] s₀ s₀' → Rd g' v (.bool true) → Q (.ret v) s') :
  wpC (model PG c.w) (c.A.deeper (en259 c.w.params L)) (execs (bd259 c.w.params) (en259 c.w.params L)) Q E s := by
 generalize hdr : drOf xs = dr at hb G
 generalize hb' : duB dr = b at hb G
 generalize hx : lineOf dr = x at G
 have hdl : dr.length ≤ 10 := hdr ▸ drOf_len xs
 have e0 : bd259 c.w.params = (bd259 c.w.params).take 4 ++ ((bd259 c.w.params).drop 4) := (List.take_append_drop ..).symm
 have e1 : (bd259 c.w.params).drop 4 = ((bd259 c.w.params).drop 4).take 4 ++ ((bd259 c.w.params).drop 8) := by rfl
 have e2 : (bd259 c.w.params).drop 8 = ((bd259 c.w.params).drop 8).take 1 ++ ((bd259 c.w.params).drop 9) := by rfl
 have e3 : (bd259 c.w.params).drop 9 = ((bd259 c.w.params).drop 9).take 4 ++ ((bd259 c.w.params).drop 13) := by rfl
 have e4 : (bd259 c.w.params).drop 13 = ((bd259 c.w.params).drop 13).take 1 ++ ((bd259 c.w.params).drop 14) := by rfl
 have e5 : (bd259 c.w.params).drop 15 = ((bd259 c.w.params).drop 15).take 3 ++ ((bd259 c.w.params).drop 18) := by rfl
 have e6 : (bd259 c.w.params).drop 18 = ((bd259 c.w.params).drop 18).take 1 ++ ((bd259 c.w.params).drop 19) := by rfl
 have e7 : (bd259 c.w.params).drop 19 = ((bd259 c.w.params).drop 19).take 1 ++ ((bd259 c.w.params).drop 20) := by rfl
 rw [e0]
 refine wpC_app (stageA hK hA S fun m₁ g₁ s₁ S₁ sg₁ fa k₁ => ?_)
 show wpC _ _ (execs ((bd259 c.w.params).drop 4) _) _ _ _
 rw [e1]
 refine wpC_app (stageB (xs := xs) (vs := vs) hK hA S₁ fa ((k₁ "script" (by decide)).trans hs) (rs.mono sg₁) hxs fun m₂ g₂ s₂ S₂ sg₂ fb k₂ => ?_)
 rw [hdr] at fb
 have fa₂ : FA c.w m₂ g₂ := fa.keep k₂ sg₂ (by decide) (by decide) (by decide) (by decide)
 show wpC _ _ (execs ((bd259 c.w.params).drop 8) _) _ _ _
 rw [e2]
 refine wpC_app (stageC hdl hK hA S₂ fa₂ fb hX hO hT fun m₃ g₃ s₃ s₀' S₃ sg₃ fc k₃ kp => ?_)
 have fa₃ : FA c.w m₃ g₃ := fa₂.keep k₃ sg₃ (by decide) (by decide) (by decide) (by decide)
 have fb₃ : FB c.w dr m₃ g₃ := fb.keep k₃ sg₃ (by decide) (by decide) (by decide) (by decide)
 have hheads : ∃ v, m₃ "heads" = some v ∧ IdxP c.w b g₃ v := hb ▸ fc.heads
 show wpC _ _ (execs ((bd259 c.w.params).drop 9) _) _ _ _
 rw [e3]
 refine wpC_app (stageD (b := b) (x := x) hdl hK hA S₃ fa₃ fb₃ hx.symm hb'.symm hheads G.xz G.ent G.stn G.stl fun m₄ g₄ s₄ S₄ sg₄ fd k₄ => ?_)
 have hheads₄ : ∃ v, m₄ "heads" = some v ∧ IdxP c.w b g₄ v := keep_of k₄ IdxP.mono sg₄ hheads (by decide)
 have hline₄ : ∃ v, m₄ "line" = some v ∧ Rd g₄ v (.str x) := hx ▸ keep_of k₄ RdP.mono sg₄ fb₃.line (by decide)
 show wpC _ _ (execs ((bd259 c.w.params).drop 13) _) _ _ _
 rw [e4]
 refine wpC_app (stageE (b := b) (x := x) hK hA S₄ fd G.xz G.okx G.t1 fun g₅ s₅ S₅ sg₅ => ?_)
 have k0 : Keep [] m₄ m₄ := fun _ _ => rfl
 have fd₅ : FD c.w b x m₄ g₅ := fd.keep k0 sg₅ rfl rfl rfl rfl
 show wpC _ _ (execs ((bd259 c.w.params).drop 14) _) _ _ _
 refine stageF1 (rest := []) (x := x) hK hA hfr S₅ (keep_of k0 RdP.mono sg₅ hline₄ rfl) G.xz fun vp g₆ s₆ S₆ sg₆ rp => ?_
 have k6 : Keep ["parts"] m₄ (upd m₄ "parts" vp) := fun y hy => upd_ne (nc_head hy)
 have fd₆ : FD c.w b x (upd m₄ "parts" vp) g₆ := fd₅.keep k6 sg₆ (by decide) (by decide) (by decide) (by decide)
 have sg46 := sg₅.trans sg₆
 rw [e5]
 refine wpC_app (stageF2 (b := b) (x := x) hK hA S₆ fd₆ (keep_of k6 RdP.mono sg46 hline₄ (by decide)) (keep_of k6 IdxP.mono sg46 hheads₄ (by decide)) ⟨vp, upd_eq, rp⟩ G.xz G.few G.ent G.px G.pn G.sn G.sl G.ne fun m₇ g₇ s₇ S₇ sg₇ fe k₇ => ?_)
 have hline₇ : ∃ v, m₇ "line" = some v ∧ Rd g₇ v (.str x) := keep_of k₇ RdP.mono sg₇ (keep_of k6 RdP.mono sg46 hline₄ (by decide)) (by decide)
 have hheads₇ : ∃ v, m₇ "heads" = some v ∧ IdxP c.w b g₇ v := keep_of k₇ IdxP.mono sg₇ (keep_of k6 IdxP.mono sg46 hheads₄ (by decide)) (by decide)
 have hdue₇ : ∃ v, m₇ "due" = some v ∧ DcP c.w (encB b) g₇ v := keep_of k₇ DcP.mono sg₇ fd₆.due (by decide)
 have k70 : Keep [] m₇ m₇ := fun _ _ => rfl
 show wpC _ _ (execs ((bd259 c.w.params).drop 18) _) _ _ _
 rw [e6]
 refine wpC_app (stageG1 (b := b) (x := x) hK hA S₇ fe G.okp G.px G.pn G.t2a G.t2b fun g₈ s₈ S₈ sg₈ => ?_)
 show wpC _ _ (execs ((bd259 c.w.params).drop 19) _) _ _ _
 rw [e7]
 refine wpC_app (stageG2 (b := b) (x := x) hK hA S₈ (fe.keep sg₈) (keep_of k70 RdP.mono sg₈ hline₇ rfl) G.xz G.okp G.pn G.sn G.sl G.so G.t3 fun g₉ s₉ S₉ sg₉ => ?_)
 show wpC _ _ (execs ((bd259 c.w.params).drop 20) _) _ _ _
 refine stageG3 (b := b) (x := x) hK hA hfr S₉ (fe.keep (sg₈.trans sg₉)) G.okp G.px G.pn G.jl G.t4a G.t4b fun ga sa Sa sga => ?_
 have sg7a := (sg₈.trans sg₉).trans sga
 refine wpC_any (stageG4 (b := b) hK hA Sa (keep_of k70 DcP.mono sg7a hdue₇ rfl) (keep_of k70 IdxP.mono sg7a hheads₇ rfl) (Nat.le_trans G.bl (by decide)) G.okb fun gz sz v Sz sgz rv => ?_)
 exact h m₇ gz sz s₀' v Sz (((((((sg₁.trans sg₂).trans sg₃).trans sg₄).trans sg46).trans sg₇).trans sg7a).trans sgz) kp rv
end
theorem rds_ints {h : Heap} : ∀ {vs : List Value} {xs : List Int}, IntsAre vs xs → Rds h vs (dInts xs)
 | _, _, .nil => .nil
 | _, _, .cons n t r => .cons Rd.int (rds_ints r)
section
variable {c : Cx} {g : Heap} {k : Nat} {s : Shared}
theorem entry_St {fd : FuncData} {a : Addr} {binds : List (Str × Value)} {S : List Str} {W : List Addr} {s₁ : Shared} (hg0 : Sub g s.heap) (hoff : ∀ b ∈ W, g.get? b = none) (hlive : ∀ b ∈ W, ∃ o, s.heap.get? b = some o) (hgl : GL c.K g)
  (hk : fd.scope.kind = .function) (hS : stOk fd.scope S = true) (hg : fd.globals = mainGlobals) (hb : fd.builtins = builtinsNs)
  (x : InCallC s (callEnvC fd s.heap.objs.size a).locals (bindL (callEnvC fd s.heap.objs.size a).kindOf binds fun _ => none) (callEnvC fd s.heap.objs.size a).cells (bindC (callEnvC fd s.heap.objs.size a).kindOf binds fun _ => none) s₁) :
  St (fnCx c (callEnvC fd s.heap.objs.size a) (bindM binds) (foot (callEnvC fd s.heap.objs.size a) ++ W) (foot (callEnvC fd s.heap.objs.size a)) S s) g s₁ ∧ ∀ b ∈ foot (callEnvC fd s.heap.objs.size a), s.heap.objs.size ≤ b := by
 have hk2 := Bool.and_eq_true_iff.mp hS
 have hnd : ((cellsFrom 0 fd.scope.names []).map (·.1)).Nodup := of_decide_eq_true hk2.1
 obtain ⟨h₁, tk, rfl, keep⟩ := x.done
 have keep' : Sub s.heap h₁ := keep
 have cellGe : ∀ p ∈ (callEnvC fd s.heap.objs.size a).cells, s.heap.objs.size < p.2 := fun p hp => x.above p.1 p.2 hp
 have footGe : ∀ b ∈ foot (callEnvC fd s.heap.objs.size a), s.heap.objs.size ≤ b := fun b hb => by
  rcases List.mem_cons.mp hb with rfl | hb
  ·exact Nat.le_refl _
  ·obtain ⟨p, hp, rfl⟩ := List.mem_map.mp hb
   exact Nat.le_of_lt (cellGe p hp)
 have footLive : ∀ b ∈ foot (callEnvC fd s.heap.objs.size a), ∃ o, h₁.get? b = some o := fun b hb => by
  rcases List.mem_cons.mp hb with rfl | hb
  ·obtain ⟨o, _, _, ho, _⟩ := x.toInCall.ns; exact ⟨o, ho⟩
  ·obtain ⟨⟨n, b⟩, hp, rfl⟩ := List.mem_map.mp hb
   obtain ⟨o, ho, _⟩ := x.cell n b (lookup_of_mem_nodup (cellsFrom_names fd.scope.names 0 (s.heap.objs.size + 1) [] [] rfl ▸ hnd) hp)
   exact ⟨o, ho⟩
 refine ⟨⟨⟨_, _, rfl⟩, keep', ⟨hg0.trans keep', fun b m => ?_⟩, fun b m => ?_, hgl, ⟨hk, ⟨_, x.toInCall.ns, fun y hy => ?_⟩, fun y hy b l => ?_, fun p hp => Nat.ne_of_gt (cellGe p hp)⟩, fun b m => List.mem_append_left _ m, fun b m => ⟨List.mem_append_left _ m, none_of_ge (footGe b m)⟩, .head _, fun y hy => ?_, hg, hb⟩, footGe⟩
 ·rcases List.mem_append.mp m with m | m
  ·exact Sub.none hg0 (none_of_ge (footGe b m))
  ·exact hoff b m
 ·rcases List.mem_append.mp m with m | m
  ·exact footLive b m
  ·obtain ⟨o, e⟩ := hlive b m
   exact ⟨o, keep _ _ e⟩
 ·show bindL (callEnvC fd s.heap.objs.size a).kindOf binds (fun x => none) y = binds.reverse.lookup y
  exact (bindL_at (kindOf := (callEnvC fd s.heap.objs.size a).kindOf) hy binds _).trans (by simp)
 ·have hn : (callEnvC fd s.heap.objs.size a).kindOf y ≠ some .local := fun q => by
   rw [show (fnCx c (callEnvC fd s.heap.objs.size a) (bindM binds) (foot (callEnvC fd s.heap.objs.size a) ++ W) (foot (callEnvC fd s.heap.objs.size a)) S s).env = callEnvC fd s.heap.objs.size a from rfl, q] at hy
   rcases hy with h | h <;> cases h
  have := x.cell y b l
  rw [bindC_at hn] at this
  show h₁.IsCell b (binds.reverse.lookup y)
  simpa using this
 ·have t := List.all_eq_true.mp hk2.2 y hy
  simp only [Bool.or_eq_true, beq_iff_eq] at t
  have own : ∀ b, (callEnvC fd s.heap.objs.size a).cells.lookup y = some b → b ∈ foot (callEnvC fd s.heap.objs.size a) ∧ ∀ z, (callEnvC fd s.heap.objs.size a).cells.lookup z = some b → z = y := fun b l => ⟨.tail _ (List.mem_map.mpr ⟨(y, b), PySem.mem_of_lookup l, rfl⟩), fun z lz => name_of_addr x.apart (PySem.mem_of_lookup lz) (PySem.mem_of_lookup l)⟩
  rcases t with t | t
  ·refine ⟨?_, own⟩
   show canStore (callEnvC fd s.heap.objs.size a) y = true
   unfold canStore
   rw [show (callEnvC fd s.heap.objs.size a).kindOf y = some .local from t]
  ·refine ⟨?_, own⟩
   show canStore (callEnvC fd s.heap.objs.size a) y = true
   unfold canStore
   rw [show (callEnvC fd s.heap.objs.size a).kindOf y = some .cell from t]
   obtain ⟨b, hb⟩ := cellsFrom_has fd.scope.names (s.heap.objs.size + 1) (PySem.mem_of_lookup t)
   show ((callEnvC fd s.heap.objs.size a).cells.lookup y).isSome = true
   rw [show (callEnvC fd s.heap.objs.size a).cells.lookup y = some b from hb]; rfl
end
theorem at259 (p : Params) : (HK p).lookup 259 = some (ob259 p) := rfl
theorem dt259 (p : Params) : (ob259 p).data = .func (fd259 p) := rfl
theorem code_259 (p : Params) : codeIn (HK p) (fd259 p).code (fd259 p).qualname = true := by rfl
theorem tabs_swap {a : Addr} (m : a ∈ ([225, 100] : List Addr)) : a ∈ ([100, 225] : List Addr) := by
 rcases List.mem_cons.mp m with rfl | m
 ·exact .tail _ (.head _)
 ·rw [List.mem_singleton.mp m]; exact .head _
noncomputable abbrev lawTabs : List (Addr × Addr) := [(104, 100), (229, 225)]
theorem law_call {w : World} {s₁ : Shared} {mg mb : Str → Option Value} {p : Program} {loose : List Str} {mean : ExcName → Option Value} {fa l : Addr} {vs : List Value} {xs : List Int} {E : Value → Shared → Prop} {Q : Value → Shared → Prop} (X : (HK w.params).In s₁.heap) (hT8 : ∀ P, P ∈ [100, 225] → s₁.heap.get? P = some (tabObj #[]))
  (T : Top p loose mean mg mb s₁.heap) (hm : mg "law" = some (.ref fa)) (hL : s₁.heap.IsList l vs.toArray) (hI : IntsAre vs xs) (hxs : xs.length ≤ 63) (hb : ixB (drOf xs) = duB (drOf xs)) (G : Good (duB (drOf xs)) (lineOf (drOf xs)))
  (h : ∀ s', TabsAt lawTabs s₁.heap → Sm s₁ s' → (∀ b o, b ∉ [225, 100] → s₁.heap.get? b = some o → s'.heap.get? b = some o) → (∀ a ∈ [225, 100], GrownAt a s'.heap) → Q (.bool true) s') :
  wpC (model PG w) callerA (call (.ref fa) [.ref l]) Q E s₁ := by
 have e := mg_of X T.g (show nsIn (HK w.params) mainGlobals "law" = some (some (.ref 259)) from rfl)
 rw [hm] at e; cases e
 have hT9 : TabsAt lawTabs s₁.heap := List.forall_mem_cons.mpr ⟨⟨codeHd104 X, hT8 _ (.head _)⟩, List.forall_mem_cons.mpr ⟨⟨codeHd229 X, hT8 _ (.tail _ (.head _))⟩, fun _ h => nomatch h⟩⟩
 have gl : GL (HK w.params) (ghostOf s₁.heap lawTabs) := ⟨ghost_K hT9 X (by rfl), _, _, _, _, ghost_top hT9 T⟩
 have hA : AOk 14 callerA := ⟨rfl, by decide +kernel, by decide +kernel⟩
 refine wpC_call (codeC_cells (fd := fd259 w.params) (body := bd259 w.params) (binds := [("script", .ref l)]) hA.room (X _ _ (at259 _)) (dt259 _) T.nolimit (codeRec_of X (code_259 _)) rfl (by rfl) rfl (fun y hy => .inl ?_) (fun s₂ x => ?_) rfl rfl rfl)
 ·rw [List.mem_singleton.mp hy]; rfl
 have hWl : ∀ b ∈ ([100, 225] : List Addr), ∃ o, s₁.heap.get? b = some o := fun b m => ⟨_, hT8 b m⟩
 obtain ⟨S, hge⟩ := entry_St (c := { w := w, A := callerA, K := HK w.params, env := en259 w.params 0, m := fun _ => none, W := [], O := [], S := [], s₀ := s₁ }) (S := ss259) (W := [100, 225]) (g := ghostOf s₁.heap lawTabs) (fun b o e => of_hideAll _ e) (fun b m => hideAll_none _ (by simpa [lawTabs] using m)) hWl gl rfl (by rfl) rfl rfl x
 have lt : ∀ b ∈ ([225, 100] : List Addr), b < s₁.heap.objs.size := fun b m => by
  obtain ⟨o, e⟩ := hWl b (tabs_swap m)
  exact Heap.lt_size e
 refine wpC_mono (law_body (c := { w := w, A := callerA, K := HK w.params, env := en259 w.params 0, m := fun _ => none, W := [], O := [], S := [], s₀ := s₁ }) (g := ghostOf s₁.heap lawTabs) (L := s₁.heap.objs.size) (xs := xs) (vs := .ref l) (Q := fun f s' => ∃ m' g' s₀' v W O, f = .ret v ∧ St (fnCx { w := w, A := callerA, K := HK w.params, env := en259 w.params 0, m := fun _ => none, W := [], O := [], S := [], s₀ := s₁ } (en259 w.params s₁.heap.objs.size) m' W O ss259 s₀') g' s' ∧ Kept [225, 100] s₁ s₀' ∧ Rd g' v (.bool true)) (E := fun _ _ => False)
  rfl hA rfl S rfl (Rd.list (let ⟨o, e, _⟩ := hL; by
   exact (ghost_list hT9 hL).choose_spec.1) (ghost_list hT9 hL).choose_spec.2.1 (ghost_list hT9 hL).choose_spec.2.2.choose_spec (by rw [List.toList_toArray]; exact rds_ints hI)) hxs (fun a m => ⟨List.mem_append_right _ (tabs_swap m), fun q => Nat.lt_irrefl _ (Nat.lt_of_lt_of_le (lt a m) (hge a q))⟩)
  (fun y hy a l => .tail _ (List.mem_map.mpr ⟨(y, a), PySem.mem_of_lookup l, rfl⟩)) (fun a m => hT8 a (tabs_swap m)) hb G fun m' g' s' s₀' v S' sg kp rv => ⟨m', g', s₀', v, _, _, rfl, S', kp, rv⟩) (fun f s' hf => ?_) fun _ _ e => e.elim
 obtain ⟨m', g', s₀', v, W', O', rfl, S', kp, rv⟩ := hf
 obtain rfl := rv.inv_bool
 exact h s' hT9 (kp.sm.trans S'.sm) (fun b o n e => S'.kp _ _ (kp.old b o n e)) fun a m => let ⟨ps, e⟩ := kp.gr a m; ⟨ps, S'.kp _ _ e⟩
theorem good_G {cw : ClaimW} {cl : Str → Option Addr} {mean : ExcName → Option Value} {args : List WData} {s₁ s' : Shared} (hr : ∀ x, cw.raises args x = false) (hpost : cw.post args (.bool true) args = true) (hg : s₁.gens = #[]) (hT : TabsAt lawTabs s₁.heap) (sm : Sm s₁ s')
  (hk : ∀ b o, b ∉ [225, 100] → s₁.heap.get? b = some o → s'.heap.get? b = some o) (hgr : ∀ a ∈ [225, 100], GrownAt a s'.heap) : GoodWG cw cl mean args s₁ (.ok (.ret (.bool true))) s' := by
 have grown : ∀ b o, b ∈ ([225, 100] : List Addr) → s₁.heap.get? b = some o → isCodeTable s₁.heap b ∧ o = tabObj #[] ∧ ∃ ps, s'.heap.get? b = some (tabObj ps) := fun b o hb e => by
  obtain ⟨q, hq, rfl⟩ : ∃ q ∈ lawTabs, q.2 = b := by
   rcases List.mem_cons.mp hb with rfl | hb
   ·exact ⟨_, .tail _ (.head _), rfl⟩
   ·rw [List.mem_singleton.mp hb]; exact ⟨_, .head _, rfl⟩
  have e2 := (hT q hq).2
  rw [e] at e2
  exact ⟨((hT q hq).1.tab (hT q hq).2).isCodeTable, Option.some.inj e2, hgr _ hb⟩
 refine ⟨.inl ⟨_, _, [], rfl, hr, .bool true, hpost, fun _ => ⟨List.nodup_nil, fun a m => nomatch m⟩⟩, ⟨fun b o e => ?_, fun b o e => ?_⟩, ?_, .of_eq ?_⟩
 ·by_cases hb : b ∈ ([225, 100] : List Addr)
  ·obtain ⟨ht, rfl, ps, hP⟩ := grown b o hb e
   exact .inr (.inl ⟨ht, rfl, #[], ps, rfl, by rw [Array.empty_append]; exact hP⟩)
  ·exact .inl (hk b o hb e)
 ·by_cases hb : b ∈ ([225, 100] : List Addr)
  ·obtain ⟨_, _, ps, hP⟩ := grown b o hb e
   exact ⟨_, hP⟩
  ·exact ⟨o, hk b o hb e⟩
 ·obtain ⟨_, _, rfl⟩ := sm; rfl
 ·obtain ⟨_, _, rfl⟩ := sm; exact hg
theorem post_true (args ds : List WData) : PySem.Challenge.rw_in0016_01.row.claim.post args (.bool true) ds = true := by
 show (WShape.has ([] : WRecords) (.bool true) .bool && WTm.holds ([] : WRecords) (.eq .res (.lit (.bool true))) { args := args, res := some (.bool true), after := ds }) = true
 refine Bool.and_eq_true_iff.mpr ⟨by simp [WShape.has, WShape.arms], ?_⟩
 simp only [WTm.holds, WTm.value]
 rw [show PySem.W.same (WData.bool true) (WData.bool true) = true from by simp [PySem.W.same]]
theorem law_holds (pl : ∀ xs : List Int, ixB (drOf xs) = duB (drOf xs) ∧ Good (duB (drOf xs)) (lineOf (drOf xs))) : PySem.Challenge.rw_in0016_01.Holds := by
 refine Mine.Top.hd ?_
 k_fill
 intro w s₀ s₁ mg mb G Y fa o pm cd doc dV kV ho hd hcd hD hmg hg args vals as hpre hlay hrd hwl hlo
 have X := km_in_of Y
 have hT8 := km_tabs_of Y
 have T := G.T
 have hm : mg "law" = some (.ref fa) := hmg
 clear G Y hD hmg
 wrow_args hpre hlay hrd hwl hlo
 clear hd hcd ho
 rename List Int => xs
 have hxs : xs.length ≤ 63 := by omega
 rename IntsAre _ _ => hI
 rename Heap.IsList _ _ _ => hL
 exact law_call (xs := xs) X hT8 T hm hL hI hxs (pl xs).1 (pl xs).2 fun s' hT sm hk hgr => good_G (fun _ => rfl) (post_true _ _) hg hT sm hk hgr
namespace L
noncomputable abbrev T := List Nat
noncomputable def segs : T → List T
 | [] => [[]]
 | c :: r => if c = 61 then [] :: segs r else match segs r with
  | s :: ss => (c :: s) :: ss
  | [] => [[c]]
theorem segs_ne (r : T) : ∃ s ss, segs r = s :: ss := by
 cases r with
 | nil => exact ⟨_, _, rfl⟩
 | cons c r =>
  unfold segs
  split
  ·exact ⟨_, _, rfl⟩
  ·split
   ·exact ⟨_, _, rfl⟩
   ·exact ⟨_, _, rfl⟩
theorem segs_eq (r : T) : segs (61 :: r) = [] :: segs r := by rw [segs, if_pos rfl]
theorem segs_cons {c : Nat} (h : c ≠ 61) {r s : T} {ss : List T} (e : segs r = s :: ss) : segs (c :: r) = (c :: s) :: ss := by rw [segs, if_neg h, e]
theorem segs_stem : ∀ {p : T}, 61 ∉ p → ∀ {r s : T} {ss : List T}, segs r = s :: ss → segs (p ++ r) = (p ++ s) :: ss
 | [], _, _, _, _, e => e
 | c :: p, h, r, s, ss, e => segs_cons (fun q => h (q ▸ .head _)) (segs_stem (fun q => h (.tail _ q)) e)
theorem segs_none {p : T} (h : 61 ∉ p) : segs p = [p] := by
 have := segs_stem h (r := []) (s := []) (ss := []) rfl
 rwa [List.append_nil] at this
theorem segs_rep (m : Nat) (r : T) : segs (List.replicate m 61 ++ r) = List.replicate m [] ++ segs r := by
 induction m with
 | zero => rfl
 | succ m ih => rw [List.replicate_succ, List.cons_append, segs_eq, ih]; rfl
theorem segs_pre : ∀ {r s : T} {ss : List T}, segs r = s :: ss → s <+: r ∧ 61 ∉ s
 | [], s, ss, e => by cases e; exact ⟨List.prefix_refl _, List.not_mem_nil⟩
 | c :: r, s, ss, e => by
  obtain ⟨s', ss', e'⟩ := segs_ne r
  by_cases h : c = 61
  ·subst h; rw [segs_eq] at e; cases e; exact ⟨List.nil_prefix, List.not_mem_nil⟩
  ·rw [segs_cons h e'] at e; cases e
   obtain ⟨p, n⟩ := segs_pre e'
   exact ⟨List.cons_prefix_cons.mpr ⟨rfl, p⟩, fun q => (List.mem_cons.mp q).elim (fun q => h q.symm) n⟩
noncomputable def bestL (ws : List T) (r : T) : Nat := ((ws.filter fun w => w.isPrefixOf r).map (·.length)).foldl max 1
theorem fold_max (l : List Nat) : ∀ a, a ≤ l.foldl max a ∧ (∀ x ∈ l, x ≤ l.foldl max a) ∧ (l.foldl max a = a ∨ l.foldl max a ∈ l) := by
 induction l with
 | nil => intro a; exact ⟨Nat.le_refl _, fun x h => absurd h List.not_mem_nil, .inl rfl⟩
 | cons b l ih =>
  intro a
  obtain ⟨h1, h2, h3⟩ := ih (max a b)
  refine ⟨Nat.le_trans (Nat.le_max_left _ _) h1, fun x hx => ?_, ?_⟩
  ·rcases List.mem_cons.mp hx with rfl | hx
   ·exact Nat.le_trans (Nat.le_max_right _ _) h1
   ·exact h2 x hx
  ·rcases h3 with h3 | h3
   ·rw [List.foldl_cons, h3]
    rcases Nat.le_total a b with q | q
    ·exact .inr (by rw [Nat.max_eq_right q]; exact .head _)
    ·exact .inl (Nat.max_eq_left q)
   ·exact .inr (.tail _ h3)
theorem bestL_pos (ws : List T) (r : T) : 1 ≤ bestL ws r := (fold_max _ _).1
theorem bestL_ge {ws : List T} {r w : T} (h : w ∈ ws) (p : w <+: r) : w.length ≤ bestL ws r := (fold_max _ _).2.1 _ (List.mem_map.mpr ⟨w, List.mem_filter.mpr ⟨h, List.isPrefixOf_iff_prefix.mpr p⟩, rfl⟩)
theorem bestL_is (ws : List T) (r : T) : bestL ws r = 1 ∨ ∃ w ∈ ws, w <+: r ∧ w.length = bestL ws r := by
 rcases (fold_max ((ws.filter fun w => w.isPrefixOf r).map (·.length)) 1).2.2 with h | h
 ·exact .inl h
 ·obtain ⟨w, hw, e⟩ := List.mem_map.mp h
  obtain ⟨h1, h2⟩ := List.mem_filter.mp hw
  exact .inr ⟨w, h1, List.isPrefixOf_iff_prefix.mp h2, e⟩
theorem bestL_eq {ws : List T} {r : T} {n : Nat} (h1 : 1 ≤ n) (h2 : ∀ w ∈ ws, w <+: r → w.length ≤ n) (h3 : n = 1 ∨ ∃ w ∈ ws, w <+: r ∧ w.length = n) : bestL ws r = n := by
 apply Nat.le_antisymm
 ·rcases bestL_is ws r with e | ⟨w, hw, hp, e⟩
  ·rw [e]; exact h1
  ·rw [← e]; exact h2 w hw hp
 ·rcases h3 with e | ⟨w, hw, hp, e⟩
  ·rw [e]; exact bestL_pos _ _
  ·rw [← e]; exact bestL_ge hw hp
noncomputable def scanF (ws : List T) : Nat → T → Nat → List (Nat × T)
 | 0, _, _ => []
 | _ + 1, [], _ => []
 | f + 1, c :: r, k => (if blank c = true then [] else [(k, (c :: r).take (bestL ws (c :: r)))]) ++ scanF ws f ((c :: r).drop (bestL ws (c :: r))) (k + bestL ws (c :: r))
noncomputable def scan (ws : List T) (r : T) (k : Nat) : List (Nat × T) := scanF ws r.length r k
theorem scanF_fuel (ws : List T) : ∀ (f f' : Nat) (r : T) (k : Nat), r.length ≤ f → r.length ≤ f' → scanF ws f r k = scanF ws f' r k
 | 0, 0, _, _, _, _ => rfl
 | 0, f' + 1, [], _, _, _ => rfl
 | 0, _ + 1, _ :: _, _, h, _ => by simp at h
 | f + 1, 0, [], _, _, _ => rfl
 | f + 1, 0, _ :: _, _, _, h => by simp at h
 | f + 1, f' + 1, [], _, _, _ => rfl
 | f + 1, f' + 1, c :: r, k, h, h' => by
  unfold scanF
  have hp := bestL_pos ws (c :: r)
  have hl : ((c :: r).drop (bestL ws (c :: r))).length ≤ r.length := by rw [List.length_drop, List.length_cons]; omega
  rw [List.length_cons] at h h'
  rw [scanF_fuel ws f f' _ _ (by omega) (by omega)]
theorem scan_nil (ws : List T) (k : Nat) : scan ws [] k = [] := rfl
theorem scan_cons (ws : List T) (c : Nat) (r : T) (k : Nat) : scan ws (c :: r) k = (if blank c = true then [] else [(k, (c :: r).take (bestL ws (c :: r)))]) ++ scan ws ((c :: r).drop (bestL ws (c :: r))) (k + bestL ws (c :: r)) := by
 unfold scan
 rw [List.length_cons, scanF]
 have hp := bestL_pos ws (c :: r)
 rw [scanF_fuel ws r.length _ _ _ (by rw [List.length_drop, List.length_cons]; omega) (Nat.le_refl _)]
theorem scan_step {ws : List T} {p r : T} {c : Nat} {k : Nat} (h : bestL ws (p ++ r) = p.length) (hc : p.head? = some c) : scan ws (p ++ r) k = (if blank c = true then [] else [(k, p)]) ++ scan ws r (k + p.length) := by
 cases p with
 | nil => cases hc
 | cons d p =>
  cases hc
  rw [List.cons_append] at h ⊢
  rw [scan_cons, h]
  congr 1
  ·congr 2
   rw [← List.cons_append, List.take_left]
  ·rw [← List.cons_append, List.drop_left]
structure Ws (ws : List T) : Prop where
 ne : ∀ w ∈ ws, w ≠ []
 nb : ∀ w ∈ ws, ∀ c ∈ w, blank c = false
 st : ∀ w ∈ ws, ∃ p m, w = p ++ List.replicate m 61 ∧ 61 ∉ p ∧ (p = [] ∨ p ∈ ws)
noncomputable def stem (w : T) : T := (w.reverse.dropWhile (· == 61)).reverse
theorem stem_rep {p : T} (m : Nat) (h : 61 ∉ p) : stem (p ++ List.replicate m 61) = p := by
 unfold stem
 rw [List.reverse_append, List.reverse_replicate]
 have e : ∀ m : Nat, List.dropWhile (· == 61) (List.replicate m 61 ++ p.reverse) = List.dropWhile (· == 61) p.reverse := fun m => by
  induction m with
  | zero => rfl
  | succ m ih => rw [List.replicate_succ, List.cons_append, List.dropWhile_cons]; simp [ih]
 rw [e]
 have e2 : List.dropWhile (· == 61) p.reverse = p.reverse := by
  cases hr : p.reverse with
  | nil => rfl
  | cons c q =>
   have : c ∈ p := List.mem_reverse.mp (hr ▸ .head _)
   rw [List.dropWhile_cons, if_neg]
   simp; exact fun q => h (q ▸ this)
 rw [e2, List.reverse_reverse]
noncomputable def bare (ts : List (Nat × T)) : List (Nat × T) := (ts.filter fun t => !(stem t.2).isEmpty).map fun t => (t.1, stem t.2)
theorem bare_app (a b : List (Nat × T)) : bare (a ++ b) = bare a ++ bare b := by unfold bare; rw [List.filter_append, List.map_append]
noncomputable def segScan (ws : List T) : List T → Nat → List (Nat × T)
 | [], _ => []
 | s :: ss, k => scan ws s k ++ segScan ws ss (k + s.length + 1)
theorem segScan_rep (ws : List T) (m : Nat) (ss : List T) (k : Nat) : segScan ws (List.replicate m [] ++ ss) k = segScan ws ss (k + m) := by
 induction m generalizing k with
 | zero => rfl
 | succ m ih =>
  rw [List.replicate_succ, List.cons_append, segScan, scan_nil, List.nil_append, ih]
  congr 1
  simp; omega
end L
namespace L
variable {ws : List T}
theorem best_cut (H : Ws ws) (c : Nat) (r : T) : ∃ p m r2, c :: r = p ++ List.replicate m 61 ++ r2 ∧ bestL ws (c :: r) = p.length + m ∧ 61 ∉ p ∧ (p = [] ∨ p = [c] ∧ m = 0 ∨ p ∈ ws) ∧ (p = [] ↔ c = 61) ∧ (blank c = true → p = [c] ∧ m = 0) := by
 rcases bestL_is ws (c :: r) with e | ⟨w, hw, ⟨r2, hp⟩, e⟩
 ·by_cases h : c = 61
  ·subst h
   exact ⟨[], 1, r, rfl, e, List.not_mem_nil, .inl rfl, ⟨fun _ => rfl, fun _ => rfl⟩, fun q => by cases q⟩
  ·exact ⟨[c], 0, r, rfl, e, fun q => h (List.mem_singleton.mp q).symm, .inr (.inl ⟨rfl, rfl⟩), ⟨fun q => (by cases q), fun q => absurd q h⟩, fun _ => ⟨rfl, rfl⟩⟩
 ·obtain ⟨p, m, rfl, hn, hs⟩ := H.st w hw
  have hnb : blank c = false := by
   cases hh : p ++ List.replicate m 61 with
   | nil => exact absurd hh (H.ne _ hw)
   | cons d q =>
    rw [hh] at hp
    have : d = c := (List.cons.inj hp).1
    exact this ▸ H.nb _ hw d (hh ▸ .head _)
  refine ⟨p, m, r2, hp.symm, by rw [← e, List.length_append, List.length_replicate], hn, hs.imp_right .inr, ⟨fun q => ?_, fun q => ?_⟩, fun q => by rw [hnb] at q; cases q⟩
  ·subst q
   cases m with
   | zero => exact absurd rfl (H.ne _ hw)
   | succ m => exact (List.cons.inj hp).1.symm
  ·cases p with
   | nil => rfl
   | cons d p =>
    have : d = c := (List.cons.inj hp).1
    exact absurd (by rw [this, q]; exact .head _) hn
theorem tok_bare {c : Nat} {p : T} {m k : Nat} (hn : 61 ∉ p) (hp : p ≠ []) : bare (if blank c = true then [] else [(k, p ++ List.replicate m 61)]) = if blank c = true then [] else [(k, p)] := by
 split
 ·rfl
 ·unfold bare
  have he : p.isEmpty = false := by
   cases p with
   | nil => exact absurd rfl hp
   | cons d p => rfl
  simp only [List.filter_cons, List.filter_nil, stem_rep m hn, he]
  simp [stem_rep m hn]
theorem bare_segs (H : Ws ws) : ∀ (n : Nat) (r : T) (k : Nat), r.length ≤ n → bare (scan ws r k) = segScan ws (segs r) k := by
 intro n
 induction n with
 | zero =>
  intro r k h
  cases r with
  | nil => rfl
  | cons c r => simp at h
 | succ n ih =>
  intro r k h
  cases r with
  | nil => rfl
  | cons c r =>
   obtain ⟨p, m, r2, e, hb, hn, hs, hz, hbl⟩ := best_cut H c r
   have hpos := bestL_pos ws (c :: r)
   have hlen : (c :: r).length = p.length + m + r2.length := by rw [e, List.length_append, List.length_append, List.length_replicate]
   have hr2 : r2.length ≤ n := by omega
   have htake : (c :: r).take (bestL ws (c :: r)) = p ++ List.replicate m 61 := by
    rw [hb]; conv => lhs; rw [e]
    rw [show p.length + m = (p ++ List.replicate m 61).length by rw [List.length_append, List.length_replicate], List.take_left]
   have hdrop : (c :: r).drop (bestL ws (c :: r)) = r2 := by
    rw [hb]; conv => lhs; rw [e]
    rw [show p.length + m = (p ++ List.replicate m 61).length by rw [List.length_append, List.length_replicate], List.drop_left]
   rw [scan_cons, htake, hdrop, bare_app, ih r2 _ hr2, hb]
   obtain ⟨s, ss, es⟩ := segs_ne r2
   by_cases hp : p = []
   ·subst hp
    have hc : c = 61 := hz.mp rfl
    subst hc
    have e1 : bare (if blank 61 = true then [] else [(k, [] ++ List.replicate m 61)]) = [] := by
     rw [if_neg (by decide)]
     unfold bare
     have := stem_rep (p := []) m List.not_mem_nil
     simp only [List.filter_cons, this]; rfl
    rw [e1, e, List.nil_append, List.nil_append, segs_rep, segScan_rep]
    congr 1; simp
   ·rw [tok_bare hn hp]
    have hhead : p.head? = some c := by
     cases p with
     | nil => exact absurd rfl hp
     | cons d p => rw [(List.cons.inj e).1]; rfl
    have own : ∀ s', s' <+: List.replicate m 61 ++ r2 → (m = 0 ∨ s' = []) → bestL ws (p ++ s') = p.length := fun s' hs' hm => by
     refine bestL_eq (by cases p with | nil => exact absurd rfl hp | cons d p => simp) (fun w hw hpre => ?_) ?_
     ·rcases hm with hm | hm
      ·have h2 : w <+: c :: r := hpre.trans (by rw [e, List.append_assoc]; exact List.prefix_append_right_inj _ |>.mpr hs')
       have := bestL_ge hw h2
       omega
      ·subst hm
       rw [List.append_nil] at hpre
       exact hpre.length_le
     ·rcases hs with q | ⟨q, _⟩ | q
      ·exact absurd q hp
      ·exact .inl (by rw [q]; rfl)
      ·exact .inr ⟨p, q, List.prefix_append _ _, rfl⟩
    cases m with
    | zero =>
     have e' : c :: r = p ++ r2 := by rw [e]; simp
     rw [e', segs_stem hn es, es, segScan, segScan, scan_step (own s (by simpa using (segs_pre es).1) (.inl rfl)) hhead, List.append_assoc]
     congr 2
     ·congr 1; rw [List.length_append]; omega
    | succ m =>
     have e' : c :: r = p ++ (61 :: (List.replicate m 61 ++ r2)) := by rw [e, List.append_assoc, List.replicate_succ]; rfl
     rw [e', segs_stem hn (segs_eq _), segs_rep, List.append_nil, segScan, segScan_rep]
     have := scan_step (k := k) (own [] List.nil_prefix (.inr rfl)) hhead
     rw [List.append_nil, scan_nil, List.append_nil] at this
     rw [this]
     congr 2
     omega
end L
namespace L
variable {ws : List T}
noncomputable def ltrim (r : T) : T := r.dropWhile blank
noncomputable def trim (r : T) : T := (ltrim (ltrim r).reverse).reverse
theorem trim_cons {c : Nat} (h : blank c = true) (r : T) : trim (c :: r) = trim r := by
 unfold trim ltrim; rw [List.dropWhile_cons, if_pos h]
theorem trim_snoc {c : Nat} (h : blank c = true) : ∀ r : T, trim (r ++ [c]) = trim r
 | [] => by rw [List.nil_append, trim_cons h]
 | d :: r => by
  by_cases hd : blank d = true
  ·rw [List.cons_append, trim_cons hd, trim_cons hd, trim_snoc h r]
  ·have e : ∀ q : T, ltrim (d :: q) = d :: q := fun q => by unfold ltrim; rw [List.dropWhile_cons, if_neg hd]
   unfold trim
   rw [List.cons_append, e, e, ← List.cons_append, List.reverse_append]
   congr 1
   show ltrim (c :: _) = _
   conv => lhs; unfold ltrim
   rw [List.dropWhile_cons, if_pos h]; rfl
theorem trim_front {a : T} (h : ∀ c ∈ a, blank c = true) (r : T) : trim (a ++ r) = trim r := by
 induction a with
 | nil => rfl
 | cons c a ih => rw [List.cons_append, trim_cons (h c (.head _)), ih fun d m => h d (.tail _ m)]
theorem trim_back {b : T} (h : ∀ c ∈ b, blank c = true) (r : T) : trim (r ++ b) = trim r := by
 induction b generalizing r with
 | nil => rw [List.append_nil]
 | cons c b ih =>
  rw [show r ++ c :: b = (r ++ [c]) ++ b by simp, ih (fun d m => h d (.tail _ m)), trim_snoc (h c (.head _))]
theorem ltrim_cut (r : T) : ∃ a, r = a ++ ltrim r ∧ (∀ c ∈ a, blank c = true) ∧ ∀ c q, ltrim r = c :: q → blank c = false := by
 refine ⟨r.takeWhile blank, (List.takeWhile_append_dropWhile).symm, fun c m => ?_, fun c q e => ?_⟩
 ·have := List.all_takeWhile (p := blank) (l := r)
  exact List.all_eq_true.mp this c m
 ·have := List.head?_dropWhile_not blank r
  unfold ltrim at e
  rw [e] at this
  simpa using this
theorem trim_cut (r : T) : ∃ a b, r = a ++ trim r ++ b ∧ (∀ c ∈ a, blank c = true) ∧ (∀ c ∈ b, blank c = true) ∧ (∀ c, (trim r).head? = some c → blank c = false) ∧ (∀ c, (trim r).getLast? = some c → blank c = false) := by
 obtain ⟨a, ea, ha, hf⟩ := ltrim_cut r
 obtain ⟨b, eb, hb, hl⟩ := ltrim_cut (ltrim r).reverse
 have e2 : ltrim r = trim r ++ b.reverse := by
  have := congrArg List.reverse eb
  rw [List.reverse_reverse, List.reverse_append] at this
  exact this
 refine ⟨a, b.reverse, by rw [List.append_assoc, ← e2]; exact ea, ha, fun c m => hb c (List.mem_reverse.mp m), fun c h => ?_, fun c h => ?_⟩
 ·cases ht : trim r with
  | nil => rw [ht] at h; cases h
  | cons d q =>
   rw [ht] at h; cases h
   rw [ht] at e2
   exact hf _ _ e2
 ·unfold trim at h
  rw [List.getLast?_reverse] at h
  cases ht : ltrim (ltrim r).reverse with
  | nil => rw [ht] at h; cases h
  | cons d q => rw [ht] at h; cases h; exact hl _ _ ht
theorem trim_id {r : T} (h1 : ∀ c, r.head? = some c → blank c = false) (h2 : ∀ c, r.getLast? = some c → blank c = false) : trim r = r := by
 have e : ∀ q : T, (∀ c, q.head? = some c → blank c = false) → ltrim q = q := fun q h => by
  cases q with
  | nil => rfl
  | cons c q => unfold ltrim; rw [List.dropWhile_cons, if_neg]; rw [h c rfl]; exact Bool.false_ne_true
 unfold trim
 rw [e r h1, e r.reverse (fun c h => h2 c (by rwa [List.head?_reverse] at h)), List.reverse_reverse]
theorem trim_trim (r : T) : trim (trim r) = trim r := let ⟨_, _, _, _, _, h1, h2⟩ := trim_cut r; trim_id h1 h2
theorem best_blank (H : Ws ws) {c : Nat} (h : blank c = true) (r : T) : bestL ws (c :: r) = 1 := by
 obtain ⟨p, m, r2, e, hb, _, _, _, hbl⟩ := best_cut H c r
 obtain ⟨rfl, rfl⟩ := hbl h
 rw [hb]; rfl
theorem scan_front (H : Ws ws) {a : T} (h : ∀ c ∈ a, blank c = true) (r : T) (k : Nat) : scan ws (a ++ r) k = scan ws r (k + a.length) := by
 induction a generalizing k with
 | nil => rfl
 | cons c a ih =>
  rw [List.cons_append, scan_cons, if_pos (h c (.head _)), best_blank H (h c (.head _)), List.nil_append]
  show scan ws (a ++ r) (k + 1) = _
  rw [ih (fun d m => h d (.tail _ m))]
  congr 1
  rw [List.length_cons]; omega
theorem best_le (ws : List T) (c : Nat) (r : T) : bestL ws (c :: r) ≤ (c :: r).length := by
 rcases bestL_is ws (c :: r) with e | ⟨w, _, hp, e⟩
 ·rw [e, List.length_cons]; omega
 ·rw [← e]; exact hp.length_le
theorem scan_snoc (H : Ws ws) {c : Nat} (h : blank c = true) : ∀ (n : Nat) (r : T) (k : Nat), r.length ≤ n → scan ws (r ++ [c]) k = scan ws r k := by
 intro n
 induction n with
 | zero =>
  intro r k hn
  cases r with
  | nil => rw [List.nil_append, scan_cons, if_pos h, best_blank H h]; rfl
  | cons d r => simp at hn
 | succ n ih =>
  intro r k hn
  cases r with
  | nil => rw [List.nil_append, scan_cons, if_pos h, best_blank H h]; rfl
  | cons d r =>
   have hb : bestL ws (d :: r ++ [c]) = bestL ws (d :: r) := bestL_eq (bestL_pos _ _) (fun w hw hp => by
    rcases List.prefix_concat_iff.mp hp with q | q
    ·have := H.nb w hw c (by rw [q]; simp)
     rw [h] at this; cases this
    ·exact bestL_ge hw q) ((bestL_is ws (d :: r)).imp_right fun ⟨w, hw, hp, e⟩ => ⟨w, hw, hp.trans (List.prefix_append _ _), e⟩)
   have hl := best_le ws d r
   have hp := bestL_pos ws (d :: r)
   rw [List.cons_append] at hb ⊢
   rw [scan_cons, scan_cons, hb, ← List.cons_append, List.take_append_of_le_length hl, List.drop_append_of_le_length hl, ih _ _ (by rw [List.length_drop]; omega)]
theorem scan_back (H : Ws ws) {b : T} (h : ∀ c ∈ b, blank c = true) (r : T) (k : Nat) : scan ws (r ++ b) k = scan ws r k := by
 induction b generalizing r with
 | nil => rw [List.append_nil]
 | cons c b ih => rw [show r ++ c :: b = (r ++ [c]) ++ b by simp, ih (fun d m => h d (.tail _ m)), scan_snoc H (h c (.head _)) _ _ _ (Nat.le_refl _)]
theorem segs_front {c : Nat} (h : blank c = true) (r : T) : (segs (c :: r)).map trim = (segs r).map trim := by
 obtain ⟨s, ss, e⟩ := segs_ne r
 rw [segs_cons (fun q => by rw [q] at h; cases h) e, e, List.map_cons, List.map_cons, trim_cons h]
theorem segs_snoc {c : Nat} (h : c ≠ 61) : ∀ r : T, ∃ pre last, segs r = pre ++ [last] ∧ segs (r ++ [c]) = pre ++ [last ++ [c]]
 | [] => ⟨[], [], rfl, by rw [List.nil_append, segs_cons h (r := []) (s := []) (ss := []) rfl]; rfl⟩
 | d :: r => by
  obtain ⟨pre, last, e1, e2⟩ := segs_snoc h r
  by_cases hd : d = 61
  ·subst hd
   exact ⟨[] :: pre, last, by rw [segs_eq, e1]; rfl, by rw [List.cons_append, segs_eq, e2]; rfl⟩
  ·cases pre with
   | nil => exact ⟨[], d :: last, segs_cons hd e1, segs_cons hd e2⟩
   | cons p pre => exact ⟨(d :: p) :: pre, last, segs_cons hd e1, segs_cons hd e2⟩
theorem segs_back {c : Nat} (h : blank c = true) (r : T) : (segs (r ++ [c])).map trim = (segs r).map trim := by
 obtain ⟨pre, last, e1, e2⟩ := segs_snoc (c := c) (fun q => by rw [q] at h; cases h) r
 rw [e1, e2, List.map_append, List.map_append, List.map_cons, List.map_cons, trim_snoc h]
theorem segs_fronts {a : T} (h : ∀ c ∈ a, blank c = true) (r : T) : (segs (a ++ r)).map trim = (segs r).map trim := by
 induction a with
 | nil => rfl
 | cons c a ih => rw [List.cons_append, segs_front (h c (.head _)), ih fun d m => h d (.tail _ m)]
theorem segs_backs {b : T} (h : ∀ c ∈ b, blank c = true) (r : T) : (segs (r ++ b)).map trim = (segs r).map trim := by
 induction b generalizing r with
 | nil => rw [List.append_nil]
 | cons c b ih => rw [show r ++ c :: b = (r ++ [c]) ++ b by simp, ih (fun d m => h d (.tail _ m)), segs_back (h c (.head _))]
theorem segs_trim (r : T) : (segs (trim r)).map trim = (segs r).map trim := by
 obtain ⟨a, b, e, ha, hb, _⟩ := trim_cut r
 conv => rhs; rw [e]
 rw [segs_backs hb, segs_fronts ha]
theorem mem_trim {r : T} {c : Nat} (h : blank c = false) : c ∈ trim r ↔ c ∈ r := by
 obtain ⟨a, b, e, ha, hb, _⟩ := trim_cut r
 constructor
 ·intro m; rw [e]; simp [m]
 ·intro m
  rw [e] at m
  rcases List.mem_append.mp m with m | m
  ·rcases List.mem_append.mp m with m | m
   ·rw [ha c m] at h; cases h
   ·exact m
  ·rw [hb c m] at h; cases h
noncomputable def peelL : Nat → T → List T
 | 0, r => [r]
 | n + 1, r => if 61 ∈ r then trim (r.takeWhile (· != 61)) :: peelL n (trim ((r.dropWhile (· != 61)).drop 1)) else [r]
theorem cut61 : ∀ {r : T}, 61 ∈ r → ∃ a b, r = a ++ 61 :: b ∧ 61 ∉ a ∧ r.takeWhile (· != 61) = a ∧ (r.dropWhile (· != 61)).drop 1 = b
 | c :: r, h => by
  by_cases hc : c = 61
  ·subst hc
   exact ⟨[], r, rfl, List.not_mem_nil, by simp, by simp⟩
  ·rcases List.mem_cons.mp h with q | q
   ·exact absurd q.symm hc
   ·obtain ⟨a, b, e, n, h1, h2⟩ := cut61 q
    have hc' : (c != 61) = true := by simpa using hc
    exact ⟨c :: a, b, by rw [e]; rfl, fun m => (List.mem_cons.mp m).elim (fun m => hc m.symm) n, by rw [List.takeWhile_cons, if_pos hc', h1], by rw [List.dropWhile_cons, if_pos hc', h2]⟩
theorem trim_len (r : T) : (trim r).length ≤ r.length := by
 obtain ⟨a, b, e, _⟩ := trim_cut r
 have := congrArg List.length e
 simp only [List.length_append] at this
 omega
theorem peel_segs : ∀ (n : Nat) (r : T), r.length ≤ n → 61 ∈ r → peelL n r = (segs r).map trim
 | 0, r, h, m => by cases r with | nil => cases m | cons c r => simp at h
 | n + 1, r, h, m => by
  obtain ⟨a, b, e, hn, h1, h2⟩ := cut61 m
  rw [peelL, if_pos m, h1, h2]
  have hb : b.length ≤ n := by rw [e, List.length_append, List.length_cons] at h; omega
  have e2 : (segs r).map trim = trim a :: (segs b).map trim := by
   rw [e, segs_stem hn (segs_eq b), List.append_nil]; rfl
  rw [e2]
  congr 1
  by_cases m2 : 61 ∈ trim b
  ·rw [peel_segs n (trim b) (Nat.le_trans (trim_len b) hb) m2, segs_trim]
  ·have m3 : 61 ∉ b := fun q => m2 ((mem_trim (by decide)).mpr q)
   rw [segs_none m3]
   cases n with
   | zero => rfl
   | succ n => rw [peelL, if_neg m2]; rfl
theorem peel_none {n : Nat} {r : T} (h : 61 ∉ r) : peelL n r = [r] := by
 cases n with
 | zero => rfl
 | succ n => rw [peelL, if_neg h]
end L
namespace L
noncomputable def joinL : List T → T
 | [] => []
 | [p] => p
 | p :: q :: r => p ++ ([32, 61, 32] ++ joinL (q :: r))
theorem join_segs : ∀ (ps : List T), ps ≠ [] → (∀ p ∈ ps, 61 ∉ p ∧ trim p = p) → (segs (joinL ps)).map trim = ps
 | [p], _, h => by
  show (segs p).map trim = [p]
  rw [segs_none (h p (.head _)).1, List.map_singleton, (h p (.head _)).2]
 | p :: q :: r, _, h => by
  have ih := join_segs (q :: r) (by simp) fun x m => h x (.tail _ m)
  have h1 := h p (.head _)
  obtain ⟨s, ss, es⟩ := segs_ne (32 :: joinL (q :: r))
  have e : joinL (p :: q :: r) = (p ++ [32]) ++ (61 :: (32 :: joinL (q :: r))) := by
   show p ++ ([32, 61, 32] ++ joinL (q :: r)) = _
   simp
  rw [e, segs_stem (fun m => (List.mem_append.mp m).elim h1.1 (by decide)) (segs_eq _), List.append_nil, List.map_cons, trim_snoc (by decide), h1.2, segs_front (by decide), ih]
theorem join_mem {p q : T} {r : List T} : 61 ∈ joinL (p :: q :: r) := by
 show 61 ∈ p ++ ([32, 61, 32] ++ joinL (q :: r))
 simp
noncomputable def spot (s : T) : List Nat := (List.range s.length).filter fun j => !blank (s.getD j 0)
theorem spot_cons (c : Nat) (s : T) : spot (c :: s) = (if blank c = true then [] else [0]) ++ (spot s).map (· + 1) := by
 unfold spot
 rw [List.length_cons, List.range_succ_eq_map, List.filter_cons, List.filter_map]
 have e : List.filter ((fun j => !blank ((c :: s).getD j 0)) ∘ Nat.succ) (List.range s.length) = List.filter (fun j => !blank (s.getD j 0)) (List.range s.length) := List.filter_congr fun j _ => by simp
 rw [e]
 cases h : blank c <;> simp [h]
theorem spot_snoc (c : Nat) (s : T) : spot (s ++ [c]) = spot s ++ (if blank c = true then [] else [s.length]) := by
 unfold spot
 rw [List.length_append, List.length_singleton, List.range_succ, List.filter_append]
 congr 1
 ·exact List.filter_congr fun j hj => by
   have := List.mem_range.mp hj
   rw [List.getD_eq_getElem?_getD, List.getD_eq_getElem?_getD, List.getElem?_append_left this]
 ·cases h : blank c <;> simp [h]
theorem spot_front {a : T} (h : ∀ c ∈ a, blank c = true) (r : T) : spot (a ++ r) = (spot r).map (a.length + ·) := by
 induction a with
 | nil => simp
 | cons c a ih =>
  rw [List.cons_append, spot_cons, if_pos (h c (.head _)), ih fun d m => h d (.tail _ m), List.nil_append, List.map_map]
  refine List.map_congr_left fun j _ => ?_
  simp; omega
theorem spot_back {b : T} (h : ∀ c ∈ b, blank c = true) (r : T) : spot (r ++ b) = spot r := by
 induction b generalizing r with
 | nil => rw [List.append_nil]
 | cons c b ih => rw [show r ++ c :: b = (r ++ [c]) ++ b by simp, ih (fun d m => h d (.tail _ m)), spot_snoc, if_pos (h c (.head _)), List.append_nil]
theorem spot_trim (s : T) : ∃ n, (∀ k (ws : List T), Ws ws → scan ws s k = scan ws (trim s) (k + n)) ∧ (trim s = [] → spot s = []) ∧ (trim s ≠ [] → (spot s).getD 0 0 = n ∧ (spot s).getLastD 0 + 1 = n + (trim s).length ∧ spot s ≠ []) ∧ n + (trim s).length ≤ s.length ∧ (s.drop n).take (trim s).length = trim s := by
 obtain ⟨a, b, e, ha, hb, hf, hl⟩ := trim_cut s
 have es : spot s = (spot (trim s)).map (a.length + ·) := by
  conv => lhs; rw [e]
  rw [spot_back hb, spot_front ha]
 refine ⟨a.length, fun k ws H => ?_, fun q => ?_, fun q => ?_, ?_, ?_⟩
 ·conv => lhs; rw [e]
  rw [scan_back H hb, scan_front H ha]
 ·rw [es, q]; rfl
 ·obtain ⟨c, t, ec⟩ := List.exists_cons_of_ne_nil q
  have h0 : blank c = false := hf c (by rw [ec]; rfl)
  have e1 : spot (trim s) = 0 :: (spot t).map (· + 1) := by rw [ec, spot_cons, h0]; rfl
  have e2 : ∃ z, spot (trim s) = z ++ [(trim s).length - 1] := by
   rcases List.eq_nil_or_concat (trim s) with hg | ⟨y, z, hg⟩
   ·exact absurd hg q
   ·have hz : blank z = false := hl z (by rw [hg]; simp)
    rw [hg, List.concat_eq_append, spot_snoc, hz]
    exact ⟨spot y, by simp⟩
  obtain ⟨z, e2⟩ := e2
  have hp : 0 < (trim s).length := List.length_pos_iff.mpr q
  refine ⟨by rw [es, e1]; rfl, ?_, by rw [es, e1]; simp⟩
  rw [es, e2, List.map_append, List.getLastD_eq_getLast?]
  simp
  omega
 ·have := congrArg List.length e
  simp only [List.length_append] at this
  omega
 ·clear es hf hl
  generalize trim s = t at e
  rw [e, List.append_assoc, List.drop_left, List.take_left]
noncomputable def spotsAt : List T → Nat → List (List Nat)
 | [], _ => []
 | s :: ss, k => (spot s).map (k + ·) :: spotsAt ss (k + s.length + 1)
theorem spotsAt_succ (ss : List T) (k : Nat) : spotsAt ss (k + 1) = (spotsAt ss k).map (List.map (· + 1)) := by
 induction ss generalizing k with
 | nil => rfl
 | cons s ss ih =>
  rw [spotsAt, spotsAt, List.map_cons, List.map_map, show k + 1 + s.length + 1 = k + s.length + 1 + 1 by omega, ih]
  congr 1
  refine List.map_congr_left fun j _ => ?_
  simp; omega
end L
namespace L
noncomputable def btw (S : List Nat) (lo hi : Int) : List Nat := S.filter fun p => decide (lo < (p : Int)) && decide ((p : Int) < hi)
noncomputable def sp (S : List Nat) : List Int → List (List Nat)
 | lo :: hi :: t => btw S lo hi :: sp S (hi :: t)
 | _ => []
theorem sp_range (S : List Nat) : ∀ (B : List Int), (List.range (B.length - 1)).map (fun i => btw S (B.getD i 0) (B.getD (i + 1) 0)) = sp S B
 | [] => rfl
 | [_] => rfl
 | lo :: hi :: t => by
  have ih := sp_range S (hi :: t)
  rw [sp, ← ih]
  show (List.range (t.length + 1)).map _ = _
  rw [List.range_succ_eq_map, List.map_cons, List.map_map]
  rfl
theorem btw_shift (S : List Nat) (lo hi : Int) : btw (S.map (· + 1)) (lo + 1) (hi + 1) = (btw S lo hi).map (· + 1) := by
 unfold btw
 rw [List.filter_map]
 congr 1
 refine List.filter_congr fun p _ => ?_
 simp only [Function.comp]
 congr 1 <;> (apply decide_eq_decide.mpr; push_cast; omega)
theorem sp_shift (S : List Nat) : ∀ (B : List Int), sp (S.map (· + 1)) (B.map (· + 1)) = (sp S B).map (List.map (· + 1))
 | [] => rfl
 | [_] => rfl
 | lo :: hi :: t => by
  have ih := sp_shift S (hi :: t)
  rw [List.map_cons, List.map_cons] at *
  rw [sp, sp, List.map_cons, btw_shift, ih]
theorem sp_zero (S : List Nat) : ∀ (B : List Int), (∀ b ∈ B, 0 ≤ b) → sp (0 :: S) B = sp S B
 | [], _ => rfl
 | [_], _ => rfl
 | lo :: hi :: t, h => by
  have h0 : 0 ≤ lo := h lo (.head _)
  rw [sp, sp, sp_zero S (hi :: t) fun b m => h b (.tail _ m)]
  congr 1
  unfold btw
  rw [List.filter_cons, if_neg]
  simp; omega
theorem solid_eq (l : T) : solidN l = spot l := rfl
noncomputable def eqs (l : T) : List Nat := (spot l).filter fun p => l.getD p 0 == 61
theorem eqs_cons (c : Nat) (r : T) : eqs (c :: r) = (if c = 61 then [0] else []) ++ (eqs r).map (· + 1) := by
 unfold eqs
 rw [spot_cons, List.filter_append, List.filter_map]
 congr 1
 ·by_cases h : c = 61
  ·subst h; rfl
  ·rw [if_neg h]
   split
   ·rfl
   ·rw [List.filter_cons, if_neg (by simpa using h)]; rfl
noncomputable def tailB (l : T) : List Int := (eqs l).map (fun (n : Nat) => (n : Int)) ++ [(l.length : Int)]
theorem bounds_eq (l : T) : boundsZ l = -1 :: tailB l := rfl
theorem tailB_cons (c : Nat) (r : T) : tailB (c :: r) = (if c = 61 then [(0 : Int)] else []) ++ (tailB r).map (· + 1) := by
 unfold tailB
 rw [eqs_cons, List.map_append, List.map_append, List.map_map, List.map_map, List.append_assoc]
 congr 1
 ·split <;> rfl
theorem tailB_pos (l : T) : ∀ b ∈ tailB l, 0 ≤ b := fun b m => by
 unfold tailB at m
 rcases List.mem_append.mp m with m | m
 ·obtain ⟨n, _, rfl⟩ := List.mem_map.mp m; omega
 ·rw [List.mem_singleton.mp m]; omega
theorem tailB_ne (l : T) : ∃ h t, tailB l = h :: t := by
 cases e : tailB l with
 | nil => unfold tailB at e; simp at e
 | cons h t => exact ⟨h, t, rfl⟩
theorem sp_segs : ∀ l : T, sp (spot l) (-1 :: tailB l) = spotsAt (segs l) 0
 | [] => by decide
 | c :: r => by
  have ih := sp_segs r
  have hp := tailB_pos r
  obtain ⟨h, t, e⟩ := tailB_ne r
  by_cases hc : c = 61
  ·subst hc
   rw [segs_eq, spotsAt, tailB_cons, if_pos rfl, spot_cons, if_neg (by decide)]
   show sp (0 :: (spot r).map (· + 1)) (-1 :: 0 :: (tailB r).map (· + 1)) = _
   rw [sp]
   have e0 : ((0 : Int) :: (tailB r).map (· + 1)) = (-1 :: tailB r).map (· + 1) := rfl
   rw [sp_zero _ _ (fun b m => by
    rcases List.mem_cons.mp m with rfl | m
    ·exact Int.le_refl _
    ·obtain ⟨x, hx, rfl⟩ := List.mem_map.mp m
     have := hp x hx; omega), e0, sp_shift, ih]
   congr 1
   ·have : spot ([] : T) = [] := rfl
    rw [this, List.map_nil]
    unfold btw
    rw [List.filter_eq_nil_iff]
    intro p _
    simp
   ·exact (spotsAt_succ _ 0).symm
  ·obtain ⟨s, ss, es⟩ := segs_ne r
   rw [segs_cons hc es, spotsAt, tailB_cons, if_neg hc, List.nil_append, e, List.map_cons]
   rw [es, e, spotsAt, sp] at ih
   have ih1 := (List.cons.inj ih).1
   have ih2 := (List.cons.inj ih).2
   have h0 : 0 ≤ h := hp h (by rw [e]; exact .head _)
   rw [sp]
   have hs2 : sp (spot (c :: r)) ((h + 1) :: t.map (· + 1)) = spotsAt ss (0 + (c :: s).length + 1) := by
    have a1 : sp ((spot r).map (· + 1)) ((h + 1) :: t.map (· + 1)) = (sp (spot r) (h :: t)).map (List.map (· + 1)) := sp_shift (spot r) (h :: t)
    have a2 : sp (spot (c :: r)) ((h + 1) :: t.map (· + 1)) = sp ((spot r).map (· + 1)) ((h + 1) :: t.map (· + 1)) := by
     rw [spot_cons]
     split
     ·rfl
     ·exact sp_zero _ _ fun b m => by
       rcases List.mem_cons.mp m with rfl | m
       ·omega
       ·obtain ⟨x, hx, rfl⟩ := List.mem_map.mp m
        have := hp x (by rw [e]; exact .tail _ hx); omega
    rw [a2, a1, ih2, ← spotsAt_succ]
    congr 1
   rw [hs2]
   congr 1
   have e1 : ((spot s).map (0 + ·)) = spot s := by simp
   rw [e1] at ih1
   have b1 : btw ((spot r).map (· + 1)) (-1) (h + 1) = (spot s).map (· + 1) := by
    rw [← ih1, ← btw_shift]
    unfold btw
    refine List.filter_congr fun p hp => ?_
    obtain ⟨q, _, rfl⟩ := List.mem_map.mp hp
    congr 1
    apply decide_eq_decide.mpr; push_cast; omega
   rw [show (fun x => 0 + x) = (fun x : Nat => x) from funext fun x => Nat.zero_add x, List.map_id', spot_cons, spot_cons, ← b1]
   unfold btw
   rw [List.filter_append]
   congr 1
   split
   ·rfl
   ·rw [List.filter_cons, if_pos (by simp; omega)]; rfl
theorem spans_eq (l : T) : spansN l = spotsAt (segs l) 0 := by
 rw [← sp_segs, ← bounds_eq, ← sp_range]; rfl
end L
namespace L
variable {ws : List T}
noncomputable def unsegs : List T → T
 | [] => []
 | [s] => s
 | s :: t :: u => s ++ 61 :: unsegs (t :: u)
theorem unsegs_segs : ∀ r : T, unsegs (segs r) = r
 | [] => rfl
 | c :: r => by
  have ih := unsegs_segs r
  obtain ⟨s, ss, e⟩ := segs_ne r
  by_cases hc : c = 61
  ·subst hc
   rw [segs_eq, e]
   rw [e] at ih
   show [] ++ 61 :: unsegs (s :: ss) = _
   rw [ih]; rfl
  ·rw [segs_cons hc e]
   rw [e] at ih
   cases ss with
   | nil => exact congrArg (c :: ·) ih
   | cons t u => exact congrArg (c :: ·) ih
noncomputable def pieceL (l : T) (q : List Nat) : T := if q = [] then [] else (l.drop (q.getD 0 0)).take (q.getLastD 0 + 1 - q.getD 0 0)
theorem shift_head (k : Nat) {q : List Nat} (h : q ≠ []) : (q.map (k + ·)).getD 0 0 = k + q.getD 0 0 := by
 cases q with
 | nil => exact absurd rfl h
 | cons a q => rfl
theorem shift_last (k : Nat) {q : List Nat} (h : q ≠ []) : (q.map (k + ·)).getLastD 0 = k + q.getLastD 0 := by
 rcases List.eq_nil_or_concat q with e | ⟨y, z, e⟩
 ·exact absurd e h
 ·rw [e, List.getLastD_eq_getLast?, List.getLastD_eq_getLast?]; simp
theorem piece_one (pre s post : T) : pieceL (pre ++ (s ++ post)) ((spot s).map (pre.length + ·)) = trim s := by
 obtain ⟨n, _, h1, h2, h3, h4⟩ := spot_trim s
 by_cases ht : trim s = []
 ·rw [h1 ht, ht]; rfl
 ·obtain ⟨a1, a2, a3⟩ := h2 ht
  unfold pieceL
  rw [if_neg (by simpa using a3), shift_head _ a3, shift_last _ a3, a1, ← h4, ← List.drop_drop, List.drop_left, List.drop_append_of_le_length (by omega)]
  rw [show pre.length + (spot s).getLastD 0 + 1 - (pre.length + n) = (trim s).length by omega, List.take_append_of_le_length (by rw [List.length_drop]; omega), h4]
theorem pieces : ∀ (ss : List T) (pre : T), ss.map trim = (spotsAt ss pre.length).map (pieceL (pre ++ unsegs ss))
 | [], _ => rfl
 | [s], pre => by
  have := piece_one pre s []
  rw [List.append_nil] at this
  show [trim s] = [pieceL (pre ++ s) _]
  rw [this]
 | s :: t :: u, pre => by
  have ih := pieces (t :: u) (pre ++ s ++ [61])
  rw [spotsAt, List.map_cons, List.map_cons]
  have e : pre ++ unsegs (s :: t :: u) = pre ++ s ++ [61] ++ unsegs (t :: u) := by
   show pre ++ (s ++ 61 :: unsegs (t :: u)) = _
   simp
  have e2 : pre ++ unsegs (s :: t :: u) = pre ++ (s ++ (61 :: unsegs (t :: u))) := rfl
  congr 1
  ·rw [e2]; exact (piece_one pre s _).symm
  ·have e3 : pre.length + s.length + 1 = (pre ++ s ++ [61]).length := by simp [Nat.add_assoc]
   rw [e, e3]
   exact ih
theorem scan_shift (ws : List T) (k : Nat) : ∀ (f : Nat) (r : T) (j : Nat), scanF ws f r (k + j) = (scanF ws f r j).map fun t => (k + t.1, t.2)
 | 0, _, _ => rfl
 | _ + 1, [], _ => rfl
 | f + 1, c :: r, j => by
  rw [scanF, scanF, List.map_append, ← scan_shift ws k f, Nat.add_assoc]
  congr 1
  split <;> rfl
noncomputable def cutL (ws : List T) (q : T × List Nat) : List (Nat × T) := (scan ws q.1 0).map fun t => (q.2.getD 0 0 + t.1, t.2)
theorem cuts_segs (H : Ws ws) : ∀ (ss : List T) (k : Nat), (((ss.map trim).zip (spotsAt ss k)).map (cutL ws)).flatten = segScan ws ss k
 | [], _ => rfl
 | s :: ss, k => by
  have ih := cuts_segs H ss (k + s.length + 1)
  rw [List.map_cons, spotsAt, List.zip_cons_cons, List.map_cons, List.flatten_cons, ih, segScan]
  congr 1
  obtain ⟨n, h0, h1, h2, h3, h4⟩ := spot_trim s
  rw [h0 k ws H]
  unfold cutL
  by_cases ht : trim s = []
  ·rw [ht]; rfl
  ·obtain ⟨a1, a2, a3⟩ := h2 ht
   dsimp only
   rw [shift_head _ a3, a1]
   exact (scan_shift ws (k + n) _ _ 0).symm
theorem cut_ne : ∀ (ss : List T) (k : Nat), ∀ q ∈ (ss.map trim).zip (spotsAt ss k), q.1 ≠ [] → q.2 ≠ []
 | [], _, q, m, _ => by cases m
 | s :: ss, k, q, m, h => by
  rw [List.map_cons, spotsAt, List.zip_cons_cons] at m
  rcases List.mem_cons.mp m with rfl | m
  ·obtain ⟨n, _, _, h2, _⟩ := spot_trim s
   simpa using (h2 h).2.2
  ·exact cut_ne ss _ q m h
theorem spotsAt_len (ss : List T) (k : Nat) : (spotsAt ss k).length = ss.length := by
 induction ss generalizing k with
 | nil => rfl
 | cons s ss ih => rw [spotsAt, List.length_cons, ih, List.length_cons]
theorem spot_len (s : T) : (spot s).length ≤ s.length := by
 unfold spot
 exact Nat.le_trans (List.length_filter_le _ _) (by simp)
theorem segs_count : ∀ r : T, (segs r).length ≤ r.length + 1
 | [] => Nat.le_refl _
 | c :: r => by
  have ih := segs_count r
  obtain ⟨s, ss, e⟩ := segs_ne r
  by_cases hc : c = 61
  ·subst hc; rw [segs_eq, List.length_cons, List.length_cons]; omega
  ·rw [segs_cons hc e]; rw [e] at ih; simp at ih ⊢; omega
theorem segs_le : ∀ r : T, ∀ s ∈ segs r, s.length ≤ r.length ∧ ∀ c ∈ s, c ∈ r ∧ c ≠ 61
 | [], s, m => by rw [List.mem_singleton.mp m]; exact ⟨Nat.le_refl _, fun c h => nomatch h⟩
 | c :: r, s, m => by
  obtain ⟨s', ss, e⟩ := segs_ne r
  by_cases hc : c = 61
  ·subst hc
   rw [segs_eq] at m
   rcases List.mem_cons.mp m with rfl | m
   ·exact ⟨Nat.zero_le _, fun c h => nomatch h⟩
   ·obtain ⟨h1, h2⟩ := segs_le r s m
    exact ⟨Nat.le_succ_of_le h1, fun c h => ⟨.tail _ (h2 c h).1, (h2 c h).2⟩⟩
  ·rw [segs_cons hc e] at m
   rcases List.mem_cons.mp m with rfl | m
   ·obtain ⟨h1, h2⟩ := segs_le r s' (e ▸ .head _)
    exact ⟨Nat.succ_le_succ h1, fun d h => (List.mem_cons.mp h).elim (fun q => ⟨q ▸ .head _, q ▸ hc⟩) fun q => ⟨.tail _ (h2 d q).1, (h2 d q).2⟩⟩
   ·obtain ⟨h1, h2⟩ := segs_le r s (e ▸ .tail _ m)
    exact ⟨Nat.le_succ_of_le h1, fun c h => ⟨.tail _ (h2 c h).1, (h2 c h).2⟩⟩
theorem mem_spotsAt : ∀ (ss : List T) (k : Nat) (q : List Nat), q ∈ spotsAt ss k → ∃ s ∈ ss, ∃ j, q = (spot s).map (j + ·)
 | s :: ss, k, q, m => by
  rw [spotsAt] at m
  rcases List.mem_cons.mp m with rfl | m
  ·exact ⟨s, .head _, k, rfl⟩
  ·obtain ⟨s', hs, j, e⟩ := mem_spotsAt ss _ q m
   exact ⟨s', .tail _ hs, j, e⟩
theorem spot_order (s : T) (j : Nat) : ((spot s).map (j + ·)).getD 0 0 ≤ ((spot s).map (j + ·)).getLastD 0 + 1 := by
 obtain ⟨n, _, h1, h2, _⟩ := spot_trim s
 by_cases ht : trim s = []
 ·rw [h1 ht]; exact Nat.zero_le _
 ·obtain ⟨a1, a2, a3⟩ := h2 ht
  rw [shift_head _ a3, shift_last _ a3]
  omega
end L
namespace L
noncomputable abbrev lst (x : Str) : T := x.cps.toList
theorem lst_inj {x y : Str} (h : lst x = lst y) : x = y := by
 obtain ⟨⟨a⟩⟩ := x
 obtain ⟨⟨b⟩⟩ := y
 have h : a = b := h
 rw [h]
theorem drop_tw (p : Nat → Bool) : ∀ l : T, l.drop (l.takeWhile p).length = l.dropWhile p
 | [] => rfl
 | c :: l => by
  rw [List.takeWhile_cons, List.dropWhile_cons]
  split
  ·rw [List.length_cons, List.drop_succ_cons, drop_tw p l]
  ·rfl
theorem lst_sub (x : Str) (i j : Nat) : lst (Builtin.Str.strSub x i j) = ((lst x).drop i).take (j - i) := by
 show (x.cps.extract i j).toList = _
 rw [Array.toList_extract]
theorem cut_mid {p d t : Nat} : p + d - t - p = d - t := by omega
theorem strip_lst (goes : Nat → Bool) (x : Str) : lst (Txt.stripBy goes true true x) = (((lst x).dropWhile goes).reverse.dropWhile goes).reverse := by
 rw [PyProof.Rows.stripBy_eq, lst_sub]
 have hlo : stripLo goes true x = ((lst x).takeWhile goes).length := by simp [stripLo]
 have hhi : stripHi goes true x (stripLo goes true x) = x.length - (((lst x).drop (stripLo goes true x)).reverse.takeWhile goes).length := by simp [stripHi]
 rw [hhi, hlo, drop_tw]
 have hx : x.length = ((lst x).takeWhile goes).length + ((lst x).dropWhile goes).length := by
  rw [← List.length_append, List.takeWhile_append_dropWhile]; simp [Str.length]
 generalize (lst x).dropWhile goes = d at hx ⊢
 rw [← drop_tw goes d.reverse, List.reverse_drop, List.reverse_reverse, hx]
 congr 1
 rw [List.length_reverse]
 exact cut_mid
theorem rstrip_lst (goes : Nat → Bool) (x : Str) : lst (Txt.stripBy goes false true x) = ((lst x).reverse.dropWhile goes).reverse := by
 rw [PyProof.Rows.stripBy_eq, lst_sub]
 have hlo : stripLo goes false x = 0 := by simp [stripLo]
 have hhi : stripHi goes true x 0 = x.length - ((lst x).reverse.takeWhile goes).length := by simp [stripHi]
 rw [hlo, hhi, List.drop_zero, ← drop_tw goes (lst x).reverse, List.reverse_drop, List.reverse_reverse]
 congr 1
 rw [List.length_reverse, Nat.sub_zero]
 have : x.length = (lst x).length := by simp [Str.length]
 rw [this]
theorem strip_is {x : Str} (h : ∀ c ∈ lst x, Unicode.isSpace c = blank c) : lst (Txt.strip x) = trim (lst x) := by
 have e : ∀ (l : T), (∀ c ∈ l, Unicode.isSpace c = blank c) → l.dropWhile Unicode.isSpace = l.dropWhile blank := fun l hl => by
  induction l with
  | nil => rfl
  | cons c l ih => rw [List.dropWhile_cons, List.dropWhile_cons, hl c (.head _), ih fun d m => hl d (.tail _ m)]
 show lst (Txt.stripBy Unicode.isSpace true true x) = _
 rw [strip_lst, e _ h, e _ (fun c m => h c ((List.dropWhile_suffix _).subset (List.mem_reverse.mp m)))]
 rfl
theorem rchars_is (x : Str) : lst (Txt.rstripChars x "=") = stem (lst x) := by
 show lst (Txt.stripBy _ false true x) = _
 rw [rstrip_lst]
 unfold stem
 congr 2
 funext c
 show (#[61] : Array Nat).contains c = (c == 61)
 rw [Bool.eq_iff_iff]; simp
end L
namespace L
theorem cut_none {r : Str} (h : 61 ∉ lst r) : cutEq r = [r] := by
 unfold cutEq Txt.splitMax
 split
 ·rfl
 ·rw [show limitOf r 1 = 1 from rfl, if_pos]
  rw [show ("=" : Str) = ⟨#[61]⟩ from rfl, empty_one]
  simpa using h
theorem take_first {l : T} {i : Nat} (h : l[i]? = some 61) (hn : ∀ k, k < i → l[k]? ≠ some 61) : l = l.take i ++ 61 :: l.drop (i + 1) ∧ 61 ∉ l.take i := by
 have hi : i < l.length := by
  rcases Nat.lt_or_ge i l.length with q | q
  ·exact q
  ·rw [List.getElem?_eq_none q] at h; cases h
 have hg : l[i] = 61 := by rw [List.getElem?_eq_getElem hi] at h; exact Option.some.inj h
 refine ⟨?_, fun m => ?_⟩
 ·conv => lhs; rw [← List.take_append_drop i l, List.drop_eq_getElem_cons hi, hg]
 ·obtain ⟨k, hk, e⟩ := List.getElem_of_mem m
  rw [List.length_take] at hk
  rw [List.getElem_take] at e
  exact hn k (by omega) (by rw [List.getElem?_eq_getElem (by omega), e])
theorem kind_ge (r : Str) : ¬ Builtin.Str.strKind r < Builtin.Str.strKind "=" := by
 rw [show Builtin.Str.strKind "=" = 1 from by decide +kernel]
 unfold Builtin.Str.strKind
 split
 ·decide
 ·split <;> decide
theorem cut_some {r : Str} (h : 61 ∈ lst r) : ∃ y z, cutEq r = [y, z] ∧ lst r = lst y ++ 61 :: lst z ∧ 61 ∉ lst y := by
 unfold cutEq Txt.splitMax
 have hl : 0 < r.length := by
  have := List.length_pos_of_mem h
  simpa [Str.length] using this
 have hk := kind_ge r
 have hl' : ¬ r.length < ("=" : Str).length := by show ¬ r.length < 1; omega
 rw [if_neg (by simp only [Bool.or_eq_true, decide_eq_true_eq]; exact fun q => q.elim hl' hk), show limitOf r 1 = 1 from rfl, if_neg (by
  rw [show ("=" : Str) = ⟨#[61]⟩ from rfl, empty_one]; simpa using h)]
 rcases StrLaws.occ_head r ⟨#[61]⟩ 1 (Nat.le_refl 1) with ⟨_, hn⟩ | ⟨i, q, h0, hi, hn⟩
 ·obtain ⟨j, hj⟩ := List.getElem?_of_mem h
  exact absurd ((StrLaws.subAt_one r 61 j).mpr hj) (hn j)
 ·have hq : q = [] := by
   have := StrLaws.occ_length_le r ⟨#[61]⟩ 0 r.length 1
   rw [h0] at this
   cases q with
   | nil => rfl
   | cons a q => simp at this
  subst hq
  rw [show ("=" : Str) = ⟨#[61]⟩ from rfl, h0]
  obtain ⟨e1, e2⟩ := take_first ((StrLaws.subAt_one r 61 i).mp hi) fun k hk e => hn k hk ((StrLaws.subAt_one r 61 k).mpr e)
  refine ⟨Builtin.Str.strSub r 0 i, Builtin.Str.strSub r (i + 1) r.length, rfl, ?_, ?_⟩
  ·have e3 : ((lst r).drop (i + 1)).take (r.length - (i + 1)) = (lst r).drop (i + 1) := List.take_of_length_le (by simp [Str.length])
   rw [lst_sub, lst_sub, List.drop_zero, e3]
   exact e1
  ·rw [lst_sub, List.drop_zero]; exact e2
end L
namespace L
noncomputable abbrev Plain (x : Str) : Prop := ∀ c ∈ lst x, Unicode.isSpace c = blank c
theorem tw_cut {b : T} : ∀ {a : T}, 61 ∉ a → (a ++ 61 :: b).takeWhile (· != 61) = a ∧ ((a ++ 61 :: b).dropWhile (· != 61)).drop 1 = b
 | [], _ => by simp
 | c :: a, h => by
  obtain ⟨h1, h2⟩ := tw_cut (b := b) (a := a) fun q => h (.tail _ q)
  have hc : (c != 61) = true := by
   have : c ≠ 61 := fun q => h (q ▸ .head _)
   simpa using this
  rw [List.cons_append, List.takeWhile_cons, List.dropWhile_cons, if_pos hc, if_pos hc, h1, h2]
  exact ⟨rfl, rfl⟩
theorem trim_sub {r : T} {c : Nat} (h : c ∈ trim r) : c ∈ r := by
 obtain ⟨a, b, e, _⟩ := trim_cut r
 rw [e]; simp [h]
theorem peelF_lst : ∀ (n : Nat) (r : Str), Plain r → (peelF n r).map lst = peelL n (lst r)
 | 0, r, _ => rfl
 | n + 1, r, hp => by
  by_cases h : 61 ∈ lst r
  ·obtain ⟨y, z, e, el, hn⟩ := cut_some h
   obtain ⟨h1, h2⟩ := tw_cut (b := lst z) hn
   have py : Plain y := fun c m => hp c (by rw [el]; exact List.mem_append_left _ m)
   have pz : Plain z := fun c m => hp c (by rw [el]; exact List.mem_append_right _ (.tail _ m))
   rw [peelF_two e, peelL, if_pos h, el, h1, h2, List.map_cons, strip_is py, peelF_lst n _ fun c m => pz c (by rw [strip_is pz] at m; exact trim_sub m), strip_is pz]
  ·rw [peelF_one (cut_none h), peelL, if_neg h]; rfl
theorem peeled_eq {x : Str} (hp : Plain x) (h : 61 ∈ lst x) : (peeled x).map lst = (segs (lst x)).map trim := by
 unfold peeled
 rw [peelF_lst _ _ hp, peel_segs _ _ (by simp [Str.length]) h]
theorem peeled_one {x : Str} (h : 61 ∉ lst x) : peeled x = [x] := peelF_one (cut_none h)
theorem lst_join (ps : List Str) : lst (Txt.join " = " ps) = joinL (ps.map lst) := by
 have go : ∀ (qs : List Str) (acc : Array Nat), (qs.foldl (fun acc p => acc ++ (" = " : Str).cps ++ p.cps) acc).toList = acc.toList ++ (qs.map fun p => [32, 61, 32] ++ lst p).flatten := fun qs => by
  induction qs with
  | nil => intro acc; simp
  | cons q qs ih =>
   intro acc
   rw [List.foldl_cons, ih]
   simp
   rfl
 have j : ∀ (p : T) (qs : List T), joinL (p :: qs) = p ++ (qs.map fun q => [32, 61, 32] ++ q).flatten := fun p qs => by
  induction qs generalizing p with
  | nil => simp [joinL]
  | cons q qs ih =>
   show p ++ ([32, 61, 32] ++ joinL (q :: qs)) = _
   rw [ih, List.map_cons, List.flatten_cons]
   simp
 cases ps with
 | nil => rfl
 | cons p ps =>
  rw [List.map_cons, j, List.map_map]
  exact go ps p.cps
end L
noncomputable def ones51 : List Str := W51.flatMap ones
theorem num_all : ones51.all (fun one => (one == "") || decide (0 ≤ numF one)) = true := by decide +kernel
theorem num_nn {p one : Str} (hp : p ∈ W51) (h : one ∈ ones p) (hne : one ≠ "") : 0 ≤ numF one := by
 have := List.all_eq_true.mp num_all one (List.mem_flatMap.mpr ⟨p, hp, h⟩)
 rw [Bool.or_eq_true, beq_iff_eq] at this
 exact this.elim (fun q => absurd q hne) of_decide_eq_true
theorem puts_51 (dr : List Nat) : ∀ p ∈ putsOf dr, p ∈ W51 := fun p hp => by
 have fix : ((["<<=", "==", "!", "BB", "aa", "$$"] : List Str) ++ (["**=", "!=", "~"] : List Str)).all (fun p => W51.contains p) = true := by decide +kernel
 unfold putsOf at hp
 rcases List.mem_append.mp hp with hp | hp
 ·rcases List.mem_append.mp hp with hp | hp
  ·exact List.contains_iff_mem.mp (List.all_eq_true.mp fix p (List.mem_append_left _ hp))
  ·obtain ⟨x, _, rfl⟩ := List.mem_map.mp hp
   exact w51_mem x
 ·exact List.contains_iff_mem.mp (List.all_eq_true.mp fix p (List.mem_append_right _ hp))
theorem ok_num {n : Int} (h : 0 ≤ n) : (decide (n < 256) && (!(n == 0) && true)) = decide (0 < n ∧ n < 256) := by
 rw [Bool.and_true, Bool.eq_iff_iff, Bool.and_eq_true_iff, Bool.not_eq_true', beq_eq_false_iff_ne, decide_eq_true_iff, decide_eq_true_iff]
 omega
theorem add_same {st i : Nat} {b : Book} {k : Str} {p : Str × Int} : addIx (decide (st ≤ i)) b k p = if ((decide ((i : Int) < (st : Int)) || ((at? b k).isSome || false)) && true) = true then put b k ((at? b k).getD [] ++ [p]) else b := by
 unfold addIx
 rw [Bool.and_true, Bool.or_false]
 by_cases hi : i < st
 ·rw [decide_eq_true (Int.ofNat_lt.mpr hi), decide_eq_false (Nat.not_le_of_lt hi), if_neg (fun q => Bool.false_ne_true q.1), Bool.true_or, if_pos rfl]
 ·rw [decide_eq_false (fun q => hi (Int.ofNat_lt.mp q)), decide_eq_true (Nat.le_of_not_lt hi), Bool.false_or]
  cases at? b k with
  | none => rfl
  | some r => rfl
theorem step_same {st : Nat} {i : Nat} {b : Book} {one : Str} (h : one ≠ "" → 0 ≤ numF one) : ixStep st numF i b one = dueStep (st : Int) numF i b one := by
 unfold ixStep dueStep ixOk dueOk
 cases h0 : (one != ("" : Str)) with
 | false => rfl
 | true =>
  rw [ok_num (h fun q => by rw [q] at h0; cases h0), add_same]
  cases decide (0 < numF one ∧ numF one < 256) with
  | false => rfl
  | true => rfl
theorem fold_same {puts : List Str} (h : ∀ p ∈ puts, p ∈ W51) (st : Nat) : ∀ n, n ≤ puts.length → ixTo puts st numF n = dueTo puts (st : Int) numF n
 | 0, _ => rfl
 | n + 1, hn => by
  rw [ixTo_succ, dueTo_succ, fold_same h st n (Nat.le_of_succ_le hn)]
  have hp : puts.getD n "" ∈ W51 := h _ (getD_mem hn)
  have hall : ∀ one ∈ ones (puts.getD n ""), ∀ b : Book, ixStep st numF n b one = dueStep (st : Int) numF n b one := fun one ho b => step_same fun q => num_nn hp ho q
  generalize ones (puts.getD n "") = l at hall
  generalize dueTo puts (st : Int) numF n = b
  induction l generalizing b with
  | nil => rfl
  | cons a l ih => rw [List.foldl_cons, List.foldl_cons, hall a (.head _), ih fun one m => hall one (.tail _ m)]
theorem ix_due (dr : List Nat) : ixB dr = duB dr := fold_same (puts_51 dr) _ _ (Nat.le_refl _)
theorem mem_put {α : Type} {b : List (Str × α)} {k : Str} {v : α} {kv : Str × α} (h : kv ∈ put b k v) : kv = (k, v) ∨ (kv ∈ b ∧ kv.1 ≠ k) := by
 unfold put at h
 split at h
 ·obtain ⟨q, hq, e⟩ := List.mem_map.mp h
  by_cases hk : q.1 = k
  ·rw [if_pos hk, hk] at e; exact .inl e.symm
  ·rw [if_neg hk] at e; exact .inr ⟨e ▸ hq, e ▸ hk⟩
 ·rename_i hn
  rcases List.mem_append.mp h with h | h
  ·refine .inr ⟨h, fun q => hn ?_⟩
   exact List.any_eq_true.mpr ⟨kv, h, by simpa using q⟩
  ·exact .inl (List.mem_singleton.mp h)
theorem put_mem {α : Type} {b : List (Str × α)} {k : Str} {v : α} : (k, v) ∈ put b k v := by
 unfold put
 split
 ·rename_i h
  obtain ⟨q, hq, e⟩ := List.any_eq_true.mp h
  exact List.mem_map.mpr ⟨q, hq, by rw [if_pos (of_decide_eq_true e), of_decide_eq_true e]⟩
 ·exact List.mem_append_right _ (.head _)
theorem put_old {α : Type} {b : List (Str × α)} {k : Str} {v : α} {kv : Str × α} (h : kv ∈ b) (hk : kv.1 ≠ k) : kv ∈ put b k v := by
 unfold put
 split
 ·exact List.mem_map.mpr ⟨kv, h, by rw [if_neg hk]⟩
 ·exact List.mem_append_left _ h
theorem put_keys {α : Type} {b : List (Str × α)} {k : Str} {v : α} (h : (b.map (·.1)).Nodup) : ((put b k v).map (·.1)).Nodup := by
 unfold put
 split
 ·rw [List.map_map]
  have e : ((·.1) ∘ fun kv : Str × α => if kv.1 = k then (kv.1, v) else kv) = (·.1) := funext fun kv => by
   show (if kv.1 = k then (kv.1, v) else kv).1 = kv.1
   split <;> rfl
  rw [e]; exact h
 ·rename_i hn
  rw [List.map_append, List.nodup_append]
  refine ⟨h, by simp, fun a ha c hc => ?_⟩
  obtain ⟨kv, hkv, rfl⟩ := List.mem_map.mp ha
  rw [List.map_singleton, List.mem_singleton] at hc
  subst hc
  exact fun q => hn (List.any_eq_true.mpr ⟨kv, hkv, by simpa using q⟩)
theorem at_mem {α : Type} {b : List (Str × α)} {k : Str} {r : α} (h : at? b k = some r) : (k, r) ∈ b := by
 unfold at? at h
 cases e : b.find? fun kv => kv.1 = k with
 | none => rw [e] at h; cases h
 | some kv =>
  rw [e] at h; cases h
  have h1 := List.find?_some e
  have h2 := List.mem_of_find?_eq_some e
  have h1 : kv.1 = k := by simpa using h1
  rw [← h1]; exact h2
theorem mem_at {α : Type} {b : List (Str × α)} {k : Str} {r : α} (nd : (b.map (·.1)).Nodup) (h : (k, r) ∈ b) : at? b k = some r := by
 unfold at?
 induction b with
 | nil => cases h
 | cons kv b ih =>
  rw [List.map_cons, List.nodup_cons] at nd
  rw [List.find?_cons]
  rcases List.mem_cons.mp h with rfl | h
  ·simp
  ·have : kv.1 ≠ k := fun q => nd.1 (q ▸ List.mem_map.mpr ⟨_, h, rfl⟩)
   simp only [this, decide_false]
   exact ih nd.2 h
noncomputable abbrev rs (w : Str) : Str := Txt.rstripChars w "="
structure Bk (b : Book) : Prop where
 nd : (b.map (·.1)).Nodup
 row : ∀ kv ∈ b, ∀ p ∈ kv.2, kv.1 = headOf p.1 ∧ p.1 ≠ "" ∧ p.2 = numF p.1 ∧ 0 < p.2 ∧ p.2 < 256 ∧ p.1 ∈ ones51
noncomputable def inB (b : Book) (w : Str) : Prop := ∃ kv ∈ b, ∃ p ∈ kv.2, p.1 = w
noncomputable def Cl (b : Book) : Prop := ∀ w, inB b w → rs w ≠ "" → inB b (rs w)
theorem at_row {b : Book} {k : Str} {p : Str × Int} (h : p ∈ (at? b k).getD []) : ∃ r, (k, r) ∈ b ∧ p ∈ r := by
 cases e : at? b k with
 | none => rw [e] at h; cases h
 | some r => rw [e] at h; exact ⟨r, at_mem e, h⟩
theorem Bk.add {b : Book} (B : Bk b) {one : Str} (h1 : one ≠ "") (h2 : 0 < numF one) (h3 : numF one < 256) (h4 : one ∈ ones51) : Bk (addTo b one (numF one)) where
 nd := put_keys B.nd
 row := fun kv hkv p hp => by
  rcases mem_put hkv with rfl | ⟨hkv, _⟩
  ·rcases List.mem_append.mp hp with hp | hp
   ·obtain ⟨r, hr, hp⟩ := at_row hp
    exact B.row _ hr p hp
   ·rw [List.mem_singleton.mp hp]; exact ⟨rfl, h1, rfl, h2, h3, h4⟩
  ·exact B.row kv hkv p hp
theorem inB_add {b : Book} (B : Bk b) {one w : Str} {n : Int} : inB (addTo b one n) w ↔ inB b w ∨ w = one := by
 constructor
 ·rintro ⟨kv, hkv, p, hp, rfl⟩
  rcases mem_put hkv with rfl | ⟨hkv, _⟩
  ·rcases List.mem_append.mp hp with hp | hp
   ·obtain ⟨r, hr, hp⟩ := at_row hp
    exact .inl ⟨_, hr, p, hp, rfl⟩
   ·rw [List.mem_singleton.mp hp]; exact .inr rfl
  ·exact .inl ⟨kv, hkv, p, hp, rfl⟩
 ·rintro (⟨kv, hkv, p, hp, rfl⟩ | rfl)
  ·by_cases hk : kv.1 = headOf one
   ·have e := mem_at B.nd (show (headOf one, kv.2) ∈ b by rw [← hk]; exact hkv)
    exact ⟨_, put_mem, p, List.mem_append_left _ (by rw [e]; exact hp), rfl⟩
   ·exact ⟨kv, put_old hkv hk, p, hp, rfl⟩
  ·exact ⟨_, put_mem, _, List.mem_append_right _ (.head _), rfl⟩
theorem rs_all : W51.all (fun p => (rs p == "") || ((decide (numF p ≤ 0) || decide (256 ≤ numF p) || (decide (0 < numF (rs p)) && decide (numF (rs p) < 256))) && (headOf (rs p) == headOf p))) = true := by decide +kernel
theorem rs_rs_all : ones51.all (fun w => rs (rs w) == rs w) = true := by decide +kernel
theorem ones_in {p one : Str} (hp : p ∈ W51) (h : one ∈ ones p) : one ∈ ones51 := List.mem_flatMap.mpr ⟨p, hp, h⟩
theorem dueStep_Bk {b : Book} (B : Bk b) {stop : Int} {i : Nat} {one : Str} (h4 : one ∈ ones51) : Bk (dueStep stop numF i b one) := by
 unfold dueStep
 split
 ·rename_i h
  unfold dueOk at h
  simp only [Bool.and_eq_true, bne_iff_ne, decide_eq_true_eq] at h
  exact B.add h.1 h.2.1.1 h.2.1.2 h4
 ·exact B
theorem pair_Bk {b : Book} (B : Bk b) (C : Cl b) {stop : Int} {i : Nat} {p : Str} (hp : p ∈ W51) : Bk ((ones p).foldl (dueStep stop numF i) b) ∧ Cl ((ones p).foldl (dueStep stop numF i) b) := by
 have o1 : p ∈ ones51 := ones_in hp (.head _)
 have o2 : rs p ∈ ones51 := ones_in hp (.tail _ (.head _))
 have rr : ∀ w ∈ ones51, rs (rs w) = rs w := fun w h => beq_iff_eq.mp (List.all_eq_true.mp rs_rs_all w h)
 have e : (ones p).foldl (dueStep stop numF i) b = dueStep stop numF i (dueStep stop numF i b p) (rs p) := rfl
 rw [e]
 have B1 := dueStep_Bk (stop := stop) (i := i) B o1
 refine ⟨dueStep_Bk B1 o2, ?_⟩
 have last : ∀ b1 : Book, Bk b1 → (∀ w, inB b1 w → rs w ≠ "" → inB b1 (rs w) ∨ (rs w = rs p ∧ dueOk stop numF i b1 (rs p) = true)) → Cl (dueStep stop numF i b1 (rs p)) := fun b1 B1 h w hw hn => by
  unfold dueStep at hw ⊢
  split at hw
  ·rename_i hok
   rw [if_pos hok] at *
   rw [inB_add B1] at hw ⊢
   rcases hw with hw | rfl
   ·rcases h w hw hn with q | ⟨q, _⟩
    ·exact .inl q
    ·exact .inr q
   ·exact .inr (rr p o1)
  ·rename_i hok
   rw [if_neg hok] at *
   rcases h w hw hn with q | ⟨_, q⟩
   ·exact q
   ·exact absurd q hok
 refine last _ B1 fun w hw hn => ?_
 unfold dueStep at hw ⊢
 split at hw
 ·rename_i hok
  rw [if_pos hok] at *
  rw [inB_add B] at hw ⊢
  rcases hw with hw | rfl
  ·exact .inl (.inl (C w hw hn))
  ·refine .inr ⟨rfl, ?_⟩
   have t := List.all_eq_true.mp rs_all w hp
   unfold dueOk at hok ⊢
   simp only [Bool.and_eq_true, bne_iff_ne, decide_eq_true_eq, Bool.or_eq_true, beq_iff_eq] at hok t ⊢
   rcases t with t | ⟨t1, t2⟩
   ·exact absurd t hn
   ·refine ⟨hn, ?_, .inr (.inl ?_), trivial⟩
    ·rcases t1 with (t1 | t1) | t1
     ·exact absurd hok.2.1.1 (by omega)
     ·exact absurd hok.2.1.2 (by omega)
     ·exact t1
    ·rw [t2]
     unfold addTo
     rw [mem_at (put_keys B.nd) put_mem]; rfl
 ·rename_i hok
  rw [if_neg hok] at *
  exact .inl (C w hw hn)
theorem due_Bk {puts : List Str} (h : ∀ p ∈ puts, p ∈ W51) (stop : Int) : ∀ n, n ≤ puts.length → Bk (dueTo puts stop numF n) ∧ Cl (dueTo puts stop numF n)
 | 0, _ => ⟨⟨List.nodup_nil, fun kv m => nomatch m⟩, fun w ⟨kv, m, _⟩ => nomatch m⟩
 | n + 1, hn => by
  obtain ⟨B, C⟩ := due_Bk h stop n (Nat.le_of_succ_le hn)
  rw [dueTo_succ]
  exact pair_Bk B C (h _ (getD_mem hn))
theorem book_Bk (dr : List Nat) : Bk (duB dr) ∧ Cl (duB dr) := due_Bk (puts_51 dr) _ _ (Nat.le_refl _)
noncomputable def okOne (w : Str) : Bool := decide (w.length ≤ 8) && (L.lst w).all (fun c => decide (c < 128) && (Unicode.isSpace c == blank c) && !blank c) && (L.lst w == L.stem (L.lst w) ++ List.replicate ((L.lst w).length - (L.stem (L.lst w)).length) 61) && !(L.stem (L.lst w)).contains 61
theorem okOne_all : ones51.all okOne = true := by decide +kernel
structure One (w : Str) : Prop where
 len : w.length ≤ 8
 asc : ∀ c ∈ L.lst w, c < 128 ∧ Unicode.isSpace c = blank c ∧ blank c = false
 shape : L.lst w = L.stem (L.lst w) ++ List.replicate ((L.lst w).length - (L.stem (L.lst w)).length) 61
 stem : 61 ∉ L.stem (L.lst w)
theorem one_ok {w : Str} (h : w ∈ ones51) : One w := by
 have t := List.all_eq_true.mp okOne_all w h
 unfold okOne at t
 simp only [Bool.and_eq_true, decide_eq_true_eq, List.all_eq_true, beq_iff_eq, Bool.not_eq_true'] at t
 obtain ⟨⟨⟨t1, t2⟩, t3⟩, t4⟩ := t
 exact ⟨t1, fun c m => ⟨(t2 c m).1.1, (t2 c m).1.2, (t2 c m).2⟩, t3, fun q => by rw [List.contains_iff_mem.mpr q] at t4; cases t4⟩
noncomputable def wordsOf (b : Book) : List Str := b.flatMap fun kv => kv.2.map (·.1)
noncomputable def wsOf (b : Book) : List L.T := (wordsOf b).map L.lst
theorem mem_words {b : Book} {w : Str} : w ∈ wordsOf b ↔ inB b w := by
 unfold wordsOf inB
 rw [List.mem_flatMap]
 constructor
 ·rintro ⟨kv, h, m⟩
  obtain ⟨p, hp, e⟩ := List.mem_map.mp m
  exact ⟨kv, h, p, hp, e⟩
 ·rintro ⟨kv, h, p, hp, e⟩
  exact ⟨kv, h, List.mem_map.mpr ⟨p, hp, e⟩⟩
theorem Bk.one {b : Book} (B : Bk b) {w : Str} (h : inB b w) : w ≠ "" ∧ 0 < numF w ∧ numF w < 256 ∧ w ∈ ones51 := by
 obtain ⟨kv, hkv, p, hp, rfl⟩ := h
 obtain ⟨_, h2, h3, h4, h5, h6⟩ := B.row kv hkv p hp
 exact ⟨h2, h3 ▸ h4, h3 ▸ h5, h6⟩
theorem lst_nil {w : Str} (h : L.lst w = []) : w = "" := L.lst_inj h
theorem ws_ok {b : Book} (B : Bk b) (C : Cl b) : L.Ws (wsOf b) where
 ne := fun w hw => by
  obtain ⟨x, hx, rfl⟩ := List.mem_map.mp hw
  exact fun q => (B.one (mem_words.mp hx)).1 (lst_nil q)
 nb := fun w hw c hc => by
  obtain ⟨x, hx, rfl⟩ := List.mem_map.mp hw
  exact ((one_ok (B.one (mem_words.mp hx)).2.2.2).asc c hc).2.2
 st := fun w hw => by
  obtain ⟨x, hx, rfl⟩ := List.mem_map.mp hw
  have hb := mem_words.mp hx
  have o := one_ok (B.one hb).2.2.2
  refine ⟨_, _, o.shape, o.stem, ?_⟩
  by_cases h : L.stem (L.lst x) = []
  ·exact .inl h
  ·refine .inr (List.mem_map.mpr ⟨rs x, mem_words.mpr (C x hb fun q => h ?_), L.rchars_is x⟩)
   rw [← L.rchars_is x, show Txt.rstripChars x "=" = "" from q]; rfl
theorem gt_iff (a b : Int × Int) : pairGt a b = true ↔ b.1 < a.1 ∨ (a.1 = b.1 ∧ b.2 < a.2) := by
 unfold pairGt
 split
 ·rename_i h; simp; omega
 ·rename_i h; simp; omega
theorem ngt_self (a : Int × Int) : pairGt a a ≠ true := by
 rw [Ne, gt_iff]; omega
theorem ngt_up {a b c : Int × Int} (h : pairGt a b ≠ true) (g : pairGt c b = true) : pairGt a c ≠ true := by
 rw [Ne, gt_iff] at h ⊢
 rw [gt_iff] at g
 omega
theorem ngt_le {a b : Int × Int} (h : pairGt a b ≠ true) : a.1 < b.1 ∨ (a.1 = b.1 ∧ a.2 ≤ b.2) := by
 rw [Ne, gt_iff] at h
 omega
theorem top_all {l : List (Int × Int)} : ∀ n, n < l.length → ∀ j, j ≤ n → pairGt (l.getD j (0, 0)) (l.getD (bestOf (gtAt l) n) (0, 0)) ≠ true
 | 0, _, j, hj => by
  have : j = 0 := by omega
  subst this
  exact ngt_self _
 | n + 1, hn, j, hj => by
  have ih := top_all n (Nat.lt_of_succ_lt hn)
  unfold bestOf
  split
  ·rename_i hg
   have hg : pairGt (l.getD (n + 1) (0, 0)) (l.getD (bestOf (gtAt l) n) (0, 0)) = true := hg
   rcases Nat.lt_or_ge n j with q | q
   ·have : j = n + 1 := by omega
    subst this
    exact ngt_self _
   ·exact ngt_up (ih j q) hg
  ·rename_i hg
   have hg : ¬ pairGt (l.getD (n + 1) (0, 0)) (l.getD (bestOf (gtAt l) n) (0, 0)) = true := hg
   rcases Nat.lt_or_ge n j with q | q
   ·have : j = n + 1 := by omega
    subst this
    exact hg
   ·exact ih j q
theorem top_max {l : List (Int × Int)} {p : Int × Int} (h : p ∈ l) : p.1 < (topOf l).1 ∨ (p.1 = (topOf l).1 ∧ p.2 ≤ (topOf l).2) := by
 obtain ⟨j, hj, e⟩ := List.getElem_of_mem h
 have := top_all (l := l) (l.length - 1) (by omega) j (by omega)
 rw [List.getD_eq_getElem?_getD, List.getElem?_eq_getElem hj, Option.getD_some, e] at this
 exact ngt_le this
theorem lst_sl (x : Str) (a b : Nat) : L.lst (sl x a b) = ((L.lst x).drop a).take (b - a) := rfl
theorem lst_len (x : Str) : (L.lst x).length = x.length := by simp [Str.length]
theorem fits_iff {x w : Str} {k : Nat} : fits x k w = true ↔ L.lst w <+: (L.lst x).drop k := by
 unfold fits
 rw [beq_iff_eq]
 have e : L.lst (sl x k (k + w.length)) = ((L.lst x).drop k).take (L.lst w).length := by rw [lst_sl, lst_len]; congr 1; omega
 constructor
 ·intro h
  rw [h] at e
  rw [e]; exact List.take_prefix _ _
 ·intro h
  exact L.lst_inj (e.trans (List.prefix_iff_eq_take.mp h).symm)
theorem cands_in {b : Book} {x : Str} {k : Nat} {q : Int × Int} (h : q ∈ cands b x k) : q = (1, 0) ∨ ∃ p : Str × Int, (∃ kv ∈ b, p ∈ kv.2) ∧ fits x k p.1 = true ∧ q = ((p.1.length : Int), p.2) := by
 unfold cands at h
 rcases List.mem_append.mp h with h | h
 ·exact .inl (List.mem_singleton.mp h)
 ·obtain ⟨p, hp, e⟩ := List.mem_map.mp h
  obtain ⟨h1, h2⟩ := List.mem_filter.mp hp
  obtain ⟨r, hr, hp⟩ := at_row h1
  exact .inr ⟨p, ⟨_, hr, hp⟩, h2, e.symm⟩
theorem cands_of {b : Book} (B : Bk b) {x : Str} {k : Nat} {kv : Str × Row} {p : Str × Int} (hkv : kv ∈ b) (hp : p ∈ kv.2) (hf : fits x k p.1 = true) : ((p.1.length : Int), p.2) ∈ cands b x k := by
 unfold cands
 obtain ⟨e1, e2, _⟩ := B.row kv hkv p hp
 have hpre := fits_iff.mp hf
 have hs : headOf p.1 = ⟨#[signAt x k]⟩ := by
  unfold headOf signAt
  congr 3
  obtain ⟨t, ht⟩ := hpre
  cases hl : L.lst p.1 with
  | nil => exact absurd (lst_nil hl) e2
  | cons c q =>
   rw [hl] at ht
   have h0 : ((L.lst x).drop k).getD 0 0 = c := by rw [← ht]; rfl
   rw [drop_getD] at h0
   show (L.lst p.1).getD 0 0 = (L.lst x).getD k 0
   rw [hl]
   simpa using h0.symm
 refine List.mem_append_right _ (List.mem_map.mpr ⟨p, List.mem_filter.mpr ⟨?_, hf⟩, rfl⟩)
 unfold rowAt
 rw [← hs, ← e1, mem_at B.nd (show (kv.1, kv.2) ∈ b from hkv)]
 exact hp
theorem best_cases {b : Book} (B : Bk b) (x : Str) (k : Nat) : (best b x k = (1, 0)) ∨ ∃ w, inB b w ∧ fits x k w = true ∧ best b x k = ((w.length : Int), numF w) := by
 rcases cands_in (best_mem b x k) with h | ⟨p, ⟨kv, hkv, hp⟩, hf, h⟩
 ·exact .inl h
 ·exact .inr ⟨p.1, ⟨kv, hkv, p, hp, rfl⟩, hf, by rw [h, (B.row kv hkv p hp).2.2.1]⟩
theorem best_max {b : Book} (B : Bk b) {x : Str} {k : Nat} {w : Str} (hw : inB b w) (hf : fits x k w = true) : (w.length : Int) < (best b x k).1 ∨ ((w.length : Int) = (best b x k).1 ∧ numF w ≤ (best b x k).2) := by
 obtain ⟨kv, hkv, p, hp, rfl⟩ := hw
 have := top_max (cands_of B hkv hp hf)
 rw [(B.row kv hkv p hp).2.2.1] at this
 exact this
theorem best_len {b : Book} (B : Bk b) (x : Str) (k : Nat) : (best b x k).1.toNat = L.bestL (wsOf b) ((L.lst x).drop k) := by
 have hp := best_pos b x k
 refine (L.bestL_eq (by omega) (fun w hw hpre => ?_) ?_).symm
 ·obtain ⟨y, hy, rfl⟩ := List.mem_map.mp hw
  have := best_max B (mem_words.mp hy) (fits_iff.mpr hpre)
  rw [lst_len]; omega
 ·rcases best_cases B x k with h | ⟨w, hw, hf, h⟩
  ·exact .inl (by rw [h]; rfl)
  ·exact .inr ⟨_, List.mem_map.mpr ⟨w, mem_words.mpr hw, rfl⟩, fits_iff.mp hf, by rw [h, lst_len]; rfl⟩
open Classical in
noncomputable def numW (b : Book) (w : Str) : Int := if inB b w then numF w else 0
theorem best_num {b : Book} (B : Bk b) {x : Str} {k : Nat} (hk : k < x.length) : (best b x k).2 = numW b (sl x k (k + (best b x k).1.toNat)) := by
 have hl : ∀ w, fits x k w = true → (best b x k).1 = (w.length : Int) → sl x k (k + (best b x k).1.toNat) = w := fun w hf e => by
  rw [e]
  exact beq_iff_eq.mp hf
 unfold numW
 rcases best_cases B x k with h | ⟨w, hw, hf, h⟩
 ·split
  ·rename_i hin
   have h1 : (best b x k).1.toNat = 1 := by rw [h]; rfl
   rw [h1] at hin ⊢
   have hlen : (sl x k (k + 1)).length = 1 := by
    rw [← lst_len, lst_sl, List.length_take, List.length_drop, lst_len]; omega
   have hf : fits x k (sl x k (k + 1)) = true := by unfold fits; rw [hlen]; exact beq_iff_eq.mpr rfl
   have hm := best_max B hin hf
   have hn := (B.one hin).2.1
   rw [h] at hm
   rw [hlen] at hm
   simp at hm
   omega
  ·rw [h]
 ·rw [hl w hf (by rw [h]), if_pos hw, h]
end Mine
namespace Mine
open PySem PySem.W PySem.Calls PySem.Spec PyProof.Rows
noncomputable def tkL (t : Tk) : Nat × L.T := (t.1, L.lst t.2.1)
theorem toksF_scan {b : Book} (B : Bk b) (x : Str) : ∀ f k, (toksF b x f k).map tkL = L.scanF (wsOf b) f ((L.lst x).drop k) k
 | 0, _ => rfl
 | f + 1, k => by
  rw [toksF]
  by_cases hk : k < x.length
  ·rw [if_pos hk]
   have hd : (L.lst x).drop k = signAt x k :: (L.lst x).drop (k + 1) := by
    have hk' : k < (L.lst x).length := by rw [lst_len]; exact hk
    rw [List.drop_eq_getElem_cons hk']
    congr 1
    show _ = (L.lst x).getD k 0
    rw [List.getD_eq_getElem?_getD, List.getElem?_eq_getElem hk']; rfl
   have hb := best_len B x k
   rw [List.map_append, toksF_scan B x f, hd, L.scanF, ← hd, ← hb, List.drop_drop]
   congr 1
   unfold tokAt
   split
   ·rfl
   ·rw [List.map_singleton]
    unfold tkL
    rw [lst_sl]
    congr 3
    omega
  ·rw [if_neg hk, List.drop_of_length_le (by rw [lst_len]; omega)]; rfl
theorem tokens_scan {b : Book} (B : Bk b) (x : Str) : (tokens b x).map tkL = L.scan (wsOf b) (L.lst x) 0 := by
 unfold tokens toks L.scan
 rw [toksF_scan B, lst_len]; rfl
theorem toksF_num {b : Book} (B : Bk b) (x : Str) : ∀ f k, ∀ t ∈ toksF b x f k, t.2.2 = numW b t.2.1 ∧ t.1 < x.length ∧ t.2.1 = sl x t.1 (t.1 + (best b x t.1).1.toNat)
 | 0, _, t, h => by cases h
 | f + 1, k, t, h => by
  rw [toksF] at h
  split at h
  ·rename_i hk
   rcases List.mem_append.mp h with h | h
   ·unfold tokAt at h
    split at h
    ·cases h
    ·rw [List.mem_singleton.mp h]; exact ⟨best_num B hk, hk, rfl⟩
   ·exact toksF_num B x f _ t h
  ·cases h
theorem tokens_num {b : Book} (B : Bk b) {x : Str} {t : Tk} (h : t ∈ tokens b x) : t.2.2 = numW b t.2.1 ∧ t.1 < x.length ∧ t.2.1 = sl x t.1 (t.1 + (best b x t.1).1.toNat) := toksF_num B x _ _ t h
theorem fold_getD {α β : Type} (f : β → α → β) (d : α) (l : List α) : ∀ a : β, (List.range l.length).foldl (fun a i => f a (l.getD i d)) a = l.foldl f a := by
 intro a
 have e : ∀ (r : List Nat) (b : β), r.foldl (fun a i => f a (l.getD i d)) b = (r.map fun i => l.getD i d).foldl f b := fun r b => by rw [List.foldl_map]
 rw [e]
 congr 1
 have := filter_range_getD (fun _ => true) d l
 rw [List.filter_eq_self.mpr fun _ _ => rfl, List.filter_eq_self.mpr fun _ _ => rfl] at this
 exact this
theorem stock_fold (b : Book) : stockKv b = b.foldl (fun kvs kv => kv.2.foldl (fun kvs p => put kvs p.1 (PyData.int p.2)) kvs) [] := by
 have e := fold_getD (fun (kvs : List (Str × PyData)) (kv : Str × Row) => kv.2.foldl (fun kvs p => put kvs p.1 (PyData.int p.2)) kvs) (("", []) : Str × Row) b []
 rw [← e]
 unfold stockKv puts2
 congr 1
 funext kvs i
 exact fold_getD (fun (kvs : List (Str × PyData)) (p : Str × Int) => put kvs p.1 (PyData.int p.2)) (("", 0) : Str × Int) (rowN b i) kvs
structure NumD (kvs : List (Str × PyData)) (S : Str → Prop) : Prop where
 nd : (kvs.map (·.1)).Nodup
 val : ∀ kv ∈ kvs, S kv.1 ∧ kv.2 = .int (numF kv.1)
 has : ∀ w, S w → (w, PyData.int (numF w)) ∈ kvs
theorem NumD.put {kvs : List (Str × PyData)} {S : Str → Prop} (h : NumD kvs S) {w : Str} {n : Int} (hn : n = numF w) : NumD (put kvs w (.int n)) (fun u => S u ∨ u = w) where
 nd := put_keys h.nd
 val := fun kv hkv => by
  subst hn
  rcases mem_put hkv with rfl | ⟨hkv, _⟩
  ·exact ⟨.inr rfl, rfl⟩
  ·exact ⟨.inl (h.val kv hkv).1, (h.val kv hkv).2⟩
 has := fun u hu => by
  subst hn
  by_cases e : u = w
  ·subst e; exact put_mem
  ·rcases hu with hu | hu
   ·exact put_old (h.has u hu) e
   ·exact absurd hu e
theorem NumD.iff {kvs : List (Str × PyData)} {S S' : Str → Prop} (h : NumD kvs S) (e : ∀ w, S w ↔ S' w) : NumD kvs S' :=
 ⟨h.nd, fun kv m => ⟨(e _).mp (h.val kv m).1, (h.val kv m).2⟩, fun w hw => h.has w ((e w).mpr hw)⟩
theorem row_NumD : ∀ (r : Row) {kvs : List (Str × PyData)} {S : Str → Prop}, NumD kvs S → (∀ p ∈ r, p.2 = numF p.1) → NumD (r.foldl (fun kvs p => Mine.put kvs p.1 (.int p.2)) kvs) (fun u => S u ∨ ∃ p ∈ r, p.1 = u)
 | [], kvs, S, h, _ => h.iff fun w => ⟨.inl, fun q => q.elim id fun ⟨_, m, _⟩ => absurd m List.not_mem_nil⟩
 | p :: r, kvs, S, h, hr => (row_NumD r (h.put (hr p (.head _))) fun q m => hr q (.tail _ m)).iff fun w => by
  constructor
  ·rintro ((q | q) | ⟨p', m, e⟩)
   ·exact .inl q
   ·exact .inr ⟨p, .head _, q.symm⟩
   ·exact .inr ⟨p', .tail _ m, e⟩
  ·rintro (q | ⟨p', m, e⟩)
   ·exact .inl (.inl q)
   ·rcases List.mem_cons.mp m with rfl | m
    ·exact .inl (.inr e.symm)
    ·exact .inr ⟨p', m, e⟩
theorem book_NumD : ∀ (b : Book) {kvs : List (Str × PyData)} {S : Str → Prop}, NumD kvs S → (∀ kv ∈ b, ∀ p ∈ kv.2, p.2 = numF p.1) → NumD (b.foldl (fun kvs kv => kv.2.foldl (fun kvs p => Mine.put kvs p.1 (.int p.2)) kvs) kvs) (fun u => S u ∨ inB b u)
 | [], kvs, S, h, _ => h.iff fun w => ⟨.inl, fun q => q.elim id fun ⟨_, m, _⟩ => absurd m List.not_mem_nil⟩
 | kv :: b, kvs, S, h, hr => (book_NumD b (row_NumD kv.2 h (hr kv (.head _))) fun q m => hr q (.tail _ m)).iff fun w => by
  constructor
  ·rintro ((q | ⟨p, m, e⟩) | ⟨kv', m, q⟩)
   ·exact .inl q
   ·exact .inr ⟨kv, .head _, p, m, e⟩
   ·exact .inr ⟨kv', .tail _ m, q⟩
  ·rintro (q | ⟨kv', m, q⟩)
   ·exact .inl (.inl q)
   ·rcases List.mem_cons.mp m with rfl | m
    ·exact .inl (.inr q)
    ·exact .inr ⟨kv', m, q⟩
theorem stock_NumD {b : Book} (B : Bk b) : NumD (stockKv b) (inB b) := by
 rw [stock_fold]
 exact (book_NumD b (kvs := []) (S := fun _ => False) ⟨List.nodup_nil, fun kv m => absurd m List.not_mem_nil, fun w q => q.elim⟩ fun kv m p hp => (B.row kv m p hp).2.2.1).iff fun w => ⟨fun q => q.elim (fun q => q.elim) id, .inr⟩
theorem numOf_eq {b : Book} (B : Bk b) (w : Str) : numOf b w = .int (numW b w) := by
 have D := stock_NumD B
 unfold numOf numW
 split
 ·rename_i h
  rw [mem_at D.nd (D.has w h)]; rfl
 ·rename_i h
  cases e : at? (stockKv b) w with
  | none => rfl
  | some r => exact absurd (D.val _ (at_mem e)).1 h
theorem maxI_all {l : List Int} : ∀ n, n < l.length → ∀ j, j ≤ n → l.getD j 0 ≤ l.getD (bestOf (fun i j => decide (l.getD j 0 < l.getD i 0)) n) 0
 | 0, _, j, hj => by
  have : j = 0 := by omega
  subst this
  exact Int.le_refl _
 | n + 1, hn, j, hj => by
  have ih := maxI_all n (Nat.lt_of_succ_lt hn)
  unfold bestOf
  split
  ·rename_i hg
   have hg := of_decide_eq_true hg
   rcases Nat.lt_or_ge n j with q | q
   ·have : j = n + 1 := by omega
    subst this
    exact Int.le_refl _
   ·have := ih j q
    omega
  ·rename_i hg
   have hg : ¬ _ := fun q => hg (decide_eq_true q)
   rcases Nat.lt_or_ge n j with q | q
   ·have : j = n + 1 := by omega
    subst this
    omega
   ·exact ih j q
theorem maxI_max {l : List Int} {a : Int} (h : a ∈ l) : a ≤ maxI l := by
 obtain ⟨j, hj, e⟩ := List.getElem_of_mem h
 have := maxI_all (l := l) (l.length - 1) (by omega) j (by omega)
 rw [List.getD_eq_getElem?_getD, List.getElem?_eq_getElem hj, Option.getD_some, e] at this
 exact this
theorem maxI_mem {l : List Int} (h : l ≠ []) : maxI l ∈ l := by
 have hp := List.length_pos_iff.mpr h
 exact getD_mem (Nat.lt_of_le_of_lt (bestOf_le _ _) (by omega))
theorem mem_lens {kvs : List (Str × PyData)} {x : Str} {k : Nat} {a : Int} : a ∈ lensAt kvs x k ↔ a = 1 ∨ ∃ kv ∈ kvs, fits x k kv.1 = true ∧ a = (kv.1.length : Int) := by
 unfold lensAt
 rw [List.mem_append, List.mem_singleton, List.mem_map]
 constructor
 ·rintro (h | ⟨w, hw, e⟩)
  ·exact .inl h
  ·obtain ⟨h1, h2⟩ := List.mem_filter.mp hw
   obtain ⟨kv, hkv, rfl⟩ := List.mem_map.mp h1
   exact .inr ⟨kv, hkv, h2, e.symm⟩
 ·rintro (h | ⟨kv, hkv, hf, e⟩)
  ·exact .inl h
  ·exact .inr ⟨kv.1, List.mem_filter.mpr ⟨List.mem_map.mpr ⟨kv, hkv, rfl⟩, hf⟩, e.symm⟩
theorem max_len {b : Book} (B : Bk b) (x : Str) (k : Nat) : (maxI (lensAt (stockKv b) x k)).toNat = L.bestL (wsOf b) ((L.lst x).drop k) := by
 have D := stock_NumD B
 have h1 : 1 ≤ maxI (lensAt (stockKv b) x k) := maxI_max (mem_lens.mpr (.inl rfl))
 refine (L.bestL_eq (by omega) (fun w hw hpre => ?_) ?_).symm
 ·obtain ⟨y, hy, rfl⟩ := List.mem_map.mp hw
  have := maxI_max (mem_lens.mpr (.inr ⟨_, D.has y (mem_words.mp hy), fits_iff.mpr hpre, rfl⟩))
  rw [lst_len]
  have : (y.length : Int) ≤ _ := this
  omega
 ·rcases mem_lens.mp (maxI_mem (l := lensAt (stockKv b) x k) (by unfold lensAt; simp)) with h | ⟨kv, hkv, hf, h⟩
  ·exact .inl (by rw [h]; rfl)
  ·exact .inr ⟨_, List.mem_map.mpr ⟨kv.1, mem_words.mpr (D.val kv hkv).1, rfl⟩, fits_iff.mp hf, by rw [h, lst_len]; rfl⟩
theorem plain_tok {b : Book} (B : Bk b) {x : Str} {t : Tk} (h : t ∈ tokens b x) : plainAt (stockKv b) x t.1 = t.2.1 ∧ numOf b t.2.1 = .int t.2.2 := by
 obtain ⟨h1, h2, h3⟩ := tokens_num B h
 refine ⟨?_, by rw [numOf_eq B, h1]⟩
 unfold plainAt
 rw [max_len B, ← best_len B]
 exact h3.symm
namespace L
theorem map_lst_inj : ∀ {l l' : List Str}, l.map lst = l'.map lst → l = l'
 | [], [], _ => rfl
 | [], b :: l', h => by cases h
 | a :: l, [], h => by cases h
 | a :: l, b :: l', h => by
  rw [List.map_cons, List.map_cons] at h
  injection h with h1 h2
  rw [lst_inj h1, map_lst_inj h2]
theorem join_ch : ∀ {ps : List T} {c : Nat}, c ∈ joinL ps → c = 32 ∨ c = 61 ∨ ∃ p ∈ ps, c ∈ p
 | [], c, h => by cases h
 | [p], c, h => .inr (.inr ⟨p, .head _, h⟩)
 | p :: q :: r, c, h => by
  have h : c ∈ p ++ ([32, 61, 32] ++ joinL (q :: r)) := h
  rcases List.mem_append.mp h with h | h
  ·exact .inr (.inr ⟨p, .head _, h⟩)
  ·rcases List.mem_append.mp h with h | h
   ·simp at h
    rcases h with h | h | h
    ·exact .inl h
    ·exact .inr (.inl h)
    ·exact .inl h
   ·rcases join_ch (ps := q :: r) h with h | h | ⟨p', m, h⟩
    ·exact .inl h
    ·exact .inr (.inl h)
    ·exact .inr (.inr ⟨p', .tail _ m, h⟩)
theorem join_len {M : Nat} : ∀ {ps : List T}, (∀ p ∈ ps, p.length ≤ M) → (joinL ps).length ≤ ps.length * (M + 3)
 | [], _ => Nat.zero_le _
 | [p], h => by
  have : (joinL [p]).length ≤ M := h p (.head _)
  rw [List.length_singleton, Nat.one_mul]
  omega
 | p :: q :: r, h => by
  have h1 := h p (.head _)
  have h2 := join_len (M := M) (ps := q :: r) fun x m => h x (.tail _ m)
  have e : joinL (p :: q :: r) = p ++ ([32, 61, 32] ++ joinL (q :: r)) := rfl
  rw [e, List.length_append, List.length_append, List.length_cons (a := p), Nat.succ_mul]
  have : ([32, 61, 32] : List Nat).length = 3 := rfl
  omega
theorem segs_two {r : T} (h : 61 ∈ r) : ∃ p q t, segs r = p :: q :: t := by
 obtain ⟨a, b, e, hn, _⟩ := cut61 h
 obtain ⟨s, ss, es⟩ := segs_ne b
 exact ⟨a ++ [], s, ss, by rw [e, segs_stem hn (segs_eq b), es]⟩
end L
structure In (b : Book) (x : Str) : Prop where
 B : Bk b
 C : Cl b
 F : Few b 38
 K : ∀ kv ∈ b, Ok kv.1
 hl : x.length ≤ 200
 hc : ∀ c ∈ L.lst x, c < 128 ∧ Unicode.isSpace c = blank c
 eq : 61 ∈ L.lst x
variable {b : Book} {x : Str}
theorem In.pe (I : In b x) : (peeled x).map L.lst = (L.segs (L.lst x)).map L.trim := L.peeled_eq (fun c m => (I.hc c m).2) I.eq
theorem In.se : spansOf x = L.spotsAt (L.segs (L.lst x)) 0 := L.spans_eq _
theorem In.part (I : In b x) {p : Str} (h : p ∈ peeled x) : ∃ s ∈ L.segs (L.lst x), L.lst p = L.trim s := by
 have : L.lst p ∈ (peeled x).map L.lst := List.mem_map.mpr ⟨p, h, rfl⟩
 rw [I.pe] at this
 obtain ⟨s, m, e⟩ := List.mem_map.mp this
 exact ⟨s, m, e.symm⟩
theorem In.pch (I : In b x) {p : Str} (h : p ∈ peeled x) {c : Nat} (m : c ∈ L.lst p) : c ∈ L.lst x ∧ c ≠ 61 := by
 obtain ⟨s, hs, e⟩ := I.part h
 rw [e] at m
 exact (L.segs_le _ s hs).2 c (L.trim_sub m)
theorem In.plen (I : In b x) {p : Str} (h : p ∈ peeled x) : p.length ≤ 200 := by
 obtain ⟨s, hs, e⟩ := I.part h
 have h1 := L.trim_len s
 have h2 := (L.segs_le _ s hs).1
 rw [← e, lst_len] at h1
 rw [lst_len] at h2
 exact Nat.le_trans h1 (Nat.le_trans h2 I.hl)
theorem In.pn (I : In b x) : (peeled x).length = (L.segs (L.lst x)).length := by
 have := congrArg List.length I.pe
 rwa [List.length_map, List.length_map] at this
theorem In.sc (I : In b x) : (L.segs (L.lst x)).length ≤ 201 := by
 have := L.segs_count (L.lst x)
 rw [lst_len] at this
 have := I.hl
 omega
end Mine
namespace Mine
open PySem PySem.W PySem.Calls PySem.Spec PyProof.Rows
variable {b : Book} {x : Str}
noncomputable def mkT (b : Book) (t : Nat × L.T) : Tk := (t.1, ⟨t.2.toArray⟩, numW b ⟨t.2.toArray⟩)
theorem mk_tk {t : Tk} (h : t.2.2 = numW b t.2.1) : mkT b (tkL t) = t := by
 obtain ⟨k, w, n⟩ := t
 have h : n = numW b w := h
 subst h
 rfl
theorem mk_all {ts : List Tk} (h : ∀ t ∈ ts, t.2.2 = numW b t.2.1) : (ts.map tkL).map (mkT b) = ts := by
 rw [List.map_map]
 conv => rhs; rw [← List.map_id ts]
 exact List.map_congr_left fun t m => mk_tk (h t m)
noncomputable def bareK (b : Book) (t : Tk) : Tk := (t.1, rs t.2.1, numW b (rs t.2.1))
theorem bare_enc (B : Bk b) : bareOf b x = (((tokens b x).filter bareTest).map (bareK b)).map encT := by
 unfold bareOf
 rw [List.map_map]
 refine List.map_congr_left fun t _ => ?_
 unfold bareD
 rw [numOf_eq B]
 rfl
theorem bare_tk (ts : List Tk) : ((ts.filter bareTest).map (bareK b)).map tkL = L.bare (ts.map tkL) := by
 unfold L.bare
 rw [List.filter_map, List.map_map, List.map_map]
 have e : bareTest = (fun t : Nat × L.T => !(L.stem t.2).isEmpty) ∘ tkL := funext fun t => by
  show (rs t.2.1 != "") = !(L.stem (L.lst t.2.1)).isEmpty
  rw [← L.rchars_is]
  by_cases h : rs t.2.1 = ""
  ·have h1 : (rs t.2.1 != ("" : Str)) = false := by rw [h]; exact bne_self_eq_false _
   rw [h1, show Txt.rstripChars t.2.1 "=" = "" from h]; rfl
  ·have h1 : (rs t.2.1 != "") = true := by simpa using h
   have h2 : L.lst (rs t.2.1) ≠ [] := fun q => h (lst_nil q)
   rw [h1]
   cases e : L.lst (rs t.2.1) with
   | nil => exact absurd e h2
   | cons _ _ => rfl
 rw [e]
 refine List.map_congr_left fun t _ => ?_
 show (t.1, L.lst (rs t.2.1)) = (t.1, L.stem (L.lst t.2.1))
 rw [← L.rchars_is]
theorem cut_tk (B : Bk b) (q : Str × List Nat) : (cutOf b q).map tkL = L.cutL (wsOf b) (L.lst q.1, q.2) := by
 unfold cutOf L.cutL
 rw [← tokens_scan B, List.map_map, List.map_map]
 rfl
theorem cut_num (B : Bk b) : ∀ t ∈ (cutsOf b x).flatten, t.2.2 = numW b t.2.1 := fun t h => by
 obtain ⟨l, hl, ht⟩ := List.mem_flatten.mp h
 obtain ⟨q, _, rfl⟩ := List.mem_map.mp hl
 obtain ⟨u, hu, rfl⟩ := List.mem_map.mp ht
 exact (tokens_num B hu).1
theorem In.t2b (I : In b x) : (cutsOf b x).flatten.map encT = bareOf b x := by
 rw [bare_enc I.B]
 congr 1
 rw [← mk_all (cut_num I.B), ← mk_all (b := b) (ts := ((tokens b x).filter bareTest).map (bareK b)) fun t h => by
  obtain ⟨u, _, rfl⟩ := List.mem_map.mp h
  rfl]
 congr 1
 have W := ws_ok I.B I.C
 rw [bare_tk, tokens_scan I.B, L.bare_segs W _ _ _ (Nat.le_refl _), ← L.cuts_segs W, List.map_flatten]
 congr 1
 unfold cutsOf
 rw [← I.pe, ← In.se, List.map_map, List.zip_map_left, List.map_map]
 exact List.map_congr_left fun q _ => cut_tk I.B q
theorem In.t3 (I : In b x) : peeled x = (spansOf x).map (pieceOf x) := by
 refine L.map_lst_inj ?_
 have p := L.pieces (L.segs (L.lst x)) []
 rw [L.unsegs_segs, List.nil_append] at p
 rw [I.pe, In.se, p, List.map_map]
 refine List.map_congr_left fun q _ => ?_
 show L.pieceL (L.lst x) q = L.lst (pieceOf x q)
 unfold L.pieceL pieceOf
 split
 ·rfl
 ·rfl
theorem In.t4b (I : In b x) : ∀ p ∈ peeled x, peeled p = [p] := fun p h => L.peeled_one fun m => (I.pch h m).2 rfl
theorem In.t4a (I : In b x) : peeled (Txt.join " = " (peeled x)) = peeled x := by
 refine L.map_lst_inj ?_
 have ej : L.lst (Txt.join " = " (peeled x)) = L.joinL ((peeled x).map L.lst) := L.lst_join _
 have all : ∀ p ∈ (peeled x).map L.lst, 61 ∉ p ∧ L.trim p = p := fun p h => by
  obtain ⟨y, hy, rfl⟩ := List.mem_map.mp h
  obtain ⟨s, _, e⟩ := I.part hy
  exact ⟨fun m => (I.pch hy m).2 rfl, by rw [e, L.trim_trim]⟩
 obtain ⟨p, q, t, es⟩ := L.segs_two I.eq
 have e2 : (peeled x).map L.lst = L.trim p :: L.trim q :: t.map L.trim := by rw [I.pe, es]; rfl
 rw [L.peeled_eq (fun c m => ?_) (by rw [ej, e2]; exact L.join_mem), ej, L.join_segs _ (by rw [e2]; simp) all]
 rw [ej] at m
 rcases L.join_ch m with rfl | rfl | ⟨y, hy, m⟩
 ·decide +kernel
 ·decide +kernel
 ·obtain ⟨z, hz, rfl⟩ := List.mem_map.mp hy
  exact (I.hc c (I.pch hz m).1).2
theorem In.ne (I : In b x) : ∀ q ∈ (peeled x).zip (spansOf x), tokens b q.1 ≠ [] → q.2 ≠ [] := fun q h ht => by
 have m : (L.lst q.1, q.2) ∈ ((L.segs (L.lst x)).map L.trim).zip (L.spotsAt (L.segs (L.lst x)) 0) := by
  rw [← I.pe, ← In.se, List.zip_map_left]
  exact List.mem_map.mpr ⟨q, h, rfl⟩
 refine L.cut_ne _ _ _ m fun e => ht ?_
 have := tokens_scan I.B q.1
 rw [show L.lst q.1 = [] from e] at this
 exact List.map_eq_nil_iff.mp this
theorem In.jl (I : In b x) : (Txt.join " = " (peeled x)).length ≤ 1000000 := by
 rw [← lst_len, L.lst_join]
 refine Nat.le_trans (L.join_len (M := 200) fun p h => ?_) ?_
 ·obtain ⟨y, hy, rfl⟩ := List.mem_map.mp h
  rw [lst_len]; exact I.plen hy
 ·rw [List.length_map, I.pn]
  have := I.sc
  omega
theorem ok_of {y : Str} (h1 : y.length ≤ 2000) (h2 : ∀ c ∈ L.lst y, c < 128) : Ok y := ⟨h1, h2⟩
theorem ok_one {w : Str} (h : w ∈ ones51) : Ok w := ⟨Nat.le_trans (one_ok h).len (by decide), fun c m => ((one_ok h).asc c m).1⟩
theorem In.stn (I : In b x) : (stockKv b).length ≤ 2000 := by
 refine Nat.le_trans (puts2_len _ _ _ 38 _ fun i hi => ?_) ?_
 ·exact I.F.2 _ (getD_mem hi)
 ·have := I.F.1
  omega
theorem In.spt {sp : List Nat} (h : sp ∈ spansOf x) : ∃ s ∈ L.segs (L.lst x), ∃ j, sp = (L.spot s).map (j + ·) := L.mem_spotsAt _ 0 _ (by rw [← In.se]; exact h)
theorem In.good (I : In b x) : Good b x where
 bl := I.F.1
 few := I.F
 ent := fun kv h p hp => (one_ok (I.B.row kv h p hp).2.2.2.2.2).len
 stn := I.stn
 stl := fun kv h => (one_ok (I.B.one ((stock_NumD I.B).val kv h).1).2.2.2).len
 okb := fun kv h => ⟨I.K kv h, fun p hp => ok_one (I.B.row kv h p hp).2.2.2.2.2⟩
 xz := Nat.le_trans I.hl (by decide)
 okx := ⟨Nat.le_trans I.hl (by decide), fun c m => (I.hc c m).1⟩
 t1 := fun t h => plain_tok I.B h
 okp := fun p h => ⟨Nat.le_trans (I.plen h) (by decide), fun c m => (I.hc c (I.pch h m).1).1⟩
 px := fun p h => Nat.le_trans (I.plen h) (by decide)
 pn := by rw [I.pn]; exact Nat.le_trans I.sc (by decide)
 sn := by rw [In.se, L.spotsAt_len]; exact Nat.le_trans I.sc (by decide)
 sl := fun sp h => by
  obtain ⟨s, hs, j, rfl⟩ := In.spt h
  rw [List.length_map]
  have h1 := L.spot_len s
  have h2 := (L.segs_le _ s hs).1
  rw [lst_len] at h2
  have := I.hl
  omega
 so := fun sp h => by
  obtain ⟨s, hs, j, rfl⟩ := In.spt h
  exact L.spot_order s j
 ne := I.ne
 t2a := by rw [I.pn, In.se, L.spotsAt_len]
 t2b := I.t2b
 t3 := I.t3
 jl := I.jl
 t4a := I.t4a
 t4b := I.t4b
end Mine
namespace Mine
open PySem PySem.W PySem.Calls PySem.Spec PyProof.Rows
noncomputable def okCh (c : Nat) : Bool := decide (c < 128) && (Unicode.isSpace c == blank c)
theorem okCh_is {c : Nat} (h : okCh c = true) : c < 128 ∧ Unicode.isSpace c = blank c := by
 unfold okCh at h
 rw [Bool.and_eq_true, beq_iff_eq] at h
 exact ⟨of_decide_eq_true h.1, h.2⟩
theorem w51_ch : W51.all (fun w => (L.lst w).all okCh) = true := by decide +kernel
theorem m55_ch : M55.all (fun w => (L.lst w).all okCh) = true := by decide +kernel
noncomputable def tailS : Str := " <<==aa !=BB= =**=$$7 \t"
theorem tail_ch : (L.lst tailS).all okCh = true := by decide +kernel
theorem tail_61 : 61 ∈ L.lst tailS := by decide +kernel
theorem tail_len : tailS.length ≤ 40 := by decide +kernel
theorem app_lst (x y : Str) : L.lst (x ++ y) = L.lst x ++ L.lst y := by
 show (x.cps ++ y.cps).toList = _
 exact Array.toList_append
theorem draws_lst (dr : List Nat) : L.lst (Txt.join "" (dr.map fun n => w51 n ++ m55 n)) = dr.flatMap fun n => L.lst (w51 n) ++ L.lst (m55 n) := by
 refine (join_empty _).trans ?_
 rw [List.flatMap_map]
 exact congrArg (fun f => List.flatMap f dr) (funext fun n => app_lst (w51 n) (m55 n))
theorem line_lst (dr : List Nat) : L.lst (lineOf dr) = (dr.flatMap fun n => L.lst (w51 n) ++ L.lst (m55 n)) ++ L.lst tailS := by
 rw [← draws_lst]
 exact app_lst _ tailS
theorem line_ch (dr : List Nat) : ∀ c ∈ L.lst (lineOf dr), c < 128 ∧ Unicode.isSpace c = blank c := fun c m => by
 rw [line_lst] at m
 rcases List.mem_append.mp m with m | m
 ·obtain ⟨n, _, m⟩ := List.mem_flatMap.mp m
  rcases List.mem_append.mp m with m | m
  ·exact okCh_is (List.all_eq_true.mp (List.all_eq_true.mp w51_ch _ (w51_mem n)) c m)
  ·exact okCh_is (List.all_eq_true.mp (List.all_eq_true.mp m55_ch _ (m55_mem n)) c m)
 ·exact okCh_is (List.all_eq_true.mp tail_ch c m)
theorem line_61 (dr : List Nat) : 61 ∈ L.lst (lineOf dr) := by
 rw [line_lst]; exact List.mem_append_right _ tail_61
theorem draws_len : ∀ dr : List Nat, (dr.flatMap fun n => L.lst (w51 n) ++ L.lst (m55 n)).length ≤ dr.length * 16
 | [] => Nat.zero_le _
 | n :: dr => by
  have h1 := w51_le n
  have h2 := m55_le n
  have ih := draws_len dr
  rw [List.flatMap_cons, List.length_append, List.length_append, List.length_cons, lst_len, lst_len]
  omega
theorem line_len (dr : List Nat) (h : dr.length ≤ 10) : (lineOf dr).length ≤ 200 := by
 have h1 := draws_len dr
 have h2 := tail_len
 rw [← lst_len, line_lst, List.length_append, lst_len]
 omega
theorem key_step {b : Book} {stop : Int} {i : Nat} {one : Str} (h : ∀ kv ∈ b, ∃ w ∈ ones51, kv.1 = headOf w) (ho : one ∈ ones51) : ∀ kv ∈ dueStep stop numF i b one, ∃ w ∈ ones51, kv.1 = headOf w := fun kv m => by
 unfold dueStep at m
 split at m
 ·rcases mem_put m with rfl | ⟨m, _⟩
  ·exact ⟨one, ho, rfl⟩
  ·exact h kv m
 ·exact h kv m
theorem key_due {puts : List Str} (h : ∀ p ∈ puts, p ∈ W51) (stop : Int) : ∀ n, n ≤ puts.length → ∀ kv ∈ dueTo puts stop numF n, ∃ w ∈ ones51, kv.1 = headOf w
 | 0, _ => fun kv m => absurd m List.not_mem_nil
 | n + 1, hn => by
  have ih := key_due h stop n (Nat.le_of_succ_le hn)
  have hp := h _ (getD_mem (d := ("" : Str)) hn)
  rw [dueTo_succ]
  exact key_step (key_step ih (ones_in hp (.head _))) (ones_in hp (.tail _ (.head _)))
theorem ok_head {w : Str} (h : w ∈ ones51) : Ok (headOf w) := by
 refine ⟨by show 1 ≤ 2000; decide, fun c m => ?_⟩
 have m : c ∈ [(L.lst w).getD 0 0] := m
 rw [List.mem_singleton.mp m]
 cases e : L.lst w with
 | nil => show 0 < 128; decide
 | cons a r => exact ((one_ok h).asc a (by rw [e]; exact .head _)).1
theorem plain_in (xs : List Int) : In (duB (drOf xs)) (lineOf (drOf xs)) where
 B := (book_Bk _).1
 C := (book_Bk _).2
 F := by
  have f := few_due (puts := putsOf (drOf xs)) (stop := (stopOf (drOf xs) : Nat)) (num := numF) (putsOf (drOf xs)).length
  have hl := putsOf_len (drOf xs)
  have hd := drOf_len xs
  exact ⟨Nat.le_trans f.1 (by omega), fun kv m => Nat.le_trans (f.2 kv m) (by omega)⟩
 K := fun kv m => by
  obtain ⟨w, hw, e⟩ := key_due (puts_51 _) _ _ (Nat.le_refl _) kv m
  rw [e]; exact ok_head hw
 hl := line_len _ (drOf_len xs)
 hc := line_ch _
 eq := line_61 _
theorem plain_law (xs : List Int) : ixB (drOf xs) = duB (drOf xs) ∧ Good (duB (drOf xs)) (lineOf (drOf xs)) := ⟨ix_due _, (plain_in xs).good⟩
end Mine
set_option maxHeartbeats 4000000 in
theorem PySem.Challenge.cw_in0016_01_holds : PySem.Challenge.rw_in0016_01.Holds :=
 Mine.law_holds Mine.plain_law
