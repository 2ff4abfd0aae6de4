import PyProof.Rows.All
import Wide.All
import OpenK.AllK
import Wide.FinOn
import PySem.Challenge.RW_fh0007_01
open PySem PySem.W PyProof.Rows
set_option Elab.async false
set_option rowWalk.seconds 0
section
open PySem PySem.W PyProof.Rows PySem.Calls
set_option Elab.async false
set_option maxRecDepth 100000
set_option maxHeartbeats 8000000
namespace Mine

/-- a running code that may hold a bytearray while it decodes -/
def decoder (c : Code) : Bool := match c with
  | .builtin id _ => PySem.Builtin.Bytes.decodersThatHold.contains id
  | _ => false
/-- no decoder is running -/
def Clean (Γ : Ctx) : Prop := decoder Γ.code = false ∧ ∀ c ∈ Γ.below, decoder c.1 = false
/-- as wpAny, where no decoder is running -/
def wpN {α : Type} (M : Model) (A : Around) (t : Sem α) (Q : α → Shared → Prop) (E : Value → Shared → Prop) (s : Shared) : Prop :=
  ∀ Γ p, Γ.In A → Clean Γ → Sem.wp M Γ t (fun a _ s' => Q a s') (fun e _ s' => E e s') p s
def codeN (M : Model) (A : Around) (c : Code) (R : Result → Shared → Prop) (s : Shared) : Prop :=
  ∀ Γ p, Γ.code = c → Γ.Below A → Clean Γ → wpCode M Γ R p s
theorem Clean.enter {Γ : Ctx} {c : Code} {h : Option Value} {p : Pos} (x : Clean Γ) (hc : decoder c = false) : Clean (Γ.enter c h p) := by
  refine ⟨hc, fun d hd => ?_⟩
  rcases List.mem_cons.mp hd with rfl | hd
  · exact x.1
  · exact x.2 d hd
theorem Clean.goto {Γ : Ctx} {c : Code} (x : Clean Γ) (hc : decoder c = false) : Clean (Γ.goto c) := ⟨hc, x.2⟩
section
variable {α β : Type} {M : Model} {A : Around} {E : Value → Shared → Prop} {s : Shared}
theorem wpN_of {t : Sem α} {Q : α → Shared → Prop} (h : wpAny M A t Q E s) : wpN M A t Q E s := fun Γ p hΓ _ => h Γ p hΓ
theorem codeN_of {c : Code} {R : Result → Shared → Prop} (h : codeAny M A c R s) : codeN M A c R s := fun Γ p hc hΓ _ => h Γ p hc hΓ
theorem wpN_pure {a : α} {Q : α → Shared → Prop} (h : Q a s) : wpN M A (pure a) Q E s := fun _ _ _ _ => h
theorem wpN_mono {t : Sem α} {Q Q' : α → Shared → Prop} {E' : Value → Shared → Prop} (h : wpN M A t Q E s) (hQ : ∀ a s, Q a s → Q' a s) (hE : ∀ e s, E e s → E' e s) : wpN M A t Q' E' s :=
  fun Γ p hΓ hc => Sem.wp_mono M Γ t (fun a _ s => hQ a s) (fun e _ s => hE e s) p s (h Γ p hΓ hc)
theorem wpN_bind {m : Sem α} {f : α → Sem β} {Q : β → Shared → Prop} (h : wpN M A m (fun a s' => wpN M A (f a) Q E s') E s) : wpN M A (m >>= f) Q E s := fun Γ p hΓ hc => by
  rw [Sem.wp_bind']
  exact Sem.wp_mono M Γ m (fun a p' s' h' => h' Γ p' hΓ hc) (fun _ _ _ h' => h') p s (h Γ p hΓ hc)
/-- a first step by wpAny -/
theorem wpN_step {m : Sem α} {f : α → Sem β} {Q : β → Shared → Prop} (h : wpAny M A m (fun a s' => wpN M A (f a) Q E s') E s) : wpN M A (m >>= f) Q E s := wpN_bind (wpN_of h)
theorem wpN_tryCatch {m : Sem α} {k : Value → Sem α} {Q : α → Shared → Prop} (h : wpN M A m Q (fun e s' => wpN M A (k e) Q E s') s) : wpN M A (tryCatch m k) Q E s := fun Γ p hΓ hc => by
  rw [Sem.wp_tryCatch']
  exact Sem.wp_mono M Γ m (fun _ _ _ h' => h') (fun e p' s' h' => h' Γ p' hΓ hc) p s (h Γ p hΓ hc)
theorem wpN_onRaise {m : Sem α} {k : Value → Sem Unit} {Q : α → Shared → Prop} (h : wpN M A m Q (fun e s' => wpN M A (k e) (fun _ s'' => E e s'') E s') s) : wpN M A (m.onRaise k) Q E s := fun Γ p hΓ hc => by
  rw [Sem.wp_onRaise]
  exact Sem.wp_mono M Γ m (fun _ _ _ h' => h') (fun e p' s' h' => h' Γ p' hΓ hc) p s (h Γ p hΓ hc)
theorem wpN_attempt {m : Sem α} {Q : Except Value α → Shared → Prop} (h : wpN M A m (fun a => Q (.ok a)) (fun e => Q (.error e)) s) : wpN M A m.attempt Q E s := fun Γ p hΓ hc => by rw [Sem.wp_attempt]; exact h Γ p hΓ hc
theorem wpN_holding {vs : List Value} {m : Sem α} {Q : α → Shared → Prop} (h : wpN M A m Q E s) : wpN M A (holding vs m) Q E s := fun Γ p hΓ hc => by rw [Sem.wp_holding]; exact h Γ p hΓ hc
theorem codeN_mono {c : Code} {R R' : Result → Shared → Prop} (h : codeN M A c R s) (hR : ∀ r s, R r s → R' r s) : codeN M A c R' s := fun Γ p hc hΓ hk => wpCode_mono hR (h Γ p hc hΓ hk)
theorem wpN_runValue {c : Code} {Q : Value → Shared → Prop} (hd : decoder c = false)
    (hc : codeN M A c (fun r s' => match r with | .ok (.ret v) => Q v s' | .ok _ => False | .error e => E e s') s) :
    wpN M A (runValue c) Q E s := fun Γ p hΓ hk => by rw [Sem.wp_runValue]; exact hc _ p rfl (hΓ.enter c none p (by intro x; cases x)) (hk.enter hd)
theorem wpN_run {c : Code} {h : Option Value} {Q : Flow → Shared → Prop} (hd : decoder c = false)
    (hc : codeN M (A.mark h) c (fun r s' => match r with | .ok f => Q f s' | .error e => E e s') s) (hnb : h ≠ some byPass := by intro x; cases x) :
    wpN M A (run c h) Q E s := fun Γ p hΓ hk => by rw [Sem.wp_run]; exact hc _ p rfl (hΓ.enter c h p hnb) (hk.enter hd)
theorem wpN_call {f : Value} {pos : List Value} {kw : List (Str × Value)} {Q : Value → Shared → Prop}
    (hc : codeN M A (.call f ⟨pos, kw⟩) (fun r s' => match r with | .ok (.ret v) => Q v s' | .ok _ => False | .error e => E e s') s) :
    wpN M A (call f pos kw) Q E s := wpN_runValue rfl hc
theorem codeN_of_tree {c : Code} {R : Result → Shared → Prop}
    (h : wpN M (A.under c) (M.den c) (fun fin s' => match fin with | .done f => R (.ok f) s' | .again c' => c'.quiet = true ∧ decoder c' = false ∧ codeN M A c' R s')
      (fun e s' => R (.error e) s') s) : codeN M A c R s := fun Γ p hc hΓ hk => by
  rw [wpCode_iff_wp, hc]
  refine Sem.wp_mono M Γ _ (fun fin p' s' h' => ?_) (fun _ _ _ h' => h') p s (h Γ p (hc ▸ hΓ.in) hk)
  cases fin with
  | done f => exact h'
  | again c' => exact ⟨h'.1, h'.2.2 (Γ.goto c') p' rfl (hΓ.goto c') (hk.goto h'.2.1)⟩
/-- what asks the stack for a decoder that holds an object hears no -/
theorem wpN_stackAny {f : Code × Pos → Bool} {g : List Code} {Q : Bool → Shared → Prop} (hg : A.guards = some g) (hf : ∀ c p, c.isGuard = false → decoder c = false → f (c, p) = false) (hno : ∀ c ∈ g, ∀ p, f (c, p) = false) (h : Q false s) : wpN M A (do return (← stack).any f) Q E s := fun Γ p hΓ hk => by
  show Q (((Γ.code, p) :: Γ.below).any f) s
  have e : ((Γ.code, p) :: Γ.below).any f = false := by
    rw [List.any_eq_false]
    intro x hx
    have hd : decoder x.1 = false := by
      rcases List.mem_cons.mp hx with rfl | hx
      · exact hk.1
      · exact hk.2 x hx
    cases hgd : x.1.isGuard with
    | false => rw [show f x = f (x.1, x.2) from rfl, hf x.1 x.2 hgd hd]; exact Bool.false_ne_true
    | true =>
      have hm : x.1 ∈ Γ.code.guards ++ guardsOf Γ.below := by
        rw [← guardsOf_cons Γ.code p]
        exact List.mem_filter.mpr ⟨List.mem_map.mpr ⟨x, hx, rfl⟩, hgd⟩
      rw [hΓ.2.2.2.1 g hg] at hm
      rw [show f x = f (x.1, x.2) from rfl, hno x.1 hm x.2]; exact Bool.false_ne_true
  rw [e]; exact h
end
end Mine

end
section
open PySem PySem.W PyProof.Rows PySem.Calls
set_option Elab.async false
set_option maxRecDepth 100000
set_option maxHeartbeats 8000000
namespace Mine
abbrev ctx0 : Ctx := ⟨.builtin "claim.caller" {}, none, none, [], none⟩
theorem clean0 : Clean ctx0 := ⟨by decide +kernel, fun _ h => absurd h List.not_mem_nil⟩
theorem endsN {prog : Program} {w : World} {t : Sem Fin} {s : Shared} {R : Result → Shared → Prop} (hreg : s.asleep)
    (h : wpN (model prog w) callerA t (fun fin s' => ∃ f, fin = .done f ∧ (R (.ok f) s' ∧ leftWithCleanup s'.gens = false)) (fun e s' => R (.error e) s' ∧ leftWithCleanup s'.gens = false) s) :
    ∃ n r s' s'', runN (denote table) prog w n s ⟨t, .builtin "claim.caller" {}, default, []⟩ = .halted (outcomeOf r) s' ∧
      schedN (denote table) prog w n (.single s ⟨t, .builtin "claim.caller" {}, default, []⟩) = .halted (outcomeOf r) s' ∧ s'.forget = s''.forget ∧ R r s'' := by
  have h' : Sem.wp (model prog w) ctx0 t (Sem.finPost (model prog w) ctx0 (fun r s' => R r s' ∧ leftWithCleanup s'.gens = false)) (fun e _ s' => R (.error e) s' ∧ leftWithCleanup s'.gens = false) default s :=
    Sem.wp_mono _ _ t (fun fin p' s' h' => by obtain ⟨f, rfl, hf⟩ := h'; exact hf) (fun _ _ _ h' => h') default s (h ctx0 default caller_in clean0)
  obtain ⟨n, r, s₁, s₂, hs, hn, hfo, hR⟩ := wp_halts_full (M := model prog w) (R := R) hreg h'
  exact ⟨n, r, s₂, s₁, hn, hs, hfo, hR⟩
theorem specN {c : ClaimW} {tree : List Value → Sem Fin} {w : World} {s : Shared} {free : Addr → Prop} {gens : Prop} {kept : Heap → Prop} (hz : s.asleep) (hgens : s.gens = #[])
    (hspec : ∀ args, c.pre args = true → WData.layableAll args = true →
      ∀ ord : List DictEntry → List DictEntry, (∀ l, (ord l).Perm l) →
      ∃ vs s₁, layAllW c.records (classAt s.heap) w.params ord args s = some (vs, s₁) ∧
        wpN (model c.prog w) callerA (tree vs) (fun fin s' => ∃ f, fin = .done f ∧ (c.Ends s args vs s₁ (.ok f) s' ∧ s'.os = s.os ∧ AllBare s'.gens ∧ kept s'.heap))
          (fun e s' => c.Ends s args vs s₁ (.error e) s' ∧ s'.os = s.os ∧ AllBare s'.gens ∧ kept s'.heap) s₁) :
    c.CallFrom (fun vs => ⟨tree vs, .builtin "claim.caller" {}, default, []⟩) w free gens kept s := by
  intro args hpre hlay ord hord
  obtain ⟨vs, s₁, hlaid, hcode⟩ := hspec args hpre hlay ord hord
  have hal := layAllW_rest _ _ _ hlaid
  obtain ⟨k, r, s', s'', hrun, hsched, hfo, hcase, hos, hkp⟩ := endsN (prog := c.prog) (w := w) (t := tree vs) (s := s₁)
    (R := fun r s' => c.Ends s args vs s₁ r s' ∧ s'.os = s.os ∧ kept s'.heap) (Shared.asleep_of_life hal.2.2.2 hz)
    (wpN_mono hcode (fun fin s' ⟨f, e, h1, h2, h3, h4⟩ => ⟨f, e, ⟨h1, h2, h4⟩, leftWithCleanup_false_of_bare h3⟩) fun e s' ⟨h1, h2, h3, h4⟩ => ⟨⟨h1, h2, h4⟩, leftWithCleanup_false_of_bare h3⟩)
  obtain ⟨eh, _, _, eo, _⟩ := Shared.forget_eq hfo
  have hcase := hcase.congr eh
  have hkp : kept s'.heap := by first | exact eh ▸ hkp | (rw [eh] at hkp; exact hkp) | (rw [← eh] at hkp; exact hkp)
  rw [← eo] at hos
  have hlife : s'.heap.life = s.heap.life := (runN_life _ _ _ hrun).trans hal.2.2.2
  refine ⟨vs, s₁, hlaid, k, _, s', hsched, ?_, (fun _ i x hx => by rw [hgens] at hx; simp at hx), hkp, by rw [hlife], Shared.rest_eq hos⟩
  rcases hcase with ⟨v, rfl, d1, d2, d3, d4, d5⟩ | ⟨e, ob, cls, rfl, d1, d2, d3, d4, d5⟩
  · exact .inl ⟨v, rfl, d1, d2, d3, fun b o y _ => d4 b o y, d5⟩
  · exact .inr ⟨e, ob, cls, rfl, d1, d2, d3, d4, fun b o y _ => d5 b o y⟩
end Mine

end
section
open PySem PySem.W PyProof.Rows PySem.Calls
set_option Elab.async false
set_option maxRecDepth 100000
set_option maxHeartbeats 8000000
namespace Mine
abbrev WalkT (q : Program) (loose : List Str) (XP : (Str → Option Value) → Heap → Prop) (YP : World → Heap → Prop) (r : RowW) (d : DefRec) (kwd : List (Str × Expr)) (run : Value → List Value → Sem Value) : Prop :=
  ∀ (w : World) (s₀ s₁ : Shared) (mg mb : Str → Option Value), Ground q loose r.records XP w s₀ mg mb s₁.heap → YP w s₁.heap → ∀ (a : Addr) (o : Obj) (pm cd doc dV kV : Value), s₁.heap.get? a = some o →
    o.data = .func { docDef d.name d.params d.body d.scope pm cd doc with defaults := dV, kwdefaults := kV } → s₁.heap.CodeRec cd d.name → Dflts mg s₁.heap d.params kwd dV kV → mg d.name = some (.ref a) → s₁.gens = #[] →
    ∀ (args : List WData) (vals : List Value) (as : List Addr), r.claim.pre args = true → WData.layableAll args = true → ReadsAllW r.records (classAt s₀.heap) s₁.heap vals args as → WellAll w.params s₁.heap vals args → (∀ a ∈ as, (a == sysModules) = false) →
      wpN (model r.prog w) callerA (run (.ref a) vals) (fun v s' => GoodWG r.claim (classAt s₀.heap) (ExcName.means s₀.heap) args s₁ (.ok (.ret v)) s')
        (fun e s' => GoodWG r.claim (classAt s₀.heap) (ExcName.means s₀.heap) args s₁ (.error e) s') s₁
theorem openN {r : RowW} {tree : List Value → Sem Fin} {run : Value → List Value → Sem Value} {q : Program} {loose defs kps : List Str} {writes : Bool} {Xt : Shared → Bool} {XP : (Str → Option Value) → Heap → Prop} {α : Type} {Yf : Shared → α} {Ya : World → α} {YP : World → Heap → Prop} {N : Nat}
    (left : LeftO r.prog q loose Xt Yf Ya N) (hY : ∀ w s, Yf s = Ya w → YP w s.heap) (hYk : ∀ w h h', YP w h → (∀ b o, h.get? b = some o → h'.get? b = some o) → YP w h') (hX : ∀ s, Xt s = true → XP (s.heap.nsMap mainGlobals) s.heap) (hXk : ∀ mg h h', XP mg h → (∀ b o, h.get? b = some o → h'.get? b = some o) → XP mg h')
    (hRf : ∀ s, Xt s = true → RecFacts r.records s.heap) (hwr : (!writes || r.records.isEmpty) = true) (ok : (chainsOk q && opensWell r.prog && (frees r && r.within.isEmpty)) = true) (hb : r.prog.bare) (hw : r.promised)
    (ht : ∀ vs (w : World) (s : Shared) mg f (Q : Fin → Shared → Prop) (E : Value → Shared → Prop), s.heap.Ns mainGlobals mg → mg r.name = some f → wpN (model r.prog w) callerA (run f vs) (fun v s' => Q (.done (.ret v)) s') E s → wpN (model r.prog w) callerA (tree vs) Q E s)
    (pin : ∀ w s, s.heap.isNs mainGlobals = true → Ground q loose [] XP w s (s.heap.nsMap mainGlobals) (s.heap.nsMap builtinsNs) s.heap → ∀ n ∈ defs, isTheDefsW r.prog s.heap n)
    (call : ∀ (w : World) (s₀ s₁ : Shared) (mg mb : Str → Option Value), Ground q loose r.records XP w s₀ mg mb s₁.heap → YP w s₁.heap → ∀ (args : List WData) (vs : List Value) (as : List Addr),
      r.claim.pre args = true → WData.layableAll args = true → Laid r.records w s₀ s₁ args vs as → sysModules < s₀.heap.objs.size → ∃ f, mg r.name = some f ∧
        wpN (model r.prog w) callerA (run f vs) (fun v s' => GoodWG r.claim (classAt s₀.heap) (ExcName.means s₀.heap) args s₁ (.ok (.ret v)) s')
          (fun e s' => GoodWG r.claim (classAt s₀.heap) (ExcName.means s₀.heap) args s₁ (.error e) s') s₁) : r.claim.HoldsOpenBy (fun vs => ⟨tree vs, .builtin "claim.caller" {}, default, []⟩) defs kps writes := by
  obtain ⟨ok, k5⟩ := Bool.and_eq_true_iff.mp ok
  obtain ⟨hch, o1⟩ := Bool.and_eq_true_iff.mp ok
  obtain ⟨k5, k6⟩ := Bool.and_eq_true_iff.mp k5
  obtain ⟨hsame, hu, ha, hap, hm⟩ := frees_parts k5
  refine ⟨⟨hb, o1, by show r.makers.map _ = []; rw [hm]; rfl⟩, hw.witness, fun w => ⟨(left.behind hX hch w).1, fun s' hs' => ?_⟩⟩
  obtain ⟨s₀, hf, hg0, s, hT, hz, hgens, hg, G00, y⟩ := (left.behind (XP := fun mg h => XP mg h ∧ RecFacts r.records h) (fun s hs => ⟨hX s hs, hRf s hs⟩) hch w).2 s' hs'
  have G0 : Ground q loose [] XP w s (s.heap.nsMap mainGlobals) (s.heap.nsMap builtinsNs) s.heap := ⟨G00.T, G00.B, G00.D, G00.TE, G00.TD, G00.W, G00.X.1, G00.cls, G00.has, G00.apart, G00.once, G00.K⟩
  have RF := G00.X.2
  have hT' := hT
  refine ⟨s₀, hf, hg0, s, hT, pin w s hg G0, RF.1, RF.2.1, ?_⟩
  have hgens : s.gens = #[] := Array.eq_empty_of_size_eq_zero (beq_iff_eq.mp hgens)
  have G : Ground q loose r.records XP w s _ _ s.heap := RF.ground G0
  refine specN (c := r.claim) hz hgens fun args hpre hlay ord hord => ?_
  obtain ⟨⟨vs, s₁⟩, hlaid⟩ := Option.isSome_iff_exists.mp (layAllW_isSome (P := w.params) (ord := ord) G.has args r.args s (pre_splitW hpre).1)
  have keeps := layAllW_keeps _ _ _ hlaid
  have hal := layAllW_rest _ _ _ hlaid
  obtain ⟨as, hrd, hin, hold⟩ := reads_layAllW hord _ _ _ hlaid hlay s₁.heap (fun _ _ e => e)
  have L : Laid r.records w s s₁ args vs as := ⟨⟨ord, hord, hlaid⟩, hrd, hin, hold, keeps, hal.1.trans hgens, hal.2.2.1⟩
  have G₁ := G.keeps hXk keeps
  obtain ⟨f, hf, h⟩ := call w s s₁ _ _ G₁ (hYk _ _ _ (hY w s y) keeps) args vs as hpre hlay L G.low
  have hi := ident_freeW hu ha hap
  have hwi : r.claim.within = [] := List.isEmpty_iff.mp k6
  exact ⟨vs, s₁, hlaid, ht vs w s₁ _ f _ _ G₁.T.g hf (wpN_mono h (fun v s' g => ⟨_, rfl, have z := g.laid (c := r.claim) hsame hwi hi L; ⟨z.1, z.2.1, z.2.2, fun q => ⟨namesKept_of hT' hg kps keeps g.2.1.old, noTable hwr q⟩⟩⟩) fun e s' g => have z := g.laid (c := r.claim) hsame hwi hi L; ⟨z.1, z.2.1, z.2.2, fun q => ⟨namesKept_of hT' hg kps keeps g.2.1.old, noTable hwr q⟩⟩)⟩
theorem PySem.W.holds_open {r : OpenRow} {q : Program} {loose : List Str} {Xt : Shared → Bool} {XP : (Str → Option Value) → Heap → Prop} {α : Type} {Yf : Shared → α} {Ya : World → α} {YP : World → Heap → Prop} {d : DefRec} {kwd : List (Str × Expr)} {N : Nat}
    (left : LeftO r.prog q loose Xt Yf Ya N) (hY : ∀ w s, Yf s = Ya w → YP w s.heap) (hYk : ∀ w h h', YP w h → (∀ b o, h.get? b = some o → h'.get? b = some o) → YP w h')
    (hX : ∀ s, Xt s = true → XP (s.heap.nsMap mainGlobals) s.heap) (hXk : ∀ mg h h', XP mg h → (∀ b o, h.get? b = some o → h'.get? b = some o) → XP mg h')
    (hdef : defOf q r.name = some (d, kwd)) (hp : r.prog.theDef r.name = some (d.params, d.body, d.scope)) (hk : kwWritten? d.params.kwonlyargs d.params.kw_defaults = some kwd) (hRf : ∀ s, Xt s = true → RecFacts r.records s.heap) (hwr : (!r.writes || r.records.isEmpty) = true)
    (k1 : r.wellSaid = true) (ok : (chainsOk q && opensWell r.prog && (frees r.toRowW && r.within.isEmpty)) = true) (hb : r.prog.bare) (hw : r.toRowW.promised)
    (call : WalkT q loose XP YP r.toRowW d kwd fun f vs => _root_.PySem.call f vs) : r.Holds := by
  refine ⟨k1, hw, openN (r := r.toRowW) (run := fun f vs => _root_.PySem.call f vs) (tree := fun vs => do match ← nsGet mainNs r.name with
      | some f => do ret (← _root_.PySem.call f vs)
      | none => unsupported "claim.caller:no-such-global") left hY hYk hX hXk hRf hwr ok hb hw
    (fun vs w s mg f Q E hg hf h => wpN_step (wpAny_nsGet hg (by rw [hf]; exact wpN_bind (wpN_mono h (fun _ _ x => wpN_pure x) fun _ _ x => x))))
    (fun w s hg G n hn => ?_) fun w s₀ s₁ mg mb G Y args vs as hpre hlay L low => ?_⟩
  · obtain rfl : n = r.name := by split at hn <;> simp_all
    exact pinned_of_view hg G hdef hp hk
  · obtain ⟨a, o, pm, cd, doc, dV, kV, h1, h2, h3, h4, h5⟩ := G.fn hdef
    exact ⟨.ref a, h1, call w s₀ s₁ mg mb G Y a o pm cd doc dV kV h2 h3 h4 h5 (defOf_name hdef ▸ h1) L.gens args vs as hpre hlay L.reads L.well (L.low low)⟩
end Mine

end
section
open PySem PySem.W PyProof.Rows
set_option Elab.async false
set_option maxRecDepth 100000
set_option maxHeartbeats 8000000
namespace Mine
open_top hd for PySem.Challenge.rw_fh0007_01
end Mine

end
section
open PySem PySem.W PyProof.Rows PySem.Calls
set_option Elab.async false
set_option maxRecDepth 100000
set_option maxHeartbeats 8000000
namespace Mine
abbrev pg : Program := PySem.Challenge.rw_fh0007_01.row.prog

theorem room_le {α : Type} {M : Model} {A : Around} {E : Value → Shared → Prop} {s : Shared} {t : Sem α} {Q : α → Shared → Prop} {d u : Nat} (hd : A.depth ≤ d) (hu : A.units ≤ u) (h : wpAny M { A with depth := d, units := u } t Q E s) : wpAny M A t Q E s :=
  fun Γ p hΓ => h Γ p ⟨hΓ.1, Nat.le_trans hΓ.2.1 hd, hΓ.2.2.1, hΓ.2.2.2.1, Nat.le_trans hΓ.2.2.2.2 hu⟩

theorem off1_of {a : Addr} : ∀ {l : List (Addr × Obj)}, (∀ p ∈ l, p.1 ≠ a) → LCg.Off1 a l
  | [], _ => trivial
  | p :: _, h => ⟨h p (.head _), off1_of fun q hq => h q (.tail _ hq)⟩
theorem off1_mem {a : Addr} : ∀ {l : List (Addr × Obj)}, LCg.Off1 a l → ∀ p ∈ l, p.1 ≠ a
  | [], _, _, h => nomatch h
  | _ :: _, h, p, hp => by
    rcases List.mem_cons.mp hp with rfl | hp
    · exact h.1
    · exact off1_mem h.2 p hp
theorem off1_lt {a : Addr} {l : List (Addr × Obj)} (h : ∀ p ∈ l, p.1 < a) : LCg.Off1 a l := off1_of fun p hp => Nat.ne_of_lt (h p hp)
/-- a contract: from any frame (no deeper than `dp`, `un`), `call f vs` comes back with `r`, the ledger grown by `nl` -/
def Ctr (w : World) (dp un : Nat) (f : Value) (vs : List Value) (need : List (Addr × Obj)) (R : Value → List (Addr × Obj) → Prop) : Prop :=
  ∀ (mean : ExcName → Option Value) (mg mb : Str → Option Value) (gd : Option (List Code)) (cn : Str) (cs : Scope) (a : Addr) (ccd : Value) (cl : List (Str × Addr)) (outer : List Env) (A₀ : Around) (base h₀ : Heap) (L : Addr) (m : Str → Option Value) (news : List (Addr × Obj)) (s : Shared)
    (Q E : Value → Shared → Prop), cs.kind = .function →
    Below A₀ base outer h₀ → Fr h₀ L s.heap m → (Mine.hd.heap_39 w.params).In h₀ → News h₀ L s.heap news → Top Mine.hd.view_39 (looseW Mine.hd.view_39 []) mean mg mb h₀ →
    (∀ p ∈ need, p ∈ news) →
    (∀ r nl h' tk', Fr h₀ L h' m → News h₀ L h' (nl ++ news) → (∀ p ∈ news, ∀ q ∈ nl, p.1 ≠ q.1) → R r nl → Q r { s with heap := h', toks := tk' }) →
    wpAny (model pg w) (ktrTop dp un gd cn cs L a ccd cl outer) (call f vs) Q E s

section
variable {w : World} {f : Value} {vs : List Value} {need : List (Addr × Obj)} {R : Value → List (Addr × Obj) → Prop}
  {mean : ExcName → Option Value} {mg mb : Str → Option Value} {d u dp un : Nat} {gd : Option (List Code)} {cn : Str} {cs : Scope} {a : Addr} {ccd : Value} {cl : List (Str × Addr)} {outer : List Env} {A₀ : Around} {base h₀ : Heap} {L : Addr} {m : Str → Option Value} {news : List (Addr × Obj)} {s : Shared}
    {Q E : Value → Shared → Prop}
theorem Ctr.use (C : Ctr w dp un f vs need R) (B : Below A₀ base outer h₀) (F : Fr h₀ L s.heap m) (X : (Mine.hd.heap_39 w.params).In h₀) (N : News h₀ L s.heap news) (T : Top Mine.hd.view_39 (looseW Mine.hd.view_39 []) mean mg mb h₀) (hk : cs.kind = .function)
    (hn : ∀ p ∈ need, p ∈ news) (hd : d ≤ dp) (hu : u ≤ un)
    (ret : ∀ r nl h' tk', Fr h₀ L h' m → News h₀ L h' (nl ++ news) → (∀ p ∈ news, ∀ q ∈ nl, p.1 ≠ q.1) → R r nl → Q r { s with heap := h', toks := tk' }) :
    wpAny (model pg w) (ktrTop d u gd cn cs L a ccd cl outer) (call f vs) Q E s := room_le (d := dp) (u := un) hd hu (C _ _ _ _ _ _ _ _ _ _ _ _ _ _ _ _ _ _ _ hk B F X N T hn ret)
/-- a value by itself comes back, nothing new that anybody asks for -/
theorem Ctr.useV {V : Value → Prop} (C : Ctr w dp un f vs need (fun r nl => nl = [] ∧ V r)) (B : Below A₀ base outer h₀) (F : Fr h₀ L s.heap m) (X : (Mine.hd.heap_39 w.params).In h₀) (N : News h₀ L s.heap news) (T : Top Mine.hd.view_39 (looseW Mine.hd.view_39 []) mean mg mb h₀) (hk : cs.kind = .function)
    (hn : ∀ p ∈ need, p ∈ news) (hd : d ≤ dp) (hu : u ≤ un)
    (ret : ∀ r h' tk', Fr h₀ L h' m → News h₀ L h' news → V r → Q r { s with heap := h', toks := tk' }) :
    wpAny (model pg w) (ktrTop d u gd cn cs L a ccd cl outer) (call f vs) Q E s := C.use B F X N T hk hn hd hu fun r nl h' tk' F' N' _ hr => by
  obtain ⟨rfl, hv⟩ := hr
  exact ret r h' tk' F' N' hv
/-- one new object comes back -/
theorem Ctr.useO {O : Obj → Prop} (C : Ctr w dp un f vs need (fun r nl => ∃ a o, nl = [(a, o)] ∧ r = .ref a ∧ O o)) (B : Below A₀ base outer h₀) (F : Fr h₀ L s.heap m) (X : (Mine.hd.heap_39 w.params).In h₀) (N : News h₀ L s.heap news) (T : Top Mine.hd.view_39 (looseW Mine.hd.view_39 []) mean mg mb h₀) (hk : cs.kind = .function)
    (hn : ∀ p ∈ need, p ∈ news) (hd : d ≤ dp) (hu : u ≤ un)
    (ret : ∀ a o h' tk', Fr h₀ L h' m → News h₀ L h' ((a, o) :: news) → LCg.Off1 a news → O o → Q (.ref a) { s with heap := h', toks := tk' }) :
    wpAny (model pg w) (ktrTop d u gd cn cs L a ccd cl outer) (call f vs) Q E s := C.use B F X N T hk hn hd hu fun r nl h' tk' F' N' hl hr => by
  obtain ⟨a, o, rfl, rfl, ho⟩ := hr
  exact ret a o h' tk' F' N' (off1_of fun p hp => hl p hp _ (.head _)) ho
end

theorem News.of_sub {h₀ h : Heap} {L : Addr} {news led : List (Addr × Obj)} (N : PyProof.Rows.News h₀ L h news) (hs : ∀ p ∈ led, p ∈ news) : PyProof.Rows.News h₀ L h led := fun p hp => N p (hs p hp)
theorem nl_nil {news : List (Addr × Obj)} : ∀ p ∈ news, ∀ q ∈ ([] : List (Addr × Obj)), p.1 ≠ q.1 := fun _ _ _ h => nomatch h
theorem nl_one {news : List (Addr × Obj)} {a : Addr} {o : Obj} (h : LCg.Off1 a news) : ∀ p ∈ news, ∀ q ∈ [(a, o)], p.1 ≠ q.1 := fun p hp q hq => by
  rw [List.mem_singleton.mp hq]; exact off1_mem h p hp
theorem no_need {news : List (Addr × Obj)} : ∀ p ∈ ([] : List (Addr × Obj)), p ∈ news := fun _ h => nomatch h
theorem need_one {news : List (Addr × Obj)} {a : Addr × Obj} (h : a ∈ news) : ∀ p ∈ [a], p ∈ news := fun _ hp => (List.mem_singleton.mp hp) ▸ h

theorem ne_lt1 {news : List (Addr × Obj)} {d : Addr} (h : ∀ p ∈ news, p.1 < d) : ∀ p ∈ news, p.1 ≠ d := fun p hp => Nat.ne_of_lt (h p hp)
theorem ne_lt2 {news : List (Addr × Obj)} {d : Addr} (h : ∀ p ∈ news, p.1 < d) : ∀ p ∈ news, p.1 ≠ d + 1 := fun p hp => Nat.ne_of_lt (Nat.lt_succ_of_lt (h p hp))
theorem ne_lt4 {news : List (Addr × Obj)} {d : Addr} (h : LCg.Off1 d news) : ∀ p ∈ news, p.1 ≠ d := off1_mem h
theorem ne_lt3 {news : List (Addr × Obj)} {d : Addr} (h : AllLt d news) : ∀ p ∈ news, p.1 ≠ d := fun p hp => Nat.ne_of_lt (ktn_ltOf h p hp)

theorem ne_lt5 {news : List (Addr × Obj)} {d x : Addr} (l : d < x) (h : AllLt d news) : ∀ p ∈ news, p.1 ≠ x := fun p hp => Nat.ne_of_lt (Nat.lt_trans (ktn_ltOf h p hp) l)
theorem ne_lt6 {news : List (Addr × Obj)} {d x : Addr} (l : d < x) (h : ∀ p ∈ news, p.1 < d) : ∀ p ∈ news, p.1 ≠ x := fun p hp => Nat.ne_of_lt (Nat.lt_trans (h p hp) l)
/-- the values are bytes, these -/
def BytesAre : List Value → List (Array UInt8) → Prop
  | [], [] => True
  | v :: vs, b :: bs => (∃ t, v = .bytes b t) ∧ BytesAre vs bs
  | _, _ => False
theorem BytesAre.length : ∀ {vs : List Value} {bs : List (Array UInt8)}, BytesAre vs bs → vs.length = bs.length
  | [], [], _ => rfl
  | _ :: _, _ :: _, h => congrArg (· + 1) (BytesAre.length h.2)
  | [], _ :: _, h => h.elim
  | _ :: _, [], h => h.elim

/-- what the law builds: one to four octets, each an ASCII one that is neither a point nor a backslash -/
def OctOk (k : Int) : Prop := 0 ≤ k ∧ k < 128 ∧ k ≠ 46 ∧ k ≠ 92
def WordOk (b : Array UInt8) : Prop := 0 < (KBw.bInts b).length ∧ (KBw.bInts b).length ≤ 4 ∧ ∀ k ∈ KBw.bInts b, OctOk k

def octetZ (n : Int) : Int := n + (if n > 45 then 1 else 0) + (if n > 90 then 1 else 0)
end Mine

end
section
open PySem PySem.W PyProof.Rows PySem.Calls
set_option Elab.async false
set_option maxRecDepth 100000
set_option maxHeartbeats 8000000
namespace Mine
open PyProof.Rows.LCg

/-- `pyIter xv` gives an iterator that hands out n values as P says, as long as S holds of the ledger -/
def IterG (prog : Program) (w : World) (A : Around) (h₀ : Heap) (L : Addr) (S : List (Addr × Obj) → Prop) (n : Nat) (P : Nat → Value → Prop) (xv : Value) (s₁ : Shared) : Prop :=
  ∀ (Q : Value → Shared → Prop) (E : Value → Shared → Prop),
    (∀ (I : Addr) (fp : List Addr) (St : Nat → Heap → Prop) (h' : Heap) (tk : Nat), Walks prog w A I fp [I] n P St → (∀ i h, St i h → ∃ o, h.get? I = some o) →
      (∀ i h h' o nw, St i h → h.get? I = some o → h'.get? I = some o → (∀ b o, h₀.get? b = some o → h'.get? b = some o) → News h₀ L h' nw → S nw → St i h') →
      St 0 h' → (∀ b ∈ fp, b < h'.objs.size) → (∀ b ∈ fp, b ≠ I → ∃ o, s₁.heap.get? b = some o) → (∀ b o, s₁.heap.get? b = some o → h'.get? b = some o) → s₁.heap.objs.size ≤ I → Q (.ref I) { s₁ with heap := h', toks := tk }) →
    wpAny (model prog w) A (pyIter xv) Q E s₁

theorem size_none {h : Heap} {a : Addr} (ha : h.objs.size ≤ a) : h.get? a = none := by
  cases e : h.get? a with
  | none => rfl
  | some o' => exact absurd (Heap.lt_size e) (Nat.not_lt.mpr ha)
theorem base_none {h₀ h : Heap} {L a : Addr} {m : Str → Option Value} (F : Fr h₀ L h m) (ha : h.objs.size ≤ a) : h₀.get? a = none := by
  cases e : h₀.get? a with
  | none => rfl
  | some o' => exact absurd (Heap.lt_size (F.keep _ _ e)) (Nat.not_lt.mpr ha)

section
variable {prog : Program} {w : World} {A : Around} {E : Value → Shared → Prop} {s : Shared} {h₀ : Heap} {L : Addr} {m : Str → Option Value} {env : Env}

/-- where a list comprehension's source stands -/
def SrcG (prog : Program) (w : World) (A : Around) (h₀ : Heap) (L : Addr) (m : Str → Option Value) (env : Env) (elt : Expr) (x : Str) (scope : Scope) (cl : List (Str × Addr)) (Fin : Shared → List Value → List (Addr × Obj) → Prop) (xv : Value) (s₁ : Shared) : Prop :=
  ∃ S n P news, Fr h₀ L s₁.heap m ∧ News h₀ L s₁.heap news ∧ n ≤ sizeLine ∧ S news ∧ IterG prog w A h₀ L S n P xv s₁ ∧
    ∀ s₂ : Shared, (∃ h tk, s₂ = { s₁ with heap := h, toks := tk }) → CompRest prog w A h₀ L m env elt x scope cl s₂ S P (Fin s₂) n 0 [] news

theorem ListComp_G {elt iter : Expr} {x : Str} {px : Pos} {scope : Scope} {cl : List (Str × Addr)} {pos : Pos} {Q : Value → Shared → Prop} (F₀ : Fr h₀ L s.heap m)
    (hclos : closureFor scope env = pure cl) (hcell : ∀ y ∈ scope.names, y.2 ≠ .cell) (hkind : scope.kind = .function)
    (hnames : ∀ y ∈ scope.names, y.2 = .local → scope.names.lookup y.1 = some .local) (hx : scope.names.lookup x = some .local)
    (h : wpAny (model prog w) A (eval iter env) (SrcG prog w A h₀ L m env elt x scope cl (fun s₂ => FinE h₀ L m s₂ Q)) E s)
    (hs : ∀ x, foldedSetIterable iter env x = pure x := by intro _; rfl) :
    wpAny (model prog w) A (eval (.ListComp elt [⟨.Name x px, iter, [], 0⟩] scope pos) env) Q E s := by
  rw [eval_ListComp]
  refine wpAny_comprehension_free (use := none) rfl hs hclos hkind hnames (wpAny_mono h (fun xv s₁ h₁ => ?_) fun _ _ e => e)
  obtain ⟨S, n, P, news, F, N, hsz, hS, hit, R⟩ := h₁
  refine hit _ _ fun I fp St h' tk W hIo hSt hst hfp hfp2 hk hI => ?_
  have F' : Fr h₀ L h' m := F.keeps hk
  have N' : News h₀ L h' news := N.grown hk
  refine block_U W hsz hIo hSt hcell hkind hx hst hfp F' N' (Nat.ne_of_lt (Nat.lt_of_lt_of_le F.ns.lt hI)) (base_none F hI) (fun p hp => Nat.ne_of_lt (Nat.lt_of_lt_of_le (Heap.lt_size (N p hp).1) hI)) hS (R _ ⟨_, _, rfl⟩) ?_
  intro D C h' tk m' ys news' F' N' o1 hn hC₀ hD₀ hCL hDL hCD offC fin
  refine ⟨m', hn, fun h'' hs'' => fin D h'' tk (F'.change hs'' hCL hC₀) (fun p hp => ?_) o1⟩
  refine ⟨hs''.extBut _ _ ?_ (N' p hp).1, (N' p hp).2⟩
  rcases List.mem_cons.mp hp with rfl | hp
  · exact Ne.symm hCD
  · exact offC p hp

theorem Assign_ListComp_G {elt iter : Expr} {x y : Str} {px py : Pos} {scope : Scope} {cl : List (Str × Addr)} {pos spos : Pos} {Q : Flow → Shared → Prop} (F₀ : Fr h₀ L s.heap m) (hLe : env.locals = L)
    (hsw : swapsWith (.ListComp elt [⟨.Name x px, iter, [], 0⟩] scope pos) (some (.Name y py)) spos.line env = pure true)
    (hclos : closureFor scope env = pure cl) (hcell : ∀ z ∈ scope.names, z.2 ≠ .cell) (hkind : scope.kind = .function)
    (hnames : ∀ z ∈ scope.names, z.2 = .local → scope.names.lookup z.1 = some .local) (hx : scope.names.lookup x = some .local)
    (hy : env.kindOf y = some .local) (hp : (env.scope.kind == .class || (env.scope.kind == .module && env.locals != env.globals)) = false)
    (h : wpAny (model prog w) A (eval iter env) (SrcG prog w A h₀ L m env elt x scope cl (fun s₂ => FinA h₀ L m s₂ y Q)) E s)
    (hs : ∀ x, foldedSetIterable iter env x = pure x := by intro _; rfl) :
    wpAny (model prog w) A (exec (.Assign [.Name y py] (.ListComp elt [⟨.Name x px, iter, [], 0⟩] scope pos) spos) env) Q E s := by
  subst hLe
  rw [exec_Assign_Name_used _ _ _ _ hsw]
  refine wpAny_bind (wpAny_standAt (wpAny_bind ?_))
  show wpAny _ A (do let _ ← comprehension (.ListComp elt [⟨.Name x px, iter, [], 0⟩] scope pos) scope env _ (newList []) false (eval iter env) (some (assign (.Name y py) env))) _ _ s
  refine wpAny_bind (wpAny_mono (wpAny_comprehension_free (use := some (assign (.Name y py) env)) (Q := fun _ s' => Q .next s') rfl hs hclos hkind hnames
    (wpAny_mono h (fun xv s₁ h₁ => ?_) fun _ _ e => e)) (fun _ s' hq => wpAny_pure (wpAny_pure hq)) fun _ _ e => e)
  obtain ⟨S, n, P, news, F, N, hsz, hS, hit, R⟩ := h₁
  refine hit _ _ fun I fp St h' tk W hIo hSt hst hfp hfp2 hk hI => ?_
  have F' : Fr h₀ env.locals h' m := F.keeps hk
  have N' : News h₀ env.locals h' news := N.grown hk
  refine block_U W hsz hIo hSt hcell hkind hx hst hfp F' N' (Nat.ne_of_lt (Nat.lt_of_lt_of_le F.ns.lt hI)) (base_none F hI) (fun p hp => Nat.ne_of_lt (Nat.lt_of_lt_of_le (Heap.lt_size (N p hp).1) hI)) hS (R _ ⟨_, _, rfl⟩) ?_
  intro D C h' tk m' ys news' F' N' o1 hn hC₀ hD₀ hCL hDL hCD offC fin
  show wpAny _ A (assign (.Name y py) env (.ref D)) _ _ _
  refine wpAny_assign_Name (wpAny_storeName_local hy F'.ns (fun h₂ hn₂ hs₂ => ?_) hp)
  have hL₀ : h₀.get? env.locals = none := Heap.get?_none_of_le F'.above
  have F₂ : Fr h₀ env.locals h₂ (fun z => if z = y then some (.ref D) else m z) := ⟨hn₂, fun b o e => hs₂.extBut b o (fun q => by rw [q, hL₀] at e; cases e) (F'.keep b o e), F'.above⟩
  refine ⟨m', hn.sameBut hs₂ hCL, fun h'' hs'' => fin D h'' _ (F₂.change hs'' hCL hC₀) (fun p hp => ?_) o1⟩
  have z : h₂.get? p.1 = some p.2 := hs₂.extBut _ _ (N' p hp).2.1 (N' p hp).1
  refine ⟨hs''.extBut _ _ ?_ z, (N' p hp).2⟩
  rcases List.mem_cons.mp hp with rfl | hp
  · exact Ne.symm hCD
  · exact offC p hp

/-- the turns of a comprehension by an invariant over the items made and the ledger -/
theorem rest_ind {elt : Expr} {x : Str} {scope : Scope} {cl : List (Str × Addr)} {S : List (Addr × Obj) → Prop} {P : Nat → Value → Prop} {Fin : List Value → List (Addr × Obj) → Prop} {n : Nat} (J : Nat → List Value → List (Addr × Obj) → Prop)
    (step : ∀ i ys news v I oI C oC D m₂ h tk (E' : Value → Shared → Prop), i < n → J i ys news → P i v → NsObj oC m₂ → m₂ x = some v → Fr h₀ L h m → News h₀ L h ((I, oI) :: (C, oC) :: (D, lst ys) :: news) → Off3 I C D news → ((@Ne Nat I C) ∧ (@Ne Nat I D) ∧ (@Ne Nat C D)) →
      wpAny (model prog w) A (eval elt (compEnvC scope cl C env)) (CompEnd h₀ L m { s with heap := h, toks := tk } I oI C oC D (lst ys) S (fun y news' => J (i + 1) (ys ++ [y]) news')) E' { s with heap := h, toks := tk })
    (fin : ∀ ys news, J n ys news → Fin ys news) : ∀ (k i : Nat) (ys : List Value) (news : List (Addr × Obj)), i + k = n → J i ys news → CompRest prog w A h₀ L m env elt x scope cl s S P Fin k i ys news
  | 0, i, ys, news, hi, hj => fin ys news (by rw [← hi]; exact hj)
  | k + 1, i, ys, news, hi, hj => by
    intro v I oI C oC D m₂ h tk E' hP hC hx F N off ne
    refine wpAny_mono (step i ys news v I oI C oC D m₂ h tk E' (by omega) hj hP hC hx F N off ne) (fun y s₂ hy => ?_) fun _ _ e => e
    obtain ⟨h', tk', news', rfl, F', N', off', hS', hj'⟩ := hy
    exact ⟨h', tk', news', rfl, F', N', off', hS', rest_ind J step fin k (i + 1) (ys ++ [y]) news' (by omega) hj'⟩

/-- the same, where an item is a value by itself and the ledger stays: G tells the item of the source's value -/
theorem rest_quiet {elt : Expr} {x : Str} {scope : Scope} {cl : List (Str × Addr)} {S : List (Addr × Obj) → Prop} {P : Nat → Value → Prop} {Fin : List Value → List (Addr × Obj) → Prop} {n : Nat} {news : List (Addr × Obj)} (G : Nat → Value → Prop) (hS : S news)
    (step : ∀ i v I oI C oC D ys m₂ h tk (E' : Value → Shared → Prop), i < n → P i v → NsObj oC m₂ → m₂ x = some v → Fr h₀ L h m → News h₀ L h ((I, oI) :: (C, oC) :: (D, lst ys) :: news) → Off3 I C D news → ((@Ne Nat I C) ∧ (@Ne Nat I D) ∧ (@Ne Nat C D)) →
      wpAny (model prog w) A (eval elt (compEnvC scope cl C env)) (CompEnd h₀ L m { s with heap := h, toks := tk } I oI C oC D (lst ys) S (fun y news' => news' = news ∧ G i y)) E' { s with heap := h, toks := tk })
    (fin : ∀ ys, ys.length = n → (∀ i y, ys[i]? = some y → G i y) → Fin ys news) : CompRest prog w A h₀ L m env elt x scope cl s S P Fin n 0 [] news := by
  refine rest_ind (fun i ys nw => nw = news ∧ ys.length = i ∧ ∀ j y, ys[j]? = some y → G j y) ?_ ?_ n 0 [] news (Nat.zero_add _) ⟨rfl, rfl, fun _ _ h => by simp at h⟩
  · rintro i ys nw v I oI C oC D m₂ h tk E' hi ⟨rfl, hl, hg⟩ hP hC hx F N off ne
    refine wpAny_mono (step i v I oI C oC D ys m₂ h tk E' hi hP hC hx F N off ne) (fun y s₂ hy => ?_) fun _ _ e => e
    obtain ⟨h', tk', news', rfl, F', N', off', hS', hn', hg'⟩ := hy
    refine ⟨h', tk', news', rfl, F', N', off', hS', hn', by simp [hl], fun j z hz => ?_⟩
    by_cases hj : j < ys.length
    · rw [List.getElem?_append_left hj] at hz
      exact hg j z hz
    · have hz' := (List.getElem?_eq_some_iff.mp hz).1
      simp only [List.length_append, List.length_cons, List.length_nil] at hz'
      obtain rfl : j = i := by omega
      rw [← hl, List.getElem?_append_right (Nat.le_refl _)] at hz
      simp at hz
      exact hz ▸ hg'
  · rintro ys nw ⟨rfl, hl, hg⟩
    exact fin ys hl hg

theorem end_quiet {S : List (Addr × Obj) → Prop} {I C D : Addr} {oI oC oD : Obj} {s₁ : Shared} {h' : Heap} {tk : Nat} {news : List (Addr × Obj)} {G : Value → Prop} {y : Value} (F : Fr h₀ L h' m) (N : News h₀ L h' ((I, oI) :: (C, oC) :: (D, oD) :: news)) (off : Off3 I C D news) (hS : S news) (g : G y) :
    CompEnd h₀ L m s₁ I oI C oC D oD S (fun y news' => news' = news ∧ G y) y { s₁ with heap := h', toks := tk } := ⟨h', tk, news, rfl, F, N, off, hS, rfl, g⟩

/-- an item that is a new object: it goes onto the ledger -/
theorem end_grow {S : List (Addr × Obj) → Prop} {I C D a : Addr} {oI oC oD o : Obj} {s₁ : Shared} {h' : Heap} {tk : Nat} {nw : List (Addr × Obj)} {J : Value → List (Addr × Obj) → Prop} {y : Value} (F : Fr h₀ L h' m) (N : News h₀ L h' ((a, o) :: (I, oI) :: (C, oC) :: (D, oD) :: nw)) (off : Off3 I C D nw) (ne : (@Ne Nat I a) ∧ (@Ne Nat C a) ∧ (@Ne Nat D a) ∧ Off1 a nw) (hS : S ((a, o) :: nw)) (g : J y ((a, o) :: nw)) :
    CompEnd h₀ L m s₁ I oI C oC D oD S J y { s₁ with heap := h', toks := tk } := by
  refine ⟨h', tk, (a, o) :: nw, rfl, F, fun p hp => N p ?_, ⟨⟨ne.1.symm, ne.2.1.symm, ne.2.2.1.symm⟩, off⟩, hS, g⟩
  simp only [List.mem_cons] at hp ⊢
  rcases hp with h | h | h | h | h
  · exact .inr (.inl h)
  · exact .inr (.inr (.inl h))
  · exact .inr (.inr (.inr (.inl h)))
  · exact .inl h
  · exact .inr (.inr (.inr (.inr h)))

/-- bytes -/
theorem iter_bytes (hh : A.handled = none) (b : Array UInt8) (t : Tok) : IterG prog w A h₀ L (fun _ => True) b.size (fun i v => ∃ c u, b[i]? = some c ∧ v = .int (c.toNat : Int) u) (.bytes b t) s := by
  intro Q E h
  refine KBw.pyIter_bytes ?_
  refine h _ _ _ _ _ (KBw.walks hh s.heap.objs.size b t) (fun i h st => ?_) (fun i h h' o nw st e e' _ _ _ => ?_) ⟨_, Heap.get?_push_size _ rfl, rfl, rfl⟩ (fun b hb => ?_) (fun b hb ne => absurd (List.mem_singleton.mp hb) ne) (fun b o e => Heap.get?_push_of_some _ e) (Nat.le_refl _)
  · obtain ⟨o, ho, _⟩ := st
    exact ⟨o, ho⟩
  · obtain ⟨o2, ho, r⟩ := st
    rw [e] at ho
    cases ho
    exact ⟨o, e', r⟩
  · rw [List.mem_singleton.mp hb]
    show s.heap.objs.size < (s.heap.push _).objs.size
    rw [Heap.size_push]
    exact Nat.lt_succ_self _
/-- a list of the ledger's (or of the base) -/
theorem iter_list (hh : A.handled = none) {ax : Addr} {its : Array Value} {news : List (Addr × Obj)} (F : Fr h₀ L s.heap m) (N : News h₀ L s.heap news) (S : SrcAt h₀ ax its news) : IterG prog w A h₀ L (SrcAt h₀ ax its) its.size (fun i v => its[i]? = some v) (.ref ax) s := by
  intro Q E h
  have hl := S.list F.keep N
  have hlt : ax < s.heap.objs.size := by obtain ⟨_, e, _⟩ := hl; exact Heap.lt_size e
  refine wpAny_pyIter_list hl ?_
  refine h _ _ _ _ _ (Walks.list hh s.heap.objs.size ax (Nat.ne_of_lt hlt) its) (fun i h st => by obtain ⟨o, e, _⟩ := st.1; exact ⟨o, e⟩) list_st ⟨⟨_, Heap.get?_push_size _ rfl, rfl, rfl⟩, hl.push _⟩ (fun b hb => ?_) (fun b hb ne => ?_) (fun b o e => Heap.get?_push_of_some _ e) (Nat.le_refl _)
  · show b < (s.heap.push _).objs.size
    rw [Heap.size_push]
    rcases List.mem_cons.mp hb with rfl | hb
    · exact Nat.lt_succ_self _
    · rw [List.mem_singleton.mp hb]; exact Nat.lt_succ_of_lt hlt
  · rcases List.mem_cons.mp hb with rfl | hb
    · exact absurd rfl ne
    · rw [List.mem_singleton.mp hb]
      obtain ⟨o, e, _⟩ := hl
      exact ⟨o, e⟩
def SrcTup (h₀ : Heap) (ax : Addr) (its : Array Value) (news : List (Addr × Obj)) : Prop := IsTup h₀ ax its ∨ ∃ o, (ax, o) ∈ news ∧ o.cls = .type "tuple" ∧ ∃ n, o.data = .seq its n
theorem SrcTup.tup {h : Heap} {ax : Addr} {its : Array Value} {news : List (Addr × Obj)} (x : SrcTup h₀ ax its news) (k : ∀ b o, h₀.get? b = some o → h.get? b = some o) (N : News h₀ L h news) : IsTup h ax its := by
  rcases x with ⟨o, e, r⟩ | ⟨o, hm, r⟩
  · exact ⟨o, k _ _ e, r⟩
  · exact ⟨o, (N _ hm).1, r⟩
/-- a tuple of the ledger's (or of the base) -/
theorem iter_tup (hh : A.handled = none) {ax : Addr} {its : Array Value} {news : List (Addr × Obj)} (F : Fr h₀ L s.heap m) (N : News h₀ L s.heap news) (S : SrcTup h₀ ax its news) : IterG prog w A h₀ L (SrcTup h₀ ax its) its.size (fun i v => its[i]? = some v) (.ref ax) s := by
  intro Q E h
  have hl : s.heap.IsTuple ax its := S.tup F.keep N
  have hlt : ax < s.heap.objs.size := by obtain ⟨_, e, _⟩ := hl; exact Heap.lt_size e
  refine wpAny_pyIter_tuple hl ?_
  refine h _ _ _ _ _ (Walks.tuple hh s.heap.objs.size ax (Nat.ne_of_lt hlt) its) (fun i h st => by obtain ⟨o, e, _⟩ := st.1; exact ⟨o, e⟩) (fun i h h' o nw st e e' k N S => ⟨by obtain ⟨o', q, r⟩ := st.1; rw [e] at q; cases q; exact ⟨o, e', r⟩, S.tup k N⟩) ⟨⟨_, Heap.get?_push_size _ rfl, rfl, rfl⟩, hl.push _⟩ (fun b hb => ?_) (fun b hb ne => ?_) (fun b o e => Heap.get?_push_of_some _ e) (Nat.le_refl _)
  · show b < (s.heap.push _).objs.size
    rw [Heap.size_push]
    rcases List.mem_cons.mp hb with rfl | hb
    · exact Nat.lt_succ_self _
    · rw [List.mem_singleton.mp hb]; exact Nat.lt_succ_of_lt hlt
  · rcases List.mem_cons.mp hb with rfl | hb
    · exact absurd rfl ne
    · rw [List.mem_singleton.mp hb]
      obtain ⟨o, e, _⟩ := hl
      exact ⟨o, e⟩
/-- a range by ones -/
theorem iter_range (hh : A.handled = none) {r : Addr} {a b : Int} {t u v : Tok} {n : Nat} (hr : IsRange s.heap r a b 1 t u v) (hsm : Builtin.Range.small a b 1 = true) (hn : Builtin.Range.rangeSize a b 1 = ((n : Nat) : Int)) :
    IterG prog w A h₀ L (fun _ => True) n (fun i v => ∃ t, v = .int (a + (i : Int)) t) (.ref r) s := by
  intro Q E h
  refine wpAny_pyIter_range hr hsm ?_
  refine h _ _ _ _ _ (range_walks hh a n) (fun i h st => ⟨_, st⟩) range_st (by show IsRangeIter _ _ _ _ _; rw [hn]; simpa using Heap.get?_push_size _ rfl) (fun b hb => ?_) (fun b hb ne => absurd (List.mem_singleton.mp hb) ne) (fun b o e => Heap.get?_push_of_some _ e) (Nat.le_refl _)
  rw [List.mem_singleton.mp hb]
  show s.heap.objs.size < (s.heap.push _).objs.size
  rw [Heap.size_push]; exact Nat.lt_succ_self _
theorem srcG_bytes {elt : Expr} {x : Str} {scope : Scope} {cl : List (Str × Addr)} {Fin : Shared → List Value → List (Addr × Obj) → Prop} {b : Array UInt8} {t : Tok} {news : List (Addr × Obj)} (hh : A.handled = none) (F : Fr h₀ L s.heap m) (N : News h₀ L s.heap news) (hz : b.size ≤ sizeLine)
    (h : ∀ g tk, CompRest prog w A h₀ L m env elt x scope cl { s with heap := g, toks := tk } (fun _ => True) (fun i v => ∃ c u, b[i]? = some c ∧ v = .int (c.toNat : Int) u) (Fin { s with heap := g, toks := tk }) b.size 0 [] news) :
    SrcG prog w A h₀ L m env elt x scope cl Fin (.bytes b t) s := ⟨_, _, _, news, F, N, hz, trivial, iter_bytes hh b t, by rintro s₂ ⟨g, tk, rfl⟩; exact h g tk⟩
theorem SrcAt.grow {ax : Addr} {its : Array Value} {nw : List (Addr × Obj)} {q : Addr × Obj} (h : SrcAt h₀ ax its nw) : SrcAt h₀ ax its (q :: nw) := h.imp id fun ⟨o, hm, r⟩ => ⟨o, List.mem_cons_of_mem _ hm, r⟩
theorem srcAt_mem {ax : Addr} {its : Array Value} {k : Nat} {nw : List (Addr × Obj)} (h : (ax, listOf its k) ∈ nw) : SrcAt h₀ ax its nw := .inr ⟨_, h, rfl, _, rfl⟩
theorem srcG_list {elt : Expr} {x : Str} {scope : Scope} {cl : List (Str × Addr)} {Fin : Shared → List Value → List (Addr × Obj) → Prop} {ax : Addr} {its : Array Value} {k : Nat} {news : List (Addr × Obj)} (hh : A.handled = none) (F : Fr h₀ L s.heap m) (N : News h₀ L s.heap news) (hm : (ax, listOf its k) ∈ news) (hz : its.size ≤ sizeLine)
    (h : ∀ g tk, CompRest prog w A h₀ L m env elt x scope cl { s with heap := g, toks := tk } (SrcAt h₀ ax its) (fun i v => its[i]? = some v) (Fin { s with heap := g, toks := tk }) its.size 0 [] news) :
    SrcG prog w A h₀ L m env elt x scope cl Fin (.ref ax) s :=
  have S : SrcAt h₀ ax its news := .inr ⟨_, hm, rfl, _, rfl⟩
  ⟨_, _, _, news, F, N, hz, S, iter_list hh F N S, by rintro s₂ ⟨g, tk, rfl⟩; exact h g tk⟩
theorem srcG_tup {elt : Expr} {x : Str} {scope : Scope} {cl : List (Str × Addr)} {Fin : Shared → List Value → List (Addr × Obj) → Prop} {ax : Addr} {its : Array Value} {o : Obj} {news : List (Addr × Obj)} (hh : A.handled = none) (F : Fr h₀ L s.heap m) (N : News h₀ L s.heap news) (hm : (ax, o) ∈ news) (hc : o.cls = .type "tuple") (hd : ∃ n, o.data = .seq its n) (hz : its.size ≤ sizeLine)
    (h : ∀ g tk, CompRest prog w A h₀ L m env elt x scope cl { s with heap := g, toks := tk } (SrcTup h₀ ax its) (fun i v => its[i]? = some v) (Fin { s with heap := g, toks := tk }) its.size 0 [] news) :
    SrcG prog w A h₀ L m env elt x scope cl Fin (.ref ax) s :=
  have S : SrcTup h₀ ax its news := .inr ⟨_, hm, hc, hd⟩
  ⟨_, _, _, news, F, N, hz, S, iter_tup hh F N S, by rintro s₂ ⟨g, tk, rfl⟩; exact h g tk⟩
end
section
variable {prog : Program} {w : World} {A : Around} {E : Value → Shared → Prop} {s : Shared} {h₀ : Heap} {env : Env}

/-- a turn's end: fallen through (or continued) with the invariant, or left by a break or a return -/
def TurnG (h₀ : Heap) (L : Addr) (S : List (Addr × Obj) → Prop) (J : (Str → Option Value) → List (Addr × Obj) → Prop) (I : Addr) (oI : Obj) (s₁ : Shared) (Q : Flow → Shared → Prop) (f : Flow) (s₂ : Shared) : Prop :=
  match f with
  | .ret v => Q (.ret v) s₂
  | .brk => Q .next s₂
  | _ => ∃ h' tk m' news', s₂ = { s₁ with heap := h', toks := tk } ∧ Fr h₀ L h' m' ∧ News h₀ L h' ((I, oI) :: news') ∧ (∀ p ∈ news', p.1 ≠ I) ∧ S news' ∧ J m' news'
theorem TurnG.next {L : Addr} {S : List (Addr × Obj) → Prop} {J : (Str → Option Value) → List (Addr × Obj) → Prop} {I : Addr} {oI : Obj} {s₁ : Shared} {Q : Flow → Shared → Prop} {h' : Heap} {tk : Nat} {m' : Str → Option Value} {news' : List (Addr × Obj)}
    (F : Fr h₀ L h' m') (N : News h₀ L h' ((I, oI) :: news')) (off : ∀ p ∈ news', p.1 ≠ I) (hS : S news') (j : J m' news') : TurnG h₀ L S J I oI s₁ Q .next { s₁ with heap := h', toks := tk } := ⟨h', tk, m', news', rfl, F, N, off, hS, j⟩

/-- where a for loop's source stands -/
def ForSrc (prog : Program) (w : World) (A : Around) (h₀ : Heap) (env : Env) (x : Str) (body : List Stmt) (Q : Flow → Shared → Prop) (xv : Value) (s₁ : Shared) : Prop :=
  ∃ (S : List (Addr × Obj) → Prop) (n : Nat) (P : Nat → Value → Prop) (m₀ : Str → Option Value) (news : List (Addr × Obj)) (J : Nat → (Str → Option Value) → List (Addr × Obj) → Prop), Fr h₀ env.locals s₁.heap m₀ ∧ News h₀ env.locals s₁.heap news ∧ S news ∧ IterG prog w A h₀ env.locals S n P xv s₁ ∧ J 0 m₀ news ∧
    (∀ (i : Nat) (v : Value) (m₁ : Str → Option Value) (nw : List (Addr × Obj)) (h : Heap) (tk : Nat) (I : Addr) (oI : Obj) (E' : Value → Shared → Prop), i < n → P i v → J i m₁ nw → S nw → Fr h₀ env.locals h (fun y => if y = x then some v else m₁ y) → News h₀ env.locals h ((I, oI) :: nw) → (∀ p ∈ nw, p.1 ≠ I) →
      wpAny (model prog w) A (execs body env) (TurnG h₀ env.locals S (J (i + 1)) I oI { s₁ with heap := h, toks := tk } Q) E' { s₁ with heap := h, toks := tk }) ∧
    ∀ (m₁ : Str → Option Value) (nw : List (Addr × Obj)) (h : Heap) (tk : Nat), J n m₁ nw → Fr h₀ env.locals h m₁ → News h₀ env.locals h nw → Q .next { s₁ with heap := h, toks := tk }

theorem For_G {x : Str} {px pos : Pos} {iter : Expr} {body : List Stmt} {Q : Flow → Shared → Prop} {m : Str → Option Value} (_F : Fr h₀ env.locals s.heap m) (hx : env.kindOf x = some .local)
    (hp : (env.scope.kind == .class || (env.scope.kind == .module && env.locals != env.globals)) = false)
    (h : wpAny (model prog w) A (eval iter env) (ForSrc prog w A h₀ env x body Q) E s)
    (hs : ∀ x, foldedSetIterable iter env x = pure x := by intro _; rfl) :
    wpAny (model prog w) A (exec (.For (.Name x px) iter body [] pos) env) Q E s := by
  refine wpAny_For (wpAny_mono h (fun xv s₁ h₁ => ?_) fun _ _ e => e) hs
  obtain ⟨S, n, P, m₀, news, J, F, N, hS, hit, h0, turn, done⟩ := h₁
  refine hit _ _ fun I fp St h' tk W hIo hSt hst hfp hfp2 hk hI => ?_
  have F' : Fr h₀ env.locals h' m₀ := F.keeps hk
  have N' : News h₀ env.locals h' news := N.grown hk
  have hI₀ : h₀.get? I = none := base_none F hI
  have hLI : env.locals ≠ I := Nat.ne_of_lt (Nat.lt_of_lt_of_le F.ns.lt hI)
  have off : ∀ p ∈ news, p.1 ≠ I := fun p hp => Nat.ne_of_lt (Nat.lt_of_lt_of_le (Heap.lt_size (N p hp).1) hI)
  refine codeAny_forLoop (fun k s' => ∃ h'' tk' m' nw i, s' = { s₁ with heap := h'', toks := tk' } ∧ St i h'' ∧ Fr h₀ env.locals h'' m' ∧ News h₀ env.locals h'' nw ∧ (∀ p ∈ nw, p.1 ≠ I) ∧ S nw ∧ J i m' nw ∧ i ≤ n ∧ k = n + 1 - i) ?_ (n + 1)
    ⟨h', tk, m₀, news, 0, rfl, hst, F', N', off, hS, h0, Nat.zero_le _, rfl⟩
  rintro k s' ⟨h'', tk', m', nw, i, rfl, hst', F'', N'', off', hS', hJ, hi, rfl⟩
  have next : ∀ h₁ : Heap, (∀ b o, b ∉ [I] → h''.get? b = some o → h₁.get? b = some o) → Fr h₀ env.locals h₁ m' ∧ News h₀ env.locals h₁ nw := fun h₁ hk₁ =>
    ⟨fr_but F'' hk₁ hLI hI₀, news_but N'' hk₁ off'⟩
  by_cases hlt : i < n
  · refine W.item i _ _ _ hlt hst' fun v h₁ tk₁ hP hst₁ hk₁ => ?_
    obtain ⟨F₁, N₁⟩ := next h₁ hk₁
    obtain ⟨oI, heI⟩ := hIo _ _ hst₁
    refine wpAny_assign_Name (wpAny_storeName_local hx F₁.ns (fun h₂ hn₂ hs₂ => ?_) hp)
    have F₂ := F₁.set hn₂ hs₂
    have heI₂ : h₂.get? I = some oI := (hs₂.2 I fun q => hLI q.symm).trans heI
    have N₂ : News h₀ env.locals h₂ ((I, oI) :: nw) := fun p hp => by
      rcases List.mem_cons.mp hp with rfl | hp
      · exact ⟨heI₂, Ne.symm hLI, hI₀⟩
      · exact N₁.set hs₂ p hp
    refine wpAny_mono (turn i v m' nw h₂ _ I oI _ hlt hP hJ hS' F₂ N₂ off') (fun f s₃ h₃ => ?_) fun _ _ e => e
    have fin : (∃ h' tk m' news', s₃ = { s₁ with heap := h', toks := tk } ∧ Fr h₀ env.locals h' m' ∧ News h₀ env.locals h' ((I, oI) :: news') ∧ (∀ p ∈ news', p.1 ≠ I) ∧ S news' ∧ J (i + 1) m' news') →
        ∃ m, m < n + 1 - i ∧ ∃ h'' tk' m' nw i, s₃ = { s₁ with heap := h'', toks := tk' } ∧ St i h'' ∧ Fr h₀ env.locals h'' m' ∧ News h₀ env.locals h'' nw ∧ (∀ p ∈ nw, p.1 ≠ I) ∧ S nw ∧ J i m' nw ∧ i ≤ n ∧ m = n + 1 - i := by
      rintro ⟨h₃', tk₃, m₃, nw₃, rfl, F₃, N₃, off₃, hS₃, hJ₃⟩
      have N₃' : News h₀ env.locals h₃' nw₃ := fun p hp => N₃ p (List.mem_cons_of_mem _ hp)
      exact ⟨n + 1 - (i + 1), by omega, h₃', tk₃, m₃, nw₃, i + 1, rfl, hSt _ _ _ _ _ hst₁ heI (N₃ _ (List.mem_cons_self ..)).1 F₃.keep N₃' hS₃, F₃, N₃', off₃, hS₃, hJ₃, hlt, rfl⟩
    cases f with
    | ret v => exact h₃
    | brk => exact h₃
    | cont => exact fin h₃
    | next => exact fin h₃
  · have hin : i = n := by omega
    subst hin
    refine W.done _ _ _ hst' fun h₁ tk₁ hk₁ => wpAny_execs_nil ?_
    obtain ⟨F₁, N₁⟩ := next h₁ hk₁
    exact done m' nw h₁ tk₁ hJ F₁ N₁
end
/-- the ways of a tree join: what is known behind it -/
def CutEnd {α : Type} (h₀ : Heap) (L : Addr) (m : Str → Option Value) (news : List (Addr × Obj)) (s : Shared) (P : α → Prop) (a : α) (s' : Shared) : Prop :=
  ∃ h' tk', s' = { s with heap := h', toks := tk' } ∧ Fr h₀ L h' m ∧ News h₀ L h' news ∧ P a
theorem CutEnd.intro {α : Type} {h₀ : Heap} {L : Addr} {m : Str → Option Value} {news : List (Addr × Obj)} {s : Shared} {P : α → Prop} {a : α} {h' : Heap} {tk' : Nat} (F : Fr h₀ L h' m) (N : News h₀ L h' news) (p : P a) : CutEnd h₀ L m news s P a { s with heap := h', toks := tk' } := ⟨h', tk', rfl, F, N, p⟩
theorem cut {α : Type} {M : Model} {A : Around} {E : Value → Shared → Prop} {s : Shared} {h₀ : Heap} {L : Addr} {m : Str → Option Value} {news : List (Addr × Obj)} {t : Sem α} {Q : α → Shared → Prop} (_F : Fr h₀ L s.heap m) (_N : News h₀ L s.heap news) (P : α → Prop) (h : ∀ E', wpAny M A t (CutEnd h₀ L m news s P) E' s)
    (k : ∀ a h' tk', P a → Fr h₀ L h' m → News h₀ L h' news → Q a { s with heap := h', toks := tk' }) : wpAny M A t Q E s :=
  wpAny_mono (h E) (fun a s' ⟨h', tk', e, F, N, p⟩ => e ▸ k a h' tk' p F N) fun _ _ e => e
theorem fr_know {h₀ h : Heap} {L : Addr} {m : Str → Option Value} {x : Str} {v : Value} (F : Fr h₀ L h m) (e : m x = some v) : Fr h₀ L h (fun y => if y = x then some v else m y) := by
  have q : (fun y => if y = x then some v else m y) = m := by
    funext y
    by_cases hy : y = x
    · rw [if_pos hy, hy, e]
    · rw [if_neg hy]
  rw [q]; exact F
theorem intsAre_of : ∀ {vs : List Value} {ns : List Int}, vs.length = ns.length → (∀ (i : Nat) (v : Value), vs[i]? = some v → ∃ n, ns[i]? = some n ∧ ∃ t, v = Value.int n t) → IntsAre vs ns
  | [], [], _, _ => IntsAre.nil
  | [], _ :: _, h, _ => nomatch h
  | _ :: _, [], h, _ => nomatch h
  | v :: vs, n :: ns, h, g => by
    obtain ⟨n', e, t, rfl⟩ := g 0 v rfl
    cases e
    exact IntsAre.cons _ _ (intsAre_of (Nat.succ.inj h) fun i u hu => g (i + 1) u hu)
theorem bytes_get {b : Array UInt8} {i : Nat} {c : UInt8} (h : b[i]? = some c) : (KBw.bInts b)[i]? = some (c.toNat : Int) := KBw.ints_get h
theorem WordOk.size {b : Array UInt8} (h : WordOk b) : b.size ≤ sizeLine := by
  have h2 := h.2.1
  rw [KBw.ints_length] at h2
  exact Nat.le_trans h2 (by decide)
end Mine

end
section
open PySem PySem.W PyProof.Rows PySem.Calls
set_option Elab.async false
set_option maxRecDepth 100000
set_option maxHeartbeats 8000000
namespace Mine
def strL (l : List Nat) : Str := ⟨l.toArray⟩
theorem strL_app (a b : List Nat) : strL a ++ strL b = strL (a ++ b) := by
  apply Str.ext'
  show (strL a ++ strL b).cps = (strL (a ++ b)).cps
  rw [Str.cps_append]
  simp [strL]
theorem strL_len (a : List Nat) : (strL a).length = a.length := by simp [strL, Str.length]
theorem strL_inj {a b : List Nat} : strL a = strL b ↔ a = b := by
  constructor
  · intro h
    have := congrArg (fun x : Str => x.cps.toList) h
    simpa [strL] using this
  · intro h; rw [h]
theorem strL_list (a : List Nat) : (strL a).cps.toList = a := by simp [strL]
theorem strL_slice {l : List Nat} {i j : Nat} (hi : i ≤ j) (hj : j ≤ l.length) : Txt.slice (strL l) (some (i : Int)) (some (j : Int)) = strL ((l.drop i).take (j - i)) := by
  have := PySem.StrLaws.sliceText_plain (x := strL l) (i := i) (j := j) ⟨by omega, by omega, by rw [strL_list]; omega⟩
  rw [strL_list] at this
  simp only [Int.toNat_natCast] at this
  rw [show ((j : Int) - (i : Int)).toNat = j - i by omega] at this
  exact this
theorem strL_from {l : List Nat} {i : Nat} (hi : i ≤ l.length) : Txt.slice (strL l) (some (i : Int)) none = strL (l.drop i) := by
  have := PySem.StrLaws.sliceText_from (x := strL l) (i := i) ⟨by omega, by rw [strL_list]; omega⟩
  rw [strL_list] at this
  rw [show ((l.length : Int) - (i : Int)).toNat = l.length - i by omega, Int.toNat_natCast, List.take_of_length_le (by rw [List.length_drop]; omega)] at this
  exact this
theorem num_text : ∀ n : Nat, n < 128 → Str.ofString (toString (1000 + (n : Int))) = strL [49, 48 + n / 100, 48 + n / 10 % 10, 48 + n % 10] := by
  decide +kernel
theorem some_str {o : Option Value} {x y : Str} {t : Tok} (h : o = some (.str x t)) (e : x = y) : ∃ t', o = some (.str y t') := ⟨t, e ▸ h⟩
theorem dot_is : Str.ofString "." = strL [46] := rfl
theorem bs_is : Str.ofString "\\" = strL [92] := rfl
theorem empty_is : Str.ofString "" = strL [] := rfl
section
variable {prog : Program} {w : World} {A : Around} {E : Value → Shared → Prop} {s : Shared} {h₀ : Heap} {L : Addr} {m : Str → Option Value} {news : List (Addr × Obj)} {t u : Tok} {Q : Value → Shared → Prop}
theorem str1000 {n : Nat} (h : n < 128) (hq : Q (.str (strL [49, 48 + n / 100, 48 + n / 10 % 10, 48 + n % 10]) s.toks) { s with toks := s.toks + 1 }) : wpAny (model prog w) A (call (.type "str") [.int (1000 + (n : Int)) t]) Q E s := by
  refine P.str_of_int ?_ ?_
  · refine shown (N := 2 ^ 1920) ?_ ?_ (Int.le_refl _)
    · have : (0 : Int) ≤ 2 ^ 1920 := by decide +kernel
      omega
    · have : (2000 : Int) ≤ 2 ^ 1920 := by decide +kernel
      omega
  · rw [num_text n h]; exact hq
theorem sliceFrom1 {value slice : Expr} {l : List Nat} {ui : Tok} (hF : Fr h₀ L s.heap m) (hN : News h₀ L s.heap news) (hi : 1 ≤ l.length) (hz : l.length ≤ sizeLine) (h : ∀ h' t' k, Fr h₀ L h' m → News h₀ L h' news → Q (.str (strL (l.drop 1)) t') { s with heap := h', toks := k })
    (hs : subscripted slice false (.str (strL l) t) (.ref s.heap.objs.size) = operate [.ref s.heap.objs.size, .str (strL l) t] (getItem (.str (strL l) t) (.ref s.heap.objs.size)) := by with_unfolding_all rfl)
    (ht : ∀ r, letTemporaryGo value (.str (strL l) t) r = pure () := by intro _; with_unfolding_all rfl) :
    wpAny (model prog w) A (subscriptTail value slice (.str (strL l) t) (.ref s.heap.objs.size)) Q E { s with heap := s.heap.push { cls := .type "slice", data := .fields #[.int 1 ui, .none, .none] } } := by
  refine slice_strN_sn hF hN (fun h' t' k a b => ?_) hs ht (by rw [strL_len]; exact hz)
  have e : Txt.slice (strL l) (some 1) none = strL (l.drop 1) := strL_from (i := 1) hi
  rw [e]
  exact h h' t' k a b
theorem addL {a b : List Nat} {x y : Str} (ex : x = strL a) (ey : y = strL b) (hz : (a ++ b).length ≤ sizeLine) (h : ∀ t' tk, Q (.str (strL (a ++ b)) t') { s with toks := tk }) : wpAny (model prog w) A (binaryOp .Add (.str x t) (.str y u)) Q E s := by
  subst ex; subst ey
  refine add_str (fun t' tk => ?_) (by rw [strL_len, strL_len, ← List.length_append]; exact hz)
  rw [strL_app]; exact h t' tk
theorem iaddL {a b : List Nat} {x y : Str} (ex : x = strL a) (ey : y = strL b) (hz : (a ++ b).length ≤ sizeLine) (h : ∀ t' tk, Q (.str (strL (a ++ b)) t') { s with toks := tk }) : wpAny (model prog w) A (inplaceOp .Add (.str x t) (.str y u)) Q E s := by
  subst ex; subst ey
  refine iadd_str (fun t' tk => ?_) (by rw [strL_len, strL_len, ← List.length_append]; exact hz)
  rw [strL_app]; exact h t' tk
end

/-- an octet as the text shows it, a word, words with a point behind each -/
def encC (k : Int) : List Nat := if 32 < k ∧ k < 127 then [k.toNat] else [92, 48 + k.toNat / 100, 48 + k.toNat / 10 % 10, 48 + k.toNat % 10]
def encL (ks : List Int) : List Nat := ks.flatMap encC
def textL (ws : List (Array UInt8)) : List Nat := ws.flatMap fun b => encL (KBw.bInts b) ++ [46]
theorem encC_len (k : Int) : (encC k).length ≤ 4 := by unfold encC; split <;> simp
theorem encL_len : ∀ ks : List Int, (encL ks).length ≤ 4 * ks.length
  | [] => by simp [encL]
  | k :: ks => by
    have h1 := encC_len k
    have h2 := encL_len ks
    simp only [encL, List.flatMap_cons, List.length_append, List.length_cons] at h2 ⊢
    omega
theorem textL_len : ∀ ws : List (Array UInt8), (∀ b ∈ ws, WordOk b) → (textL ws).length ≤ 17 * ws.length
  | [], _ => by simp [textL]
  | b :: ws, h => by
    have h1 := encL_len (KBw.bInts b)
    have h2 := textL_len ws fun b hb => h b (.tail _ hb)
    have h3 := (h b (.head _)).2.1
    simp only [textL, List.flatMap_cons, List.length_append, List.length_cons, List.length_nil] at h2 ⊢
    omega
theorem take_snoc {α : Type} {l : List α} {i : Nat} {a : α} (h : l[i]? = some a) : l.take (i + 1) = l.take i ++ [a] := by
  rw [List.take_add_one, h]; rfl
theorem textL_snoc {ws : List (Array UInt8)} {i : Nat} {b : Array UInt8} (h : ws[i]? = some b) : textL (ws.take (i + 1)) = textL (ws.take i) ++ encL (KBw.bInts b) ++ [46] := by
  rw [take_snoc h]; simp [textL]
theorem encL_snoc {ks : List Int} {i : Nat} {k : Int} (h : ks[i]? = some k) : encL (ks.take (i + 1)) = encL (ks.take i) ++ encC k := by
  rw [take_snoc h]; simp [encL]
theorem BytesAre.get : ∀ {vs : List Value} {ws : List (Array UInt8)} {i : Nat} {v : Value}, BytesAre vs ws → vs[i]? = some v → ∃ b, ws[i]? = some b ∧ ∃ t, v = .bytes b t
  | [], _, _, _, _, h => by simp at h
  | _ :: _, [], _, _, h, _ => h.elim
  | v :: vs, b :: bs, 0, _, h, e => by
    obtain ⟨t, ht⟩ := h.1
    simp at e
    exact ⟨b, rfl, t, e ▸ ht⟩
  | v :: vs, b :: bs, i + 1, _, h, e => by
    have := BytesAre.get (vs := vs) (i := i) h.2 (by simpa using e)
    simpa using this
end Mine

end
section
open PySem PySem.W PyProof.Rows PySem.Calls
set_option Elab.async false
set_option maxRecDepth 100000
set_option maxHeartbeats 8000000
namespace Mine
open PyProof.Rows.LCg
section
variable {prog : Program} {w : World} {A : Around} {E : Value → Shared → Prop} {s : Shared} {h₀ : Heap} {L l : Addr} {m : Str → Option Value} {news : List (Addr × Obj)} {u : Tok} {k : Int} {its : Array Value} {n : Nat} {v : Value} {Q : Value → Shared → Prop}
theorem isList_of (N : News h₀ L s.heap news) (hm : (l, listOf its n) ∈ news) : s.heap.IsList l its := ⟨_, N.get hm, rfl, _, rfl⟩
theorem isTup_of {o : Obj} (N : News h₀ L s.heap news) (hm : (l, o) ∈ news) (hc : o.cls = .type "tuple") (hd : ∃ n, o.data = .seq its n) : IsTup s.heap l its := ⟨_, N.get hm, hc, hd⟩
theorem len_led (N : News h₀ L s.heap news) (hm : (l, listOf its n) ∈ news) (hz : its.size ≤ 1048576) (h : Q (.int its.size (s.toks + 1)) { s with toks := s.toks + 1 + 1 }) : wpAny (model prog w) A (call (.builtin "len") [.ref l]) Q E s :=
  len_list (isList_of N hm) (by omega) h
theorem item_pos {value slice : Expr} (N : News h₀ L s.heap news) (hm : (l, listOf its n) ∈ news) (h0 : 0 ≤ k) (hhi : k < 2 ^ 63) (hx : its[k.toNat]? = some v) (h : Q v s)
    (hs : subscripted slice false (.ref l) (.int k u) = operate [.ref l, .int k u] (getItem (.ref l) (.int k u)) := by with_unfolding_all rfl) :
    wpAny (model prog w) A (subscriptTail value slice (.ref l) (.int k u)) Q E s :=
  tail_any (isList_of N hm).typeIs slot_list_getitem.lookup (wpAny_getItem_list (isList_of N hm) h0 hhi hx h) hs
theorem item_neg {value slice : Expr} (N : News h₀ L s.heap news) (hm : (l, listOf its n) ∈ news) (h0 : k < 0) (h1 : -(its.size : Int) ≤ k) (hhi : -(2 ^ 63) ≤ k) (hx : its[(k + its.size).toNat]? = some v) (h : Q v s)
    (hs : subscripted slice false (.ref l) (.int k u) = operate [.ref l, .int k u] (getItem (.ref l) (.int k u)) := by with_unfolding_all rfl) :
    wpAny (model prog w) A (subscriptTail value slice (.ref l) (.int k u)) Q E s :=
  tail_any (isList_of N hm).typeIs slot_list_getitem.lookup (wpAny_getItem_list_neg (isList_of N hm) h0 h1 hhi hx h) hs
theorem item_tup {value slice : Expr} {o : Obj} {j : Nat} (N : News h₀ L s.heap news) (hm : (l, o) ∈ news) (hc : o.cls = .type "tuple") (hd : ∃ n, o.data = .seq its n) (hlo : -(2 ^ 63) ≤ k) (hhi : k < 2 ^ 63) (hj : seqIndex? k its.size = some j) (hx : its[j]? = some v) (h : Q v s)
    (hs : subscripted slice false (.ref l) (.int k u) = operate [.ref l, .int k u] (getItem (.ref l) (.int k u)) := by with_unfolding_all rfl) :
    wpAny (model prog w) A (subscriptTail value slice (.ref l) (.int k u)) Q E s := item_tupleT (l := its.toList) (isTup_of N hm hc hd) hlo hhi (by simpa using hj) (by simpa using hx) h hs
end
end Mine

end
section
open PySem PySem.W PyProof.Rows PySem.Calls
set_option Elab.async false
set_option maxRecDepth 100000
set_option maxHeartbeats 8000000
namespace Mine
example : True := by w_top off; trivial
local macro_rules | `(tactic| k_mem) => `(tactic| first | (with_reducible assumption) | (with_reducible exact List.mem_cons_self) | (with_reducible refine List.mem_cons_of_mem _ ?_; k_mem) | fail "no")
local macro_rules | `(tactic| k_all) => `(tactic| first | exact ne_lt4 (by assumption) | exact ne_lt4 (And.right (by assumption)) | exact ne_lt4 (And.right (And.right (by assumption))) | exact ne_lt1 (by assumption) | exact ne_lt2 (by assumption) | exact ne_lt3 (by assumption) | exact ne_lt3 (And.right (by assumption)) | exact ne_lt3 (And.right (And.right (by assumption))) | exact ne_lt3 (And.right (And.right (And.right (by assumption)))) | fail "no")
example (P : Params) : (Mine.hd.heap_39 P = Mine.hd.heap_39 P) ∧ (PySem.Challenge.rw_fh0007_01 = PySem.Challenge.rw_fh0007_01) := by k_fill; exact ⟨rfl, rfl⟩

theorem octet_ctr (w : World) (n : Int) (t : Tok) : Ctr w 980 9700 (.ref 130) [.int n t] [] (fun r nl => nl = [] ∧ ∃ t, r = .int (octetZ n) t) := by
  intro mean mg mb gd cn cs a ccd cl outer A₀ base h₀ L m news s Q E hk B F X N T need hret
  obtain ⟨kd, nm, ig, ic, mo⟩ := cs
  obtain rfl : kd = .function := hk
  refine wpAny_call ?_
  k_dflt k_enter
  k_steps
  refine hret _ [] _ _ (by k_asm) (by k_asm) nl_nil ⟨rfl, ktn_int ?_⟩
  simp only [octetZ, decide_eq_true_eq, gt_iff_lt]

theorem usual_ctr (w : World) : Ctr w 980 9700 (.ref 123) [] [] (fun r nl => ∃ a o, nl = [(a, o)] ∧ r = .ref a ∧ ∃ vs, o = listOf vs.toArray 0 ∧ IntsAre vs [2, 3337, 36006, 9802, 50003, 1, 35, 1, 2]) := by
  intro mean mg mb gd cn cs a ccd cl outer A₀ base h₀ L m news s Q E hk B F X N T need hret
  obtain ⟨kd, nm, ig, ic, mo⟩ := cs
  obtain rfl : kd = .function := hk
  refine wpAny_call ?_
  k_dflt k_enter
  k_steps
  refine hret _ [_] _ _ (by k_asm) (by k_asm) (nl_one (off1_lt (by k_asm))) ⟨_, _, rfl, rfl, _, rfl, ?_⟩
  repeat (first | exact IntsAre.nil | refine IntsAre.cons _ _ ?_)

local macro_rules | `(tactic| walk_at "call ref") => `(tactic| (k_here; (with_reducible show wpAny _ _ (call (Value.ref 130) [Value.int _ _]) _ _ _); k_dflt (refine' (octet_ctr _ _ _).useV ?k1 ?k2 ?k3 ?k4 ?k5 ?kK ?kn ?kd ?ku ?_; (case k1 => k_asm); (case k2 => k_asm); (case k3 => k_asm); (case k4 => k_asm); (case k5 => k_asm); (case kK => exact rfl); (case kd => exact Nat.le_of_ble_eq_true rfl); (case ku => exact Nat.le_of_ble_eq_true rfl); (case kn => exact no_need)); intro r9 h9 tk9 F9 N9 e9; obtain ⟨t9, e9⟩ := e9; subst e9; (try dsimp only); (try k_fold)))

theorem pow126 (k : Int) : ((126:Int) ^ (k.fmod 2).toNat) ≠ 0 ∧ ((126:Int) ^ (k.fmod 2).toNat).natAbs < 1073741824 := by
  have h0 := Int.fmod_nonneg_of_pos k (show (0:Int) < 2 by decide)
  have h1 := Int.fmod_lt_of_pos k (show (0:Int) < 2 by decide)
  rcases (show k.fmod 2 = 0 ∨ k.fmod 2 = 1 by omega) with h | h <;> rw [h] <;> decide
local macro_rules | `(tactic| walk_at "binaryOp FloorDiv int int") => `(tactic| (k_here; (with_reducible refine floordiv_int ?kbe ?_ (Or.inl (PyProof.noPylong_small ?kbp))); (case kbe => exact (pow126 _).1); (case kbp => exact (pow126 _).2)))

theorem octetZ_ok {k : Int} (h0 : 0 ≤ k) (h1 : k < 126) : OctOk (octetZ k) := by
  unfold OctOk octetZ
  split <;> split <;> omega
def wordL (n : Int) : List Int := (rangeKs 0 (n.fmod 4 + 1 - 0).toNat).map fun k => octetZ (((n.fdiv 4).fdiv (126 ^ (k.fmod 2).toNat) + 31 * k).fmod 126)
theorem wordL_ok {n : Int} : ∀ k ∈ wordL n, OctOk k := by
  intro k hk
  obtain ⟨j, _, rfl⟩ := List.mem_map.mp hk
  exact octetZ_ok (Int.fmod_nonneg_of_pos _ (by decide)) (Int.fmod_lt_of_pos _ (by decide))
theorem wordL_len {n : Int} : 0 < (wordL n).length ∧ (wordL n).length ≤ 4 := by
  have h0 := Int.fmod_nonneg_of_pos n (show (0:Int) < 4 by decide)
  have h1 := Int.fmod_lt_of_pos n (show (0:Int) < 4 by decide)
  unfold wordL
  rw [List.length_map, rangeKs_length]
  omega
theorem wordI {ys : List Value} {n : Int} (h : IntsAre ys ((rangeKs 0 (n.fmod 4 + 1 - 0).toNat).map fun k' => if 0 ≤ k'.fmod 2 ∧ k'.fmod 2 < 2 then octetZ (((n.fdiv 4).fdiv (126 ^ (k'.fmod 2).toNat) + 31 * k').fmod 126) else k')) : IntsAre ys (wordL n) := by
  have e : ((rangeKs 0 (n.fmod 4 + 1 - 0).toNat).map fun k' => if 0 ≤ k'.fmod 2 ∧ k'.fmod 2 < 2 then octetZ (((n.fdiv 4).fdiv (126 ^ (k'.fmod 2).toNat) + 31 * k').fmod 126) else k') = wordL n :=
    List.map_congr_left fun k' _ => if_pos ⟨Int.fmod_nonneg_of_pos _ (by decide), Int.fmod_lt_of_pos _ (by decide)⟩
  rw [← e]; exact h
theorem in_of_ok {ns : List Int} (h : ∀ k ∈ ns, OctOk k) : KBa.In ns := fun k hk => by
  have := h k hk
  unfold OctOk at this
  omega
theorem word_ctr (w : World) (n : Int) (t : Tok) (h0 : 0 ≤ n) (h1 : n < 65536) : Ctr w 970 9600 (.ref 135) [.int n t] [] (fun r nl => nl = [] ∧ ∃ b t, r = .bytes b t ∧ WordOk b) := by
  intro mean mg mb gd cn cs a ccd cl outer A₀ base h₀ L m news s Q E hk B F X N T need hret
  obtain ⟨kd, nm, ig, ic, mo⟩ := cs
  obtain rfl : kd = .function := hk
  refine wpAny_call ?_
  k_dflt k_enter
  k_steps
  refine KBa.make_K (by k_asm) (by k_asm) rfl ⟨_, News.get (by k_asm) (by k_mem), rfl, _, rfl⟩ (ns := wordL n) (wordI (by k_asm)) (in_of_ok wordL_ok) (Nat.le_trans wordL_len.2 (by decide)) ?_
  intro h8 t8 k8 F8 N8 _
  dsimp only
  k_steps
  have e := KBa.ints_make (in_of_ok (wordL_ok (n := n)))
  refine hret _ [] _ _ (by k_asm) (News.of_sub (by k_asm) (by intro p hp; exact .tail _ (.tail _ hp))) nl_nil ⟨rfl, _, _, rfl, ?_⟩
  unfold WordOk
  rw [e]
  exact ⟨wordL_len.1, wordL_len.2, wordL_ok⟩

end Mine

end
section
open PySem PySem.W PyProof.Rows PySem.Calls
set_option Elab.async false
set_option maxRecDepth 100000
set_option maxHeartbeats 8000000
namespace Mine
example : True := by w_top off; trivial
local macro_rules | `(tactic| walk_at "no such goal") => `(tactic| fail "no")
local macro_rules | `(tactic| walk_at "no such goal") => `(tactic| fail "no")
local macro_rules | `(tactic| walk_at "no such goal") => `(tactic| fail "no")
open PyProof.Rows.LCg
local macro_rules | `(tactic| k_mem) => `(tactic| first | (with_reducible assumption) | (with_reducible exact List.mem_cons_self) | (with_reducible refine List.mem_cons_of_mem _ ?_; k_mem) | fail "no")
local macro_rules | `(tactic| k_all) => `(tactic| first | exact ne_lt4 (by assumption) | exact ne_lt4 (And.right (by assumption)) | exact ne_lt4 (And.right (And.right (by assumption))) | exact ne_lt1 (by assumption) | exact ne_lt2 (by assumption) | exact ne_lt3 (by assumption) | exact ne_lt3 (And.right (by assumption)) | exact ne_lt3 (And.right (And.right (by assumption))) | exact ne_lt3 (And.right (And.right (And.right (by assumption)))) | fail "no")
local macro_rules | `(tactic| walk_at "eval ListComp") => `(tactic| (k_here; k_dflt (refine ListComp_G (F₀ := by k_asm) (by rfl) (by decide) (by rfl) (by decide) (by rfl) ?_)))

def lowC (k : Int) : Int := if 64 < k ∧ k < 91 then k + 32 else k
def lowL (b : Array UInt8) : List Int := (KBw.bInts b).map lowC

theorem lower_ctr (w : World) (b : Array UInt8) (t : Tok) (hb : b.size ≤ sizeLine) : Ctr w 980 9700 (.ref 140) [.bytes b t] [] (fun r nl => ∃ a o, nl = [(a, o)] ∧ r = .ref a ∧ ∃ vs, o = lst vs ∧ IntsAre vs (lowL b)) := by
  intro mean mg mb gd cn cs a ccd cl outer A₀ base h₀ L m news s Q E hk B F X N T need hret
  obtain ⟨kd, nm, ig, ic, mo⟩ := cs
  obtain rfl : kd = .function := hk
  refine wpAny_call ?_
  k_dflt k_enter
  k_steps
  refine srcG_bytes rfl (by k_asm) (by k_asm) hb ?_
  intro g tk
  refine rest_quiet (fun i v => ∃ n, (lowL b)[i]? = some n ∧ ∃ t, v = .int n t) trivial ?_ ?_
  · rintro i v I oI C oC D ys m₂ h tk E' hi ⟨c, u, hc, rfl⟩ hC hx F9 N9 off9 ne9
    have hg : (lowL b)[i]? = some (lowC c.toNat) := by unfold lowL; rw [List.getElem?_map, bytes_get hc]; rfl
    k_steps
    all_goals (refine end_quiet (by k_asm) (by k_asm) (by k_asm) trivial ⟨_, hg, ktn_int ?_⟩)
    all_goals (simp only [decide_eq_true_eq, decide_eq_false_iff_not, Bool.not_eq_true] at *; unfold lowC; split <;> omega)
  · intro ys hl hg
    k_steps
    exact hret _ [(_, _)] _ _ (by k_asm) (by k_asm) (nl_one (by k_asm)) ⟨_, _, rfl, rfl, _, rfl, intsAre_of (by rw [hl]; simp [lowL, KBw.ints_length]) hg⟩

def othC (k : Int) : Int := if (64 < k ∧ k < 91) then k + 32 else if 96 < k ∧ k < 123 then k - 32 else k
def othL (b : Array UInt8) : List Int := (KBw.bInts b).map othC
def othB (b : Array UInt8) : Array UInt8 := byteArr (othL b)
theorem oth_up : ∀ {n : Nat}, 64 < (n : Int) → (n : Int) < 91 → Builtin.bitXor (n : Int) 32 = othC n := by
  have h : ∀ n : Nat, n < 91 → 64 < n → Builtin.bitXor (n : Int) 32 = othC n := by decide
  intro n h0 h1
  exact h n (by omega) (by omega)
theorem oth_lo : ∀ {n : Nat}, 96 < (n : Int) → (n : Int) < 123 → Builtin.bitXor (n : Int) 32 = othC n := by
  have h : ∀ n : Nat, n < 123 → 96 < n → Builtin.bitXor (n : Int) 32 = othC n := by decide
  intro n h0 h1
  exact h n (by omega) (by omega)
theorem othL_in (b : Array UInt8) : KBa.In (othL b) := by
  intro k hk
  obtain ⟨j, hj, rfl⟩ := List.mem_map.mp hk
  have := KBw.ints_in hj
  unfold othC
  (repeat' split) <;> omega
theorem other_ctr (w : World) (b : Array UInt8) (t : Tok) (hb : b.size ≤ sizeLine) : Ctr w 980 9700 (.ref 145) [.bytes b t] [] (fun r nl => nl = [] ∧ ∃ t, r = .bytes (othB b) t) := by
  intro mean mg mb gd cn cs a ccd cl outer A₀ base h₀ L m news s Q E hk B F X N T need hret
  obtain ⟨kd, nm, ig, ic, mo⟩ := cs
  obtain rfl : kd = .function := hk
  refine wpAny_call ?_
  k_dflt k_enter
  k_steps
  refine srcG_bytes rfl (by k_asm) (by k_asm) hb ?_
  intro g tk
  refine rest_quiet (fun i v => ∃ n, (othL b)[i]? = some n ∧ ∃ t, v = .int n t) trivial ?_ ?_
  · rintro i v I oI C oC D ys m₂ h tk E' hi ⟨c, u, hc, rfl⟩ hC hx F9 N9 off9 ne9
    have hg : (othL b)[i]? = some (othC c.toNat) := by unfold othL; rw [List.getElem?_map, bytes_get hc]; rfl
    k_steps
    all_goals (refine end_quiet (by k_asm) (by k_asm) (by k_asm) trivial ⟨_, hg, ktn_int ?_⟩)
    all_goals (have hc8 : c.toNat < 256 := c.toNat_lt; simp only [decide_eq_true_eq, decide_eq_false_iff_not, Bool.not_eq_true] at *)
    · exact oth_up (by omega) (by omega)
    · exact oth_lo (by omega) (by omega)
    all_goals (unfold othC; (repeat' split) <;> omega)
  · intro ys hl hg
    k_steps
    have hI : IntsAre ys (othL b) := intsAre_of (by rw [hl]; simp [othL, KBw.ints_length]) hg
    refine KBa.make_K (by k_asm) (by k_asm) rfl ⟨_, News.get (by k_asm) (by k_mem), rfl, _, rfl⟩ hI (othL_in b) (by simp only [othL, List.length_map, KBw.ints_length]; exact hb) ?_
    intro h8 t8 k8 F8 N8 _
    dsimp only
    k_steps
    exact hret _ [] _ _ (by k_asm) (News.of_sub (by k_asm) (by intro p hp; exact .tail _ hp)) nl_nil ⟨rfl, _, rfl⟩
end Mine

end
section
open PySem PySem.W PyProof.Rows PySem.Calls
set_option Elab.async false
set_option maxRecDepth 100000
set_option maxHeartbeats 8000000
namespace Mine
example : True := by w_top off; trivial
local macro_rules | `(tactic| walk_at "no such goal") => `(tactic| fail "no")
local macro_rules | `(tactic| walk_at "no such goal") => `(tactic| fail "no")
local macro_rules | `(tactic| walk_at "no such goal") => `(tactic| fail "no")
local macro_rules | `(tactic| walk_at "no such goal") => `(tactic| fail "no")
local macro_rules | `(tactic| walk_at "no such goal") => `(tactic| fail "no")
set_option maxHeartbeats 1000000
open PyProof.Rows.LCg
local macro_rules | `(tactic| k_mem) => `(tactic| first | (with_reducible assumption) | (with_reducible exact List.mem_cons_self) | (with_reducible refine List.mem_cons_of_mem _ ?_; k_mem) | fail "no")
local macro_rules | `(tactic| k_all) => `(tactic| first | exact ne_lt4 (by assumption) | exact ne_lt4 (And.right (by assumption)) | exact ne_lt4 (And.right (And.right (by assumption))) | exact ne_lt1 (by assumption) | exact ne_lt2 (by assumption) | exact ne_lt3 (by assumption) | exact ne_lt3 (And.right (by assumption)) | exact ne_lt3 (And.right (And.right (by assumption))) | exact ne_lt3 (And.right (And.right (And.right (by assumption)))) | fail "no")
local macro_rules | `(tactic| walk_at "exec For") => `(tactic| (k_here; k_dflt (refine For_G (by k_asm) (by rfl) (by rfl) ?_)))
local macro_rules | `(tactic| walk_at "call type:str") => `(tactic| (k_here; k_dflt (refine str1000 (by assumption) ?_)))
local macro_rules | `(tactic| walk_at "subscriptTail Call") => `(tactic| (k_here; (with_reducible rename Fr _ _ _ _ => F'); (with_reducible rename News _ _ _ _ => N'); k_dflt (refine sliceFrom1 (s := ⟨_, _, _, _, _⟩) F' N' (Nat.le_of_ble_eq_true rfl) (Nat.le_of_ble_eq_true rfl) ?_); intro _ _ _ _ _; dsimp only [List.drop_succ_cons, List.drop_zero]))
local macro_rules | `(tactic| walk_at "binaryOp Add str str") => `(tactic| (k_here; k_dflt (refine addL bs_is rfl (Nat.le_of_ble_eq_true rfl) ?_); intro _ _))
local macro_rules | `(tactic| walk_at "inplaceOp Add str str") => `(tactic| (k_here; k_dflt (refine' iaddL rfl ?ey ?hz ?_; (case ey => first | exact dot_is | exact rfl | exact (rfl : strL [_] = strL [_])); (case hz => assumption)); intro _ _))

theorem text_ctr (w : World) (l : Addr) (vs : List Value) (n : Nat) (ws : List (Array UInt8)) (hv : BytesAre vs ws) (hw : ∀ b ∈ ws, WordOk b) (hz : ws.length ≤ 4) : Ctr w 980 9700 (.ref 152) [.ref l] [(l, listOf vs.toArray n)] (fun r nl => nl = [] ∧ ∃ t, r = .str (strL (textL ws)) t) := by
  intro mean mg mb gd cn cs a ccd cl outer A₀ base h₀ L m news s Q E hk B F X N T need hret
  obtain ⟨kd, nm, ig, ic, mo⟩ := cs
  obtain rfl : kd = .function := hk
  refine wpAny_call ?_
  k_dflt k_enter
  have hl : (l, listOf vs.toArray n) ∈ news := need _ (List.mem_singleton.mpr rfl)
  have hlen : vs.length = ws.length := hv.length
  k_steps
  refine ⟨_, _, _, _, _, fun i m nw => nw = news ∧ ∃ t, m (Str.ofString "text") = some (.str (strL (textL (ws.take i))) t), by k_asm, by k_asm, ?_, iter_list rfl (by k_asm) (by k_asm) (.inr ⟨_, hl, rfl, _, rfl⟩), ?_, ?_, ?_⟩
  · exact .inr ⟨_, hl, rfl, _, rfl⟩
  · exact ⟨rfl, _, rfl⟩
  · rintro i v m₁ nw h tk I oI E' hi hP ⟨rfl, t, ht⟩ hS F9 N9 off9
    obtain ⟨b, hb, tb, rfl⟩ := hv.get (by simpa using hP)
    have hbw : WordOk b := hw b (List.mem_of_getElem? hb)
    have hzt : ∀ j, (textL (ws.take i) ++ encL ((KBw.bInts b).take j)).length ≤ 84 := fun j => by
      have h1 := textL_len (ws.take i) fun b hb => hw b (List.mem_of_mem_take hb)
      have h2 := encL_len ((KBw.bInts b).take j)
      have h3 := hbw.2.1
      simp only [List.length_append, List.length_take] at h1 h2 ⊢
      omega
    dsimp only at F9 N9 ⊢
    k_steps
    refine ⟨_, _, _, _, _, fun j m nw' => nw' = (I, oI) :: nw ∧ ∃ t, m (Str.ofString "text") = some (.str (strL (textL (ws.take i) ++ encL ((KBw.bInts b).take j))) t), by k_asm, by k_asm, trivial, iter_bytes rfl b tb, ?_, ?_, ?_⟩
    · exact ⟨rfl, t, by simp only [List.take_zero, encL, List.flatMap_nil, List.append_nil]; exact ht⟩
    · rintro j v m₂ nw' h2 tk2 I2 oI2 E2 hj ⟨c, u, hc, rfl⟩ ⟨rfl, t2, ht2⟩ _ F8 N8 off8
      have hck := bytes_get hc
      have hco : OctOk c.toNat := hbw.2.2 _ (List.mem_of_getElem? hck)
      have hc8 : c.toNat < 128 := by unfold OctOk at hco; omega
      have hzz1 : ∀ a, (textL (ws.take i) ++ encL ((KBw.bInts b).take j) ++ [a]).length ≤ sizeLine := fun a => by
        have := hzt j
        rw [List.length_append, sizeLine_eq]; simp only [List.length_cons, List.length_nil]; omega
      have hz1 := hzz1 (c.toNat : Int).toNat
      have hzz4 : (textL (ws.take i) ++ encL ((KBw.bInts b).take j) ++ ([92] ++ [48 + c.toNat / 100, 48 + c.toNat / 10 % 10, 48 + c.toNat % 10])).length ≤ sizeLine := by
        have := hzt j
        rw [List.length_append, sizeLine_eq]; simp only [List.length_append, List.length_cons, List.length_nil] at this ⊢; omega
      have hen := encL_snoc hck
      dsimp only at F8 N8 ⊢
      replace F8 := fr_know (x := Str.ofString "text") F8 ht2
      k_steps
      all_goals (refine TurnG.next (by k_asm) (by k_asm) off8 trivial ⟨rfl, some_str rfl (congrArg strL ?_)⟩)
      all_goals (simp only [decide_eq_true_eq, decide_eq_false_iff_not, Bool.not_eq_true] at *)
      · rw [hen, encC, if_pos ⟨by omega, by omega⟩, List.append_assoc]
      · rw [hen, encC, if_neg (by omega), List.append_assoc]; rfl
      · rw [hen, encC, if_neg (by omega), List.append_assoc]; rfl
    · rintro m₂ nw' h2 tk2 ⟨rfl, t2, ht2⟩ F8 N8
      have hsn := textL_snoc hb
      have hall : (KBw.bInts b).take b.size = KBw.bInts b := List.take_of_length_le (by rw [KBw.ints_length]; exact Nat.le_refl _)
      rw [hall] at ht2
      have hzz5 : (textL (ws.take i) ++ encL (KBw.bInts b) ++ [46]).length ≤ sizeLine := by
        have := hzt b.size
        rw [hall] at this
        rw [List.length_append, sizeLine_eq]; simp only [List.length_cons, List.length_nil]; omega
      replace F8 := fr_know (x := Str.ofString "text") F8 ht2
      k_steps
      refine TurnG.next (by k_asm) (by k_asm) off9 hS ⟨rfl, some_str rfl (congrArg strL hsn.symm)⟩
  · rintro m₁ nw h tk ⟨rfl, t, ht⟩ F9 N9
    have hall : ws.take vs.toArray.size = ws := List.take_of_length_le (by simp [hlen])
    rw [hall] at ht
    replace F9 := fr_know (x := Str.ofString "text") F9 ht
    k_steps
    exact hret _ [] _ _ (by k_asm) (by k_asm) nl_nil ⟨rfl, _, rfl⟩
end Mine

end
section
open PySem PySem.W PyProof.Rows PySem.Calls
set_option Elab.async false
set_option maxRecDepth 100000
set_option maxHeartbeats 8000000
namespace Mine
example : True := by w_top off; trivial
set_option maxHeartbeats 2000000
open PyProof.Rows.LCg
local macro_rules | `(tactic| k_all) => `(tactic| first | exact ne_lt4 (by assumption) | exact ne_lt4 (And.right (by assumption)) | exact ne_lt4 (And.right (And.right (by assumption))) | exact ne_lt1 (by assumption) | exact ne_lt2 (by assumption) | exact ne_lt3 (by assumption) | exact ne_lt3 (And.right (by assumption)) | exact ne_lt3 (And.right (And.right (by assumption))) | exact ne_lt3 (And.right (And.right (And.right (by assumption)))) | fail "no")
local macro_rules | `(tactic| walk_at "eval ListComp") => `(tactic| (k_here; k_dflt (refine ListComp_G (F₀ := by k_asm) (by rfl) (by decide) (by rfl) (by decide) (by rfl) ?_)))
local macro_rules | `(tactic| walk_at "call ref") => `(tactic| (k_here; (with_reducible show wpAny _ _ (call (Value.ref 140) [Value.bytes _ _]) _ _ _); k_dflt (refine' (lower_ctr _ _ _ ?kb).useO ?k1 ?k2 ?k3 ?k4 ?k5 ?kK ?kn ?kd ?ku ?_; (case k1 => k_asm); (case k2 => k_asm); (case k3 => k_asm); (case k4 => k_asm); (case k5 => k_asm); (case kK => exact rfl); (case kd => exact Nat.le_of_ble_eq_true rfl); (case ku => exact Nat.le_of_ble_eq_true rfl); (case kn => exact no_need); (case kb => assumption)); intro a9 o9 h9 tk9 F9 N9 off9 e9; obtain ⟨vs9, e9, hI9⟩ := e9; subst e9; (try simp only [LCg.Off1, and_true] at off9); (try dsimp only); (try k_fold)))

def lowD (b : Array UInt8) : Dat := .list ((lowL b).map .int)
theorem dat_ints {news : List (Addr × Obj)} : ∀ {vs : List Value} {ns : List Int}, IntsAre vs ns → DatAll news vs (ns.map .int)
  | _, _, .nil => .nil
  | _, _, .cons n t r => .cons (.int n t) (dat_ints r)
theorem lowD_ok (b : Array UInt8) : kqdOk 8 (lowD b) = true := by
  show ((lowL b).map Dat.int).all (kqdOk 7) = true
  rw [List.all_map]
  exact List.all_eq_true.mpr fun _ _ => rfl
theorem int_map_inj : ∀ {a b : List Int}, a.map Dat.int = b.map Dat.int → a = b
  | [], [], _ => rfl
  | [], _ :: _, h => by simp at h
  | _ :: _, [], h => by simp at h
  | x :: a, y :: b, h => by
    simp only [List.map_cons, List.cons.injEq, Dat.int.injEq] at h
    rw [h.1, int_map_inj h.2]
theorem lowD_map : ∀ {ws ws2 : List (Array UInt8)}, ws.map lowD = ws2.map lowD ↔ ws.map lowL = ws2.map lowL
  | [], [] => by simp
  | [], _ :: _ => by simp
  | _ :: _, [] => by simp
  | a :: ws, b :: ws2 => by
    have ih := lowD_map (ws := ws) (ws2 := ws2)
    simp only [List.map_cons, List.cons.injEq, ih]
    constructor
    · rintro ⟨h, r⟩
      exact ⟨int_map_inj (by simpa [lowD] using h), r⟩
    · rintro ⟨h, r⟩
      exact ⟨by unfold lowD; rw [h], r⟩
theorem alike_eq {prog : Program} {w : World} {A : Around} {E : Value → Shared → Prop} {s : Shared} {h₀ : Heap} {L a b : Addr} {news n₁ n₂ : List (Addr × Obj)} {xs ys : List Value} {ws ws2 : List (Array UInt8)} {Q : Value → Shared → Prop} (N : News h₀ L s.heap news) (ma : (a, lst xs) ∈ news) (Da : DatAll n₁ xs (ws.map lowD)) (sa : ∀ p ∈ n₁, p ∈ news)
    (mb : (b, lst ys) ∈ news) (Db : DatAll n₂ ys (ws2.map lowD)) (sb : ∀ p ∈ n₂, p ∈ news) (hu : A.units + 64 < cLine) (h : Q (.bool (decide (ws.map lowL = ws2.map lowL))) s) : wpAny (model prog w) A (compareOp .Eq (.ref a) (.ref b)) Q E s := by
  refine kqd_eq N ma rfl rfl Da sa mb rfl rfl Db sb (fun d hd => ?_) (fun d hd => ?_) hu ?_
  · obtain ⟨c, _, rfl⟩ := List.mem_map.mp hd; exact lowD_ok c
  · obtain ⟨c, _, rfl⟩ := List.mem_map.mp hd; exact lowD_ok c
  · rw [decide_eq_decide.mpr (lowD_map (ws := ws) (ws2 := ws2))]
    exact h
theorem alike_ctr (w : World) (l l2 : Addr) (vs vs2 : List Value) (n n2 : Nat) (ws ws2 : List (Array UInt8)) (hv : BytesAre vs ws) (hv2 : BytesAre vs2 ws2) (hw : ∀ b ∈ ws, WordOk b) (hw2 : ∀ b ∈ ws2, WordOk b) (hz : ws.length ≤ 4) (hz2 : ws2.length ≤ 4) :
    Ctr w 970 9600 (.ref 157) [.ref l, .ref l2] [(l, listOf vs.toArray n), (l2, listOf vs2.toArray n2)] (fun r nl => nl = [] ∧ r = .bool (decide (ws.map lowL = ws2.map lowL))) := by
  intro mean mg mb gd cn cs a ccd cl outer A₀ base h₀ L m news s Q E hk B F X N T need hret
  obtain ⟨kd, nm, ig, ic, mo⟩ := cs
  obtain rfl : kd = .function := hk
  refine wpAny_call ?_
  k_dflt k_enter
  have hl : (l, listOf vs.toArray n) ∈ news := need _ (.head _)
  have hl2 : (l2, listOf vs2.toArray n2) ∈ news := need _ (.tail _ (.head _))
  have hlen : vs.length = ws.length := hv.length
  have hlen2 : vs2.length = ws2.length := hv2.length
  k_steps
  refine srcG_list rfl (by k_asm) (by k_asm) hl (by rw [List.size_toArray, hlen]; exact Nat.le_trans hz (by decide)) ?_
  intro g tk
  refine rest_ind (fun i ys nw => (∃ nl, nw = nl ++ news) ∧ DatAll nw ys ((ws.take i).map lowD)) ?_ ?_ _ 0 [] news (Nat.zero_add _) ⟨⟨[], rfl⟩, .nil⟩
  · rintro i ys nw v I oI C oC D m₂ h tk E' hi ⟨⟨nl, rfl⟩, hD⟩ hP hC hx F8 N8 off8 ne8
    obtain ⟨b, hb, tb, rfl⟩ := hv.get (by simpa using hP)
    have hbz : b.size ≤ sizeLine := (hw b (List.mem_of_getElem? hb)).size
    k_steps
    refine end_grow (by k_asm) (by k_asm) off8 (by k_asm) (srcAt_mem (List.mem_cons_of_mem _ (List.mem_append.mpr (.inr hl)))) ⟨⟨_ :: nl, rfl⟩, ?_⟩
    rw [take_snoc hb, List.map_append]
    exact (hD.mono fun p hp => List.mem_cons_of_mem _ hp).append (.one (.list (.head _) (dat_ints (by k_asm))))
  · rintro ys nw ⟨⟨nl, rfl⟩, hD⟩
    have hall : ws.take vs.toArray.size = ws := List.take_of_length_le (by simp [hlen])
    rw [hall] at hD
    have hl2' : (l2, listOf vs2.toArray n2) ∈ nl ++ news := List.mem_append.mpr (.inr hl2)
    k_steps
    refine srcG_list rfl (by k_asm) (by k_asm) (List.mem_cons_of_mem _ hl2') (by rw [List.size_toArray, hlen2]; exact Nat.le_trans hz2 (by decide)) ?_
    intro g2 tk2
    refine rest_ind (fun i ys2 nw => (∃ nl2, nw = nl2 ++ _) ∧ DatAll nw ys2 ((ws2.take i).map lowD)) ?_ ?_ _ 0 [] _ (Nat.zero_add _) ⟨⟨[], rfl⟩, .nil⟩
    · rintro i ys2 nw v I oI C oC D m₂ h tk E' hi ⟨⟨nl2, rfl⟩, hD2⟩ hP hC hx F8 N8 off8 ne8
      obtain ⟨b, hb, tb, rfl⟩ := hv2.get (by simpa using hP)
      have hbz : b.size ≤ sizeLine := (hw2 b (List.mem_of_getElem? hb)).size
      k_steps
      refine end_grow (by k_asm) (by k_asm) off8 (by k_asm) (srcAt_mem (List.mem_cons_of_mem _ (List.mem_append.mpr (.inr (List.mem_cons_of_mem _ hl2'))))) ⟨⟨_ :: nl2, rfl⟩, ?_⟩
      rw [take_snoc hb, List.map_append]
      exact (hD2.mono fun p hp => List.mem_cons_of_mem _ hp).append (.one (.list (.head _) (dat_ints (by k_asm))))
    · rintro ys2 nw ⟨⟨nl2, rfl⟩, hD2⟩
      have hall2 : ws2.take vs2.toArray.size = ws2 := List.take_of_length_le (by simp [hlen2])
      rw [hall2] at hD2
      k_steps
      refine alike_eq (by k_asm) (List.mem_cons_of_mem _ (List.mem_append.mpr (.inr (.head _)))) hD (fun p hp => List.mem_cons_of_mem _ (List.mem_append.mpr (.inr (List.mem_cons_of_mem _ hp)))) (.head _) hD2 (fun p hp => List.mem_cons_of_mem _ hp) (Nat.le_of_ble_eq_true rfl) ?_
      k_steps
      exact hret _ [] _ _ (by k_asm) (News.of_sub (by k_asm) fun p hp => List.mem_cons_of_mem _ (List.mem_append.mpr (.inr (List.mem_cons_of_mem _ (List.mem_append.mpr (.inr hp)))))) nl_nil ⟨rfl, rfl⟩
end Mine

end
section
open PySem PySem.W PyProof.Rows PySem.Calls
set_option Elab.async false
set_option maxRecDepth 100000
set_option maxHeartbeats 8000000
namespace Mine
example : True := by w_top off; trivial
local macro_rules | `(tactic| walk_at "no such goal") => `(tactic| fail "no")
local macro_rules | `(tactic| walk_at "no such goal") => `(tactic| fail "no")
local macro_rules | `(tactic| walk_at "no such goal") => `(tactic| fail "no")
set_option maxHeartbeats 1000000
open PyProof.Rows.LCg
local macro_rules | `(tactic| k_mem) => `(tactic| first | (with_reducible assumption) | (with_reducible exact List.mem_cons_self) | (with_reducible refine List.mem_cons_of_mem _ ?_; k_mem) | fail "no")
local macro_rules | `(tactic| k_all) => `(tactic| first | exact ne_lt4 (by assumption) | exact ne_lt4 (And.right (by assumption)) | exact ne_lt4 (And.right (And.right (by assumption))) | exact ne_lt1 (by assumption) | exact ne_lt2 (by assumption) | exact ne_lt3 (by assumption) | exact ne_lt3 (And.right (by assumption)) | exact ne_lt3 (And.right (And.right (by assumption))) | exact ne_lt3 (And.right (And.right (And.right (by assumption)))) | fail "no")
local macro_rules | `(tactic| walk_at "call type:range") => `(tactic| (k_here; (rename Fr _ _ _ _ => F'); (rename News _ _ _ _ => N'); first | (with_unfolding_all refine range1_rows F' N' ?_; intro _ _ _ _ _ _ _ _ _) | (with_unfolding_all refine range2_rows F' N' ?_; intro _ _ _ _ _ _ _ _ _)))
local macro_rules | `(tactic| walk_at "call builtin:len") => `(tactic| (k_here; (with_reducible show wpAny _ _ (call (Value.builtin "len") [Value.ref _]) _ _ _); k_dflt (refine len_led (by k_asm) (by k_mem) (by assumption) ?_)))
local macro_rules | `(tactic| walk_at "exec For Name Call cons nil") => `(tactic| (k_here; k_dflt (refine For_G (by k_asm) (by rfl) (by rfl) ?_)))
local macro_rules | `(tactic| walk_at "call ref") => `(tactic| (k_here; (with_reducible show wpAny _ _ (call (Value.ref 140) [Value.bytes _ _]) _ _ _); k_dflt (refine' (lower_ctr _ _ _ ?kb).useO ?k1 ?k2 ?k3 ?k4 ?k5 ?kK ?kn ?kd ?ku ?_; (case k1 => k_asm); (case k2 => k_asm); (case k3 => k_asm); (case k4 => k_asm); (case k5 => k_asm); (case kK => exact rfl); (case kd => exact Nat.le_of_ble_eq_true rfl); (case ku => exact Nat.le_of_ble_eq_true rfl); (case kn => exact no_need); (case kb => assumption)); intro a9 o9 h9 tk9 F9 N9 off9 e9; obtain ⟨vs9, e9, hI9⟩ := e9; subst e9; (try simp only [LCg.Off1, and_true] at off9); (try dsimp only); (try k_fold)))

local macro_rules | `(tactic| walk_at "subscriptTail") => `(tactic| (k_here; (with_reducible show wpAny _ _ (subscriptTail _ _ (Value.ref _) (Value.int _ _)) _ _ _); k_dflt (refine' item_neg ?N ?m ?a ?b ?c ?d ?_; (case N => k_asm); (case m => k_mem); (case d => assumption); (case a => omega); (case b => omega); (case c => omega))))

theorem rangeSize_to (n : Nat) : Builtin.Range.rangeSize 1 (((n + 1 : Nat) : Int) + 1) 1 = ((n + 1 : Nat) : Int) := by
  unfold Builtin.Range.rangeSize
  rw [if_pos (by decide), if_pos (by omega), Int.ediv_one]
  omega
def isStar (p : Array UInt8) : Bool := p.toList == [42]
def hitB (p b : Array UInt8) : Bool := isStar p || decide (lowL p = lowL b)
def hitsL (ps ws : List (Array UInt8)) : List Bool := (ps.reverse.zip ws.reverse).map fun x => hitB x.1 x.2
def fitsB (ws : List (Array UInt8)) (p0 : Array UInt8) (ps : List (Array UInt8)) : Bool := (isStar p0 || ws.length == ps.length + 1) && (hitsL (p0 :: ps) ws).all id
theorem bytes_neg : ∀ {vs : List Value} {ws : List (Array UInt8)} {i : Nat}, BytesAre vs ws → i < ws.length → ∃ b t, ws.reverse[i]? = some b ∧ b ∈ ws ∧ vs.toArray[(-(1 + (i : Int)) + (vs.toArray.size : Int)).toNat]? = some (.bytes b t) := by
  intro vs ws i h hi
  have hl := h.length
  have hv : ws.length - 1 - i < vs.length := by omega
  obtain ⟨b, hb, t, ht⟩ := h.get (List.getElem?_eq_getElem hv)
  refine ⟨b, t, ?_, List.mem_of_getElem? hb, ?_⟩
  · rw [List.getElem?_reverse hi, hb]
  · have e : (-(1 + (i : Int)) + (vs.toArray.size : Int)).toNat = ws.length - 1 - i := by rw [List.size_toArray, hl]; omega
    rw [e, ← ht]
    simp [hv]
theorem fits_ctr (w : World) (l l2 : Addr) (vs vs2 : List Value) (n n2 : Nat) (ws : List (Array UInt8)) (p0 : Array UInt8) (ps : List (Array UInt8)) (hv : BytesAre vs ws) (hv2' : BytesAre vs2 (p0 :: ps)) (hw : ∀ b ∈ ws, WordOk b) (hw2 : ∀ b ∈ p0 :: ps, WordOk b) (hz : ws.length ≤ 4) (hz2 : ps.length + 1 ≤ ws.length) :
    Ctr w 970 9600 (.ref 164) [.ref l, .ref l2] [(l, listOf vs.toArray n), (l2, listOf vs2.toArray n2)] (fun r nl => nl = [] ∧ r = .bool (fitsB ws p0 ps)) := by
  obtain ⟨v0, vs2, rfl⟩ : ∃ v r, vs2 = v :: r := by
    cases vs2 with
    | nil => exact hv2'.elim
    | cons v r => exact ⟨v, r, rfl⟩
  obtain ⟨⟨t0, rfl⟩, hv2⟩ := id hv2'
  intro mean mg mb gd cn cs a ccd cl outer A₀ base h₀ L m news s Q E hk B F X N T need hret
  obtain ⟨kd, nm, ig, ic, mo⟩ := cs
  obtain rfl : kd = .function := hk
  refine wpAny_call ?_
  k_dflt k_enter
  rename_i gN LN hN FGN FN NN BN XN TN
  have hl : (l, listOf vs.toArray n) ∈ news := need _ (.head _)
  have hl2 : (l2, listOf (.bytes p0 t0 :: vs2).toArray n2) ∈ news := need _ (.tail _ (.head _))
  have hlen : vs.length = ws.length := hv.length
  have hlen2 : vs2.length = ps.length := hv2.length
  have hs1 : vs.toArray.size ≤ 1048576 := by simp only [List.size_toArray]; omega
  have hs2 : (Value.bytes p0 t0 :: vs2).toArray.size ≤ 1048576 := by simp only [List.size_toArray, List.length_cons]; omega
  have hs3 : (Value.bytes p0 t0 :: vs2).toArray.size = ps.length + 1 := by simp only [List.size_toArray, List.length_cons]; omega
  have hs4 : vs.toArray.size = ws.length := by simp only [List.size_toArray]; omega
  refine wpAny_execs_cons ?_
  refine cut FN NN (fun f => (f = .ret (.bool false) ∧ (isStar p0 || ws.length == ps.length + 1) = false) ∨ (f = .next ∧ (isStar p0 || ws.length == ps.length + 1) = true)) ?_ ?_
  · intro E1
    k_steps
    refine item_pos (v := .bytes p0 t0) (by k_asm) hl2 (by decide) (by decide) rfl ?_
    k_steps
    · rename_i h1 h2
      refine CutEnd.intro (by k_asm) (by k_asm) (.inl ⟨rfl, ?_⟩)
      rw [hs3, hs4] at h2
      simp only [isStar, Bool.or_eq_false_iff, beq_eq_false_iff_ne, ne_eq]
      refine ⟨by simpa using h1, by omega⟩
    · rename_i h1 h2
      refine CutEnd.intro (by k_asm) (by k_asm) (.inr ⟨rfl, ?_⟩)
      rw [hs3, hs4] at h2
      simp only [isStar, Bool.or_eq_true, beq_iff_eq]
      right
      omega
    · rename_i h1
      refine CutEnd.intro (by k_asm) (by k_asm) (.inr ⟨rfl, ?_⟩)
      simp only [isStar, Bool.or_eq_true, beq_iff_eq]
      left
      simpa using h1
  · rintro f h8 tk8 (⟨rfl, hc⟩ | ⟨rfl, hc⟩) F8 N8
    · clear FN NN
      k_steps
      refine hret _ [] _ _ (by k_asm) (by k_asm) nl_nil ⟨rfl, ?_⟩
      unfold fitsB; rw [hc]; rfl
    · clear FN NN
      k_steps
      rename IsRange _ _ _ _ _ _ _ _ => RG
      refine ⟨_, ps.length + 1, _, _, news, fun i m nw => nw = news ∧ m (Str.ofString "good") = some (.bool (((hitsL (p0 :: ps) ws).take i).all id)) ∧ m (Str.ofString "words") = some (.ref l) ∧ m (Str.ofString "pattern") = some (.ref l2), by k_asm, by k_asm, trivial, iter_range rfl RG (small_one (by decide) (by decide) (by omega) (by omega)) (by rw [hs3]; exact rangeSize_to _), ⟨rfl, rfl, rfl, rfl⟩, ?_, ?_⟩
      · rintro i v m₁ nw h tk I oI E' hi ⟨tv, rfl⟩ ⟨rfl, hg, hwd, hpt⟩ _ F9 N9 off9
        have hl' : (l, listOf vs.toArray n) ∈ (I, oI) :: nw := List.mem_cons_of_mem _ hl
        have hl2' : (l2, listOf (.bytes p0 t0 :: vs2).toArray n2) ∈ (I, oI) :: nw := List.mem_cons_of_mem _ hl2
        obtain ⟨b, tb, hb, hbm, hbx⟩ := bytes_neg hv (i := i) (by omega)
        obtain ⟨p, tp, hp, hpm, hpx⟩ := bytes_neg hv2' (i := i) (by simpa using hi)
        have hbz : b.size ≤ sizeLine := (hw b hbm).size
        have hpz : p.size ≤ sizeLine := (hw2 p hpm).size
        have hit : (hitsL (p0 :: ps) ws)[i]? = some (hitB p b) := by
          unfold hitsL
          rw [List.getElem?_map, List.getElem?_zip_eq_some (z := (p, b)) |>.mpr ⟨hp, hb⟩]
          rfl
        have hnx : ((hitsL (p0 :: ps) ws).take (i + 1)).all id = (((hitsL (p0 :: ps) ws).take i).all id && hitB p b) := by
          rw [take_snoc hit, List.all_append]
          simp
        dsimp only at F9 N9 ⊢
        replace F9 := fr_know (x := Str.ofString "good") F9 hg
        replace F9 := fr_know (x := Str.ofString "words") F9 hwd
        replace F9 := fr_know (x := Str.ofString "pattern") F9 hpt
        k_steps
        all_goals (try dsimp only)
        · refine TurnG.next (by k_asm) (by k_asm) off9 trivial ⟨rfl, ?_, rfl, rfl⟩
          have e : hitB p b = (p.toList == #[42].toList) := by
            unfold hitB isStar
            have g2 : (p.toList == [42]) = true := by assumption
            rw [g2, Bool.true_or]
          have g4 : ((hitsL (p0 :: ps) ws).take i).all id = true := by assumption
          rw [hnx, g4, Bool.true_and, e]
          rfl
        · refine TurnG.next (by k_asm) (News.of_sub (by k_asm) fun p hp => List.mem_cons_of_mem _ (List.mem_cons_of_mem _ hp)) off9 trivial ⟨rfl, ?_, rfl, rfl⟩
          have e : hitB p b = decide (lowL p = lowL b) := by
            unfold hitB isStar
            have g3 : (p.toList == [42]) = false := by assumption
            rw [g3, Bool.false_or]
          have g4 : ((hitsL (p0 :: ps) ws).take i).all id = true := by assumption
          rw [hnx, g4, Bool.true_and, e]
          rfl
        · refine TurnG.next (by k_asm) (by k_asm) off9 trivial ⟨rfl, ?_, rfl, rfl⟩
          have g4 : ((hitsL (p0 :: ps) ws).take i).all id = false := by assumption
          rw [hnx, g4, Bool.false_and]
          rfl
      · rintro m₁ nw h tk ⟨rfl, hg, hwd, hpt⟩ F9 N9
        have hall : ((hitsL (p0 :: ps) ws).take (ps.length + 1)) = hitsL (p0 :: ps) ws := List.take_of_length_le (by
          unfold hitsL
          rw [List.length_map, List.length_zip, List.length_reverse, List.length_reverse, List.length_cons]
          omega)
        rw [hall] at hg
        replace F9 := fr_know (x := Str.ofString "good") F9 hg
        k_steps
        refine hret _ [] _ _ (by k_asm) (by k_asm) nl_nil ⟨rfl, ?_⟩
        unfold fitsB; rw [hc]; rfl
end Mine

end
section
open PySem PySem.W PyProof.Rows PySem.Calls
set_option Elab.async false
set_option maxRecDepth 100000
set_option maxHeartbeats 8000000
namespace Mine
open PySem.Builtin
namespace BL
theorem slot_lower : Slot "bytes" "lower" "bytes.lower" :=
  .of (owner := "bytes") (n := "lower") (by rw [typeLookup_type, builtinLookup_eq_fast]; kernel_rfl) (by decide +kernel) (by decide +kernel) (by decide +kernel)
    (by first | exact .inl (by decide +kernel) | exact .inr (by decide +kernel)) (by rw [isSubtype_type]; kernel_rfl)
theorem type_lower : typeOf (.builtin "bytes.lower") = pure (.type "method_descriptor") := by show builtinType _ = _; rw [builtinType_eq_fast]; kernel_rfl
theorem entry_lower : entryFor table "bytes.lower" = some Builtin.«bytes.lower» := entryFor_of_tree (by kernel_rfl)
theorem args_lower (a : Value) : argsOk "bytes.lower" ⟨[a], []⟩ := by unfold argsOk; kernel_rfl
theorem slot_rstrip : Slot "bytes" "rstrip" "bytes.rstrip" :=
  .of (owner := "bytes") (n := "rstrip") (by rw [typeLookup_type, builtinLookup_eq_fast]; kernel_rfl) (by decide +kernel) (by decide +kernel) (by decide +kernel)
    (by first | exact .inl (by decide +kernel) | exact .inr (by decide +kernel)) (by rw [isSubtype_type]; kernel_rfl)
theorem type_rstrip : typeOf (.builtin "bytes.rstrip") = pure (.type "method_descriptor") := by show builtinType _ = _; rw [builtinType_eq_fast]; kernel_rfl
theorem entry_rstrip : entryFor table "bytes.rstrip" = some Builtin.«bytes.rstrip» := entryFor_of_tree (by kernel_rfl)
theorem args_rstrip (a b : Value) : argsOk "bytes.rstrip" ⟨[a, b], []⟩ := by unfold argsOk; kernel_rfl
theorem slot_split : Slot "bytes" "split" "bytes.split" :=
  .of (owner := "bytes") (n := "split") (by rw [typeLookup_type, builtinLookup_eq_fast]; kernel_rfl) (by decide +kernel) (by decide +kernel) (by decide +kernel)
    (by first | exact .inl (by decide +kernel) | exact .inr (by decide +kernel)) (by rw [isSubtype_type]; kernel_rfl)
theorem type_split : typeOf (.builtin "bytes.split") = pure (.type "method_descriptor") := by show builtinType _ = _; rw [builtinType_eq_fast]; kernel_rfl
theorem entry_split : entryFor table "bytes.split" = some Builtin.«bytes.split» := entryFor_of_tree (by kernel_rfl)
theorem args_split (a b : Value) : argsOk "bytes.split" ⟨[a, b], []⟩ := by unfold argsOk; kernel_rfl
theorem slot_join : Slot "bytes" "join" "bytes.join" :=
  .of (owner := "bytes") (n := "join") (by rw [typeLookup_type, builtinLookup_eq_fast]; kernel_rfl) (by decide +kernel) (by decide +kernel) (by decide +kernel)
    (by first | exact .inl (by decide +kernel) | exact .inr (by decide +kernel)) (by rw [isSubtype_type]; kernel_rfl)
theorem type_join : typeOf (.builtin "bytes.join") = pure (.type "method_descriptor") := by show builtinType _ = _; rw [builtinType_eq_fast]; kernel_rfl
theorem entry_join : entryFor table "bytes.join" = some Builtin.«bytes.join» := entryFor_of_tree (by kernel_rfl)
theorem args_join (a b : Value) : argsOk "bytes.join" ⟨[a, b], []⟩ := by unfold argsOk; kernel_rfl

def lowB (b : Array UInt8) : Array UInt8 := (b.toList.map Bytes.toLower).toArray
theorem eq_lower (b : Array UInt8) (t : Tok) : «bytes.lower» ⟨[.bytes b t], []⟩ = (mkBytes (lowB b) >>= fun v => ret v) := by kernel_rfl
section
variable {prog : Program} {w : World} {A : Around} {E : Value → Shared → Prop} {s : Shared} {b c : Array UInt8} {t u : Tok} {Q : Value → Shared → Prop}
theorem wp_mkBytes {M : Model} (hz : b.size ≤ sizeLine) (h : Q (.bytes b s.toks) { s with toks := s.toks + 1 }) : wpAny M A (mkBytes b) Q E s := by
  unfold mkBytes
  rw [if_neg (by omega)]
  exact fun _ _ _ => h
theorem lower_m {M : Model} {pl : Sem Bool} {Q : Value × List Value → Shared → Prop} (h : Q (.builtin "bytes.lower", [.bytes b t]) s) : wpAny M A (getMethod (.bytes b t) (Str.ofString "lower") pl) Q E s :=
  by with_reducible exact KBd.method_of (.bytes b t) (typeIs_bytes _ _ _) slot_lower type_lower KBd.noRef h
theorem lower_c (hz : b.size ≤ sizeLine) (h : Q (.bytes (lowB b) s.toks) { s with toks := s.toks + 1 }) : wpAny (model prog w) A (call (.builtin "bytes.lower") [.bytes b t]) Q E s := by
  refine call_meets slot_lower (typeIs_bytes _ _ _) entry_lower (args_lower _) (S := fun _ R s => R (.ok (.ret (.bytes (lowB b) s.toks))) { s with toks := s.toks + 1 }) (.of_wp fun prog w A R s hS => ?_) h
  rw [eq_lower]
  exact wpAny_bind (wp_mkBytes (by simpa [lowB] using hz) (wpAny_pure ⟨_, rfl, hS⟩))
def rstB (b c : Array UInt8) : List UInt8 := (b.toList.reverse.dropWhile c.contains).reverse
theorem rstrip_m {M : Model} {pl : Sem Bool} {Q : Value × List Value → Shared → Prop} (h : Q (.builtin "bytes.rstrip", [.bytes b t]) s) : wpAny M A (getMethod (.bytes b t) (Str.ofString "rstrip") pl) Q E s :=
  by with_reducible exact KBd.method_of (.bytes b t) (typeIs_bytes _ _ _) slot_rstrip type_rstrip KBd.noRef h
theorem rstB_le (b c : Array UInt8) : (rstB b c).length ≤ b.size := by
  unfold rstB
  rw [List.length_reverse]
  have := (List.dropWhile_suffix (l := b.toList.reverse) c.contains).length_le
  simpa using this
theorem rstB_all {b c : Array UInt8} (h : (rstB b c).length = b.size) : rstB b c = b.toList := by
  unfold rstB at h ⊢
  have hs := List.dropWhile_suffix (l := b.toList.reverse) c.contains
  have hl : (b.toList.reverse.dropWhile c.contains).length = b.toList.reverse.length := by simpa using h
  rw [hs.eq_of_length hl, List.reverse_reverse]
theorem rstrip_c (hz : b.size ≤ sizeLine) (h : ∀ t' k, Q (.bytes (rstB b c).toArray t') { s with toks := k }) : wpAny (model prog w) A (call (.builtin "bytes.rstrip") [.bytes b t, .bytes c u]) Q E s := by
  refine call_meets slot_rstrip (typeIs_bytes _ _ _) entry_rstrip (args_rstrip _ _) (S := fun _ R s => ∀ t' k, R (.ok (.ret (.bytes (rstB b c).toArray t'))) { s with toks := k }) (.of_wp fun prog w A R s hS => ?_) h
  show wpAny _ _ (Bytes.bytesLike _ (.bytes c u) >>= fun r => _) _ _ s
  refine wpAny_bind (wpAny_of_eq KBd.like_eq ?_)
  show wpAny _ _ (if (rstB b c).length == b.size then (do rule _; ret (.bytes b t)) else (do ret (← mkBytes (rstB b c).toArray))) _ _ s
  split
  · rename_i he
    refine wpAny_bind (wpAny_rule ?_)
    refine wpAny_pure ⟨_, rfl, ?_⟩
    have e : (rstB b c).toArray = b := by rw [rstB_all (by simpa using he)]
    have := hS t s.toks
    rw [e] at this
    exact this
  · exact wpAny_bind (wp_mkBytes (by rw [List.size_toArray]; exact Nat.le_trans (rstB_le b c) hz) (wpAny_pure ⟨_, rfl, hS _ _⟩))

end
end BL
end Mine

end
section
open PySem PySem.W PyProof.Rows PySem.Calls
set_option Elab.async false
set_option maxRecDepth 100000
set_option maxHeartbeats 8000000
namespace Mine
open PySem.Builtin
namespace BL
section
variable {prog : Program} {w : World} {A : Around} {E : Value → Shared → Prop} {s : Shared} {b c : Array UInt8} {t u : Tok} {Q : Value → Shared → Prop}
theorem split_m {M : Model} {pl : Sem Bool} {Q : Value × List Value → Shared → Prop} (h : Q (.builtin "bytes.split", [.bytes b t]) s) : wpAny M A (getMethod (.bytes b t) (Str.ofString "split") pl) Q E s :=
  by with_reducible exact KBd.method_of (.bytes b t) (typeIs_bytes _ _ _) slot_split type_split KBd.noRef h
/-- the pieces that the split leaves -/
def pieces (b : Array UInt8) : List (Array UInt8) := Bytes.between b 1 ((Bytes.occurrences b #[46] 0 b.size).take (b.size + 1))
theorem wp_mkAll {M : Model} {Q : List Value → Shared → Prop} : ∀ (l : List (Array UInt8)) {s : Shared}, (∀ p ∈ l, p.size ≤ sizeLine) → (∀ vs k, BytesAre vs l → Q vs { s with toks := k }) → wpAny M A (l.mapM mkBytes) Q E s
  | [], s, _, h => by
    rw [List.mapM_nil]
    exact wpAny_pure (h [] s.toks trivial)
  | p :: l, s, hz, h => by
    rw [List.mapM_cons]
    refine wpAny_bind (wp_mkBytes (hz p (.head _)) (wpAny_bind (wp_mkAll l (fun q hq => hz q (.tail _ hq)) fun vs k hv => wpAny_pure ?_)))
    exact h (_ :: vs) k ⟨⟨_, rfl⟩, hv⟩
theorem wp_newList {M : Model} {vs : List Value} (hz : vs.length ≤ sizeLine) (h : Q (.ref s.heap.objs.size) { s with heap := s.heap.push (listOf vs.toArray 0) }) : wpAny M A (newList vs) Q E s :=
  wpAny_newObj_type h (by show vs.toArray.size ≤ sizeLine; rw [List.size_toArray]; exact hz)
theorem split_c (hz : ∀ p ∈ pieces b, p.size ≤ sizeLine) (hn : (pieces b).length ≤ sizeLine) (h : ∀ vs k, BytesAre vs (pieces b) → Q (.ref s.heap.objs.size) { s with heap := s.heap.push (listOf vs.toArray 0), toks := k }) : wpAny (model prog w) A (call (.builtin "bytes.split") [.bytes b t, .bytes #[46] u]) Q E s := by
  refine call_meets slot_split (typeIs_bytes _ _ _) entry_split (args_split _ _) (S := fun _ R s => ∀ vs k, BytesAre vs (pieces b) → R (.ok (.ret (.ref s.heap.objs.size))) { s with heap := s.heap.push (listOf vs.toArray 0), toks := k }) (.of_wp fun prog w A R s hS => ?_) h
  show wpAny _ _ (Bytes.bytesLike _ (.bytes #[46] u) >>= fun r => _) _ _ s
  refine wpAny_bind (wpAny_of_eq KBd.like_eq ?_)
  show wpAny _ _ (if ((Bytes.occurrences b #[46] 0 b.size).take (b.size + 1)).isEmpty then (do rule _; ret (← newList [← pure (.bytes b t)])) else (do ret (← newList (← (pieces b).mapM mkBytes)))) _ _ s
  split
  · rename_i he
    refine wpAny_bind (wpAny_rule ?_)
    have hp : pieces b = [b] := by
      unfold pieces
      rw [List.isEmpty_iff.mp he]
      simp [Bytes.between]
    refine wpAny_bind (wpAny_pure ?_)
    refine wpAny_bind (wp_newList (vs := [.bytes b t]) (Nat.le_of_ble_eq_true rfl) (wpAny_pure ⟨_, rfl, hS [.bytes b t] s.toks ?_⟩))
    rw [hp]
    exact ⟨⟨t, rfl⟩, trivial⟩
  · refine wpAny_bind (wp_mkAll _ hz fun vs k hv => ?_)
    exact wpAny_bind (wp_newList (by rw [hv.length]; exact hn) (wpAny_pure ⟨_, rfl, hS vs k hv⟩))
end
end BL
end Mine

end
section
open PySem PySem.W PyProof.Rows PySem.Calls
set_option Elab.async false
set_option maxRecDepth 100000
set_option maxHeartbeats 8000000
namespace Mine
open PySem.Builtin
namespace BL
def dots : Nat → List UInt8 → List Nat
  | _, [] => []
  | k, c :: r => if c = 46 then k :: dots (k + 1) r else dots (k + 1) r
def splitD : List UInt8 → List UInt8 → List (List UInt8)
  | cur, [] => [cur]
  | cur, c :: r => if c = 46 then cur :: splitD [] r else splitD (cur ++ [c]) r
theorem ext_one {l : List UInt8} {i : Nat} {c : UInt8} (h : l[i]? = some c) : (l.toArray.extract i (i + 1) == #[46]) = decide (c = 46) := by
  have e : l.toArray.extract i (i + 1) = #[c] := by
    apply Array.toList_inj.mp
    obtain ⟨hi, rfl⟩ := List.getElem?_eq_some_iff.mp h
    simp only [Array.toList_extract, List.extract_eq_take_drop, Nat.add_sub_cancel_left]
    rw [List.drop_eq_getElem_cons hi]
    rfl
  rw [e]
  by_cases hc : c = 46
  · subst hc; rfl
  · rw [decide_eq_false hc]
    simp only [beq_eq_false_iff_ne, ne_eq]
    intro q
    exact hc (by simpa using congrArg Array.toList q)
theorem occ_go (l : List UInt8) : ∀ (rest pre : List UInt8) (acc : List Nat × Nat), l = pre ++ rest → acc.2 ≤ pre.length →
    (((List.range' pre.length rest.length).map (· + 0)).foldl (fun (acc : List Nat × Nat) (i : Nat) => if i ≥ acc.2 && l.toArray.extract i (i + 1) == #[46] then (i :: acc.1, i + 1) else acc) acc).1.reverse = acc.1.reverse ++ dots pre.length rest
  | [], pre, acc, _, _ => by simp [dots]
  | c :: rest, pre, acc, hl, ha => by
    have hc : l[pre.length]? = some c := by rw [hl]; simp
    have ih := fun acc' h' => occ_go l rest (pre ++ [c]) acc' (by rw [hl]; simp) h'
    simp only [List.length_append, List.length_cons, List.length_nil] at ih
    rw [List.length_cons, List.range'_succ, List.map_cons, List.foldl_cons]
    simp only [Nat.add_zero, dots]
    rw [ext_one hc]
    by_cases h46 : c = 46
    · rw [if_pos h46, decide_eq_true h46, if_pos (by simpa using ha)]
      have := ih (pre.length :: acc.1, pre.length + 1) (by simp)
      simp only [Nat.zero_add] at this
      rw [List.map_congr_left (g := (· + 0)) (fun _ _ => rfl)] at this
      simp only [Nat.add_zero] at this ⊢
      rw [this]
      simp
    · rw [if_neg h46, decide_eq_false h46, Bool.and_false, if_neg (by decide)]
      have := ih acc (by omega)
      simp only [Nat.zero_add, Nat.add_zero] at this ⊢
      rw [this]
theorem occ_eq (l : List UInt8) : Bytes.occurrences l.toArray #[46] 0 l.toArray.size = dots 0 l := by
  unfold Bytes.occurrences
  have h := occ_go l l [] ([], 0) rfl (Nat.le_refl _)
  simp only [List.length_nil, List.reverse_nil, List.nil_append] at h
  rw [← h]
  simp only [List.size_toArray, List.range_eq_range', show (#[46] : Array UInt8).size = 1 from rfl, Nat.zero_add, Nat.add_sub_cancel]
theorem dots_len : ∀ (l : List UInt8) (k : Nat), (dots k l).length ≤ l.length
  | [], _ => by simp [dots]
  | c :: r, k => by
    have := dots_len r (k + 1)
    unfold dots
    split <;> simp only [List.length_cons] <;> omega
theorem between_go (l : List UInt8) : ∀ (rest pre cur : List UInt8) (parts : Array (Array UInt8)) (last : Nat), l = pre ++ rest → pre.drop last = cur → last ≤ pre.length →
    (fun x : Array (Array UInt8) × Nat => (x.1.push (l.toArray.extract x.2 l.toArray.size)).toList) ((dots pre.length rest).foldl (fun (x : Array (Array UInt8) × Nat) p => (x.1.push (l.toArray.extract x.2 p), p + 1)) (parts, last)) = parts.toList ++ (splitD cur rest).map List.toArray
  | [], pre, cur, parts, last, hl, hc, hle => by
    simp only [dots, List.foldl_nil, splitD, List.map_cons, List.map_nil, Array.toList_push]
    rw [List.append_nil] at hl
    subst hl
    congr 2
    apply Array.toList_inj.mp
    simp only [Array.toList_extract, List.extract_eq_take_drop, List.size_toArray]
    rw [hc, List.take_of_length_le]
    rw [← hc, List.length_drop]
    exact Nat.le_refl _
  | c :: rest, pre, cur, parts, last, hl, hc, hle => by
    have hl' : l = (pre ++ [c]) ++ rest := by rw [hl]; simp
    have hlen : (pre ++ [c]).length = pre.length + 1 := by simp
    unfold dots splitD
    by_cases h46 : c = 46
    · rw [if_pos h46, if_pos h46, List.foldl_cons]
      have := between_go l rest (pre ++ [c]) [] (parts.push (l.toArray.extract last pre.length)) (pre.length + 1) hl' (by simp) (by simp)
      rw [hlen] at this
      rw [this]
      simp only [Array.toList_push, List.map_cons, List.append_assoc, List.cons_append, List.nil_append]
      congr 2
      apply Array.toList_inj.mp
      simp only [Array.toList_extract, List.extract_eq_take_drop]
      rw [hl, List.drop_append_of_le_length hle, hc, List.take_append_of_le_length (by rw [← hc, List.length_drop]; exact Nat.le_refl _), List.take_of_length_le (by rw [← hc, List.length_drop]; exact Nat.le_refl _)]
    · rw [if_neg h46, if_neg h46]
      have := between_go l rest (pre ++ [c]) (cur ++ [c]) parts last hl' (by rw [List.drop_append_of_le_length hle, hc]) (by rw [hlen]; omega)
      rw [hlen] at this
      exact this
theorem pieces_eq (l : List UInt8) : pieces l.toArray = (splitD [] l).map List.toArray := by
  unfold pieces
  rw [occ_eq, List.take_of_length_le (Nat.le_succ_of_le (by simpa using dots_len l 0))]
  have := between_go l l [] [] #[] 0 rfl rfl (Nat.le_refl _)
  simp only [List.length_nil, List.nil_append] at this
  rw [← this]
  rfl
/-- the words with a point between -/
def gluedD : List (List UInt8) → List UInt8
  | [] => []
  | [w] => w
  | w :: r => w ++ 46 :: gluedD r
theorem split_word : ∀ (w cur r : List UInt8), (∀ c ∈ w, c ≠ 46) → splitD cur (w ++ r) = splitD (cur ++ w) r
  | [], cur, r, _ => by simp
  | c :: w, cur, r, h => by
    rw [List.cons_append, splitD, if_neg (h c (.head _)), split_word w _ r fun d hd => h d (.tail _ hd)]
    simp
theorem split_glued : ∀ (ws : List (List UInt8)), ws ≠ [] → (∀ w ∈ ws, ∀ c ∈ w, c ≠ 46) → splitD [] (gluedD ws) = ws
  | [], h, _ => absurd rfl h
  | [w], _, h => by
    have := split_word w [] [] (h w (.head _))
    simpa [gluedD, splitD] using this
  | w :: v :: r, _, h => by
    have := split_word w [] (46 :: gluedD (v :: r)) (h w (.head _))
    rw [gluedD, this, splitD, if_pos rfl, List.nil_append, split_glued (v :: r) (by simp) fun u hu => h u (.tail _ hu)]
    simp
theorem pieces_glued {ws : List (List UInt8)} (h : ws ≠ []) (hd : ∀ w ∈ ws, ∀ c ∈ w, c ≠ 46) : pieces (gluedD ws).toArray = ws.map List.toArray := by
  rw [pieces_eq, split_glued ws h hd]
end BL
end Mine

end
section
open PySem PySem.W PyProof.Rows PySem.Calls
set_option Elab.async false
set_option maxRecDepth 100000
set_option maxHeartbeats 8000000
namespace Mine
open PyProof.Rows.LCg
local macro_rules | `(tactic| k_mem) => `(tactic| first | assumption | (with_reducible exact List.mem_cons_self) | (with_reducible refine List.mem_cons_of_mem _ ?_; k_mem) | fail "no")
theorem sub_cons {a : Addr × Obj} {l B : List (Addr × Obj)} (h : a ∈ B) (r : ∀ p ∈ l, p ∈ B) : ∀ p ∈ a :: l, p ∈ B := fun p hp => by
  rcases List.mem_cons.mp hp with rfl | hp
  · exact h
  · exact r p hp
theorem BytesAre.drop : ∀ {vs : List Value} {ws : List (Array UInt8)}, BytesAre vs ws → ∀ j, BytesAre (vs.drop j) (ws.drop j)
  | _, _, h, 0 => h
  | [], [], _, _ + 1 => trivial
  | _ :: _, _ :: _, h, j + 1 => BytesAre.drop h.2 j
  | [], _ :: _, h, _ => h.elim
  | _ :: _, [], h, _ => h.elim
theorem BytesAre.take : ∀ {vs : List Value} {ws : List (Array UInt8)}, BytesAre vs ws → ∀ j, BytesAre (vs.take j) (ws.take j)
  | [], [], _, 0 => trivial
  | _ :: _, _ :: _, _, 0 => trivial
  | [], [], _, _ + 1 => trivial
  | _ :: _, _ :: _, h, j + 1 => ⟨h.1, BytesAre.take h.2 j⟩
  | [], _ :: _, h, _ => h.elim
  | _ :: _, [], h, _ => h.elim
theorem sub_here {l : List (Addr × Obj)} : ∀ p ∈ l, p ∈ l := fun _ h => h
theorem sub_skip {a : Addr × Obj} {l B : List (Addr × Obj)} (h : ∀ p ∈ l, p ∈ B) : ∀ p ∈ l, p ∈ a :: B := fun p hp => List.mem_cons_of_mem _ (h p hp)
abbrev tup (vs : List Value) : Obj := { cls := .type "tuple", data := .seq vs.toArray }
section
variable {prog : Program} {w : World} {A : Around} {E : Value → Shared → Prop} {s : Shared} {h₀ : Heap} {L l : Addr} {m : Str → Option Value} {news : List (Addr × Obj)} {u : Tok} {k : Int} {vs : List Value} {n : Nat} {v : Value} {Q : Value → Shared → Prop}
theorem tupOf (F : Fr h₀ L s.heap m) (N : News h₀ L s.heap news) (hm : (l, listOf vs.toArray n) ∈ news) (hz : vs.length ≤ 16384) (h : ∀ D h', Fr h₀ L h' m → News h₀ L h' ((D, tup vs) :: news) → (∀ p ∈ news, p.1 < D) → Q (.ref D) { s with heap := h' }) : wpAny (model prog w) A (call (.type "tuple") [.ref l]) Q E s :=
  kde_tupleOf F N (isList_of N hm) (by simpa using hz) (zs := vs) rfl h
end

/-- the dict of a name: its label is the tuple at t -/
abbrev labD (w : World) (k : Tok) (t : Addr) : Obj := dictOf [⟨PyData.keyHash w.params "label", .str "label" k, .ref t⟩] 1
/-- a new name with a new tuple of these words comes back -/
def NameR (w : World) (ws : List (Array UInt8)) (r : Value) (nl : List (Addr × Obj)) : Prop :=
  ∃ x d t k vs, nl = [(x, instObj 112 d), (d, labD w k t), (t, tup vs)] ∧ r = .ref x ∧ BytesAre vs ws
/-- a new name whose label is the tuple at t -/
def NameS (w : World) (t : Addr) (r : Value) (nl : List (Addr × Obj)) : Prop :=
  ∃ x d k, nl = [(x, instObj 112 d), (d, labD w k t)] ∧ r = .ref x
theorem nl_two {news : List (Addr × Obj)} {a b : Addr} {o o2 : Obj} (h : LCg.Off1 a news) (h2 : LCg.Off1 b news) : ∀ p ∈ news, ∀ q ∈ [(a, o), (b, o2)], p.1 ≠ q.1 := fun p hp q hq => by
  simp only [List.mem_cons, List.not_mem_nil, or_false] at hq
  rcases hq with rfl | rfl
  · exact off1_mem h p hp
  · exact off1_mem h2 p hp
theorem nl_three {news : List (Addr × Obj)} {a b c : Addr} {o o2 o3 : Obj} (h : LCg.Off1 a news) (h2 : LCg.Off1 b news) (h3 : LCg.Off1 c news) : ∀ p ∈ news, ∀ q ∈ [(a, o), (b, o2), (c, o3)], p.1 ≠ q.1 := fun p hp q hq => by
  simp only [List.mem_cons, List.not_mem_nil, or_false] at hq
  rcases hq with rfl | rfl | rfl
  · exact off1_mem h p hp
  · exact off1_mem h2 p hp
  · exact off1_mem h3 p hp
theorem off1_sub {a : Addr} {l news : List (Addr × Obj)} (h : LCg.Off1 a l) (hs : ∀ p ∈ news, p ∈ l) : LCg.Off1 a news := off1_of fun p hp => off1_mem h p (hs p hp)
theorem lt_sub {a : Addr} {l news : List (Addr × Obj)} (h : ∀ p ∈ l, p.1 < a) (hs : ∀ p ∈ news, p ∈ l) : LCg.Off1 a news := off1_of fun p hp => Nat.ne_of_lt (h p (hs p hp))
theorem off1_all {d : Addr} {news : List (Addr × Obj)} (h : AllLt d news) : LCg.Off1 d news := off1_of (ne_lt3 h)
section
variable {w : World} {f : Value} {vs : List Value} {need : List (Addr × Obj)} {ws : List (Array UInt8)} {t : Addr}
  {mean : ExcName → Option Value} {mg mb : Str → Option Value} {d u dp un : Nat} {gd : Option (List Code)} {cn : Str} {cs : Scope} {a : Addr} {ccd : Value} {cl : List (Str × Addr)} {outer : List Env} {A₀ : Around} {base h₀ : Heap} {L : Addr} {m : Str → Option Value} {news : List (Addr × Obj)} {s : Shared}
    {Q E : Value → Shared → Prop}
theorem Ctr.useN (C : Ctr w dp un f vs need (NameR w ws)) (B : Below A₀ base outer h₀) (F : Fr h₀ L s.heap m) (X : (Mine.hd.heap_39 w.params).In h₀) (N : News h₀ L s.heap news) (T : Top Mine.hd.view_39 (looseW Mine.hd.view_39 []) mean mg mb h₀) (hk : cs.kind = .function)
    (hn : ∀ p ∈ need, p ∈ news) (hd : d ≤ dp) (hu : u ≤ un)
    (ret : ∀ x d t k vs h' tk', Fr h₀ L h' m → News h₀ L h' ((x, instObj 112 d) :: (d, labD w k t) :: (t, tup vs) :: news) → (LCg.Off1 x news ∧ LCg.Off1 d news ∧ LCg.Off1 t news) → BytesAre vs ws → Q (.ref x) { s with heap := h', toks := tk' }) :
    wpAny (model pg w) (ktrTop d u gd cn cs L a ccd cl outer) (call f vs) Q E s := C.use B F X N T hk hn hd hu fun r nl h' tk' F' N' hl hr => by
  obtain ⟨x, d, t, k, vs, rfl, rfl, hv⟩ := hr
  exact ret x d t k vs h' tk' F' N' ⟨off1_of fun p hp => hl p hp _ (.head _), off1_of fun p hp => hl p hp _ (.tail _ (.head _)), off1_of fun p hp => hl p hp _ (.tail _ (.tail _ (.head _)))⟩ hv
theorem Ctr.useS (C : Ctr w dp un f vs need (NameS w t)) (B : Below A₀ base outer h₀) (F : Fr h₀ L s.heap m) (X : (Mine.hd.heap_39 w.params).In h₀) (N : News h₀ L s.heap news) (T : Top Mine.hd.view_39 (looseW Mine.hd.view_39 []) mean mg mb h₀) (hk : cs.kind = .function)
    (hn : ∀ p ∈ need, p ∈ news) (hd : d ≤ dp) (hu : u ≤ un)
    (ret : ∀ x d k h' tk', Fr h₀ L h' m → News h₀ L h' ((x, instObj 112 d) :: (d, labD w k t) :: news) → (LCg.Off1 x news ∧ LCg.Off1 d news) → Q (.ref x) { s with heap := h', toks := tk' }) :
    wpAny (model pg w) (ktrTop d u gd cn cs L a ccd cl outer) (call f vs) Q E s := C.use B F X N T hk hn hd hu fun r nl h' tk' F' N' hl hr => by
  obtain ⟨x, d, k, rfl, rfl⟩ := hr
  exact ret x d k h' tk' F' N' ⟨off1_of fun p hp => hl p hp _ (.head _), off1_of fun p hp => hl p hp _ (.tail _ (.head _))⟩
end
/-- tuple(t) of a tuple is t -/
theorem newS {t : Addr} {vs : List Value} {h₀ h : Heap} {L : Addr} {news : List (Addr × Obj)} (N : PyProof.Rows.News h₀ L h news) (hm : (t, tup vs) ∈ news) : IsTup h t vs.toArray := ⟨_, (N _ hm).1, rfl, _, rfl⟩
section
variable {w : World} {h₀ : Heap} {L : Addr} {m : Str → Option Value} {news : List (Addr × Obj)} {s : Shared} {Q : Value → Shared → Prop} {ws : List (Array UInt8)} {h' : Heap} {tk' : Nat} {x d t e : Addr} {k : Tok} {vs : List Value} {oe : Obj}
theorem name_back (hret : ∀ r nl h' tk', Fr h₀ L h' m → News h₀ L h' (nl ++ news) → (∀ p ∈ news, ∀ q ∈ nl, p.1 ≠ q.1) → NameR w ws r nl → Q r { s with heap := h', toks := tk' }) (F : Fr h₀ L h' m)
    (N : News h₀ L h' ((t, tup vs) :: (e, oe) :: (x, instObj 112 d) :: (d, labD w k t) :: news)) (ot : ∀ p ∈ news, p.1 ≠ t) (ox : ∀ p ∈ news, p.1 ≠ x) (od : ∀ p ∈ news, p.1 ≠ d) (hv : BytesAre vs ws) : Q (.ref x) { s with heap := h', toks := tk' } :=
  hret _ [(x, instObj 112 d), (d, labD w k t), (t, tup vs)] _ _ F (News.of_sub N (by ((repeat (refine sub_cons (by k_mem) ?_)); (repeat (first | exact sub_here | refine sub_skip ?_))))) (nl_three (off1_of ox) (off1_of od) (off1_of ot)) ⟨_, _, _, _, _, rfl, rfl, hv⟩
theorem name_backS (hret : ∀ r nl h' tk', Fr h₀ L h' m → News h₀ L h' (nl ++ news) → (∀ p ∈ news, ∀ q ∈ nl, p.1 ≠ q.1) → NameS w t r nl → Q r { s with heap := h', toks := tk' }) (F : Fr h₀ L h' m)
    (N : News h₀ L h' ((e, oe) :: (x, instObj 112 d) :: (d, labD w k t) :: news)) (ox : ∀ p ∈ news, p.1 ≠ x) (od : ∀ p ∈ news, p.1 ≠ d) : Q (.ref x) { s with heap := h', toks := tk' } :=
  hret _ [(x, instObj 112 d), (d, labD w k t)] _ _ F (News.of_sub N (by ((repeat (refine sub_cons (by k_mem) ?_)); (repeat (first | exact sub_here | refine sub_skip ?_))))) (nl_two (off1_of ox) (off1_of od)) ⟨_, _, _, rfl, rfl⟩
theorem name_backS0 (hret : ∀ r nl h' tk', Fr h₀ L h' m → News h₀ L h' (nl ++ news) → (∀ p ∈ news, ∀ q ∈ nl, p.1 ≠ q.1) → NameS w t r nl → Q r { s with heap := h', toks := tk' }) {a b c : Addr} {o1 o2 o3 : Obj} (F : Fr h₀ L h' m)
    (N : News h₀ L h' ((x, instObj 112 d) :: (d, labD w k t) :: (a, o1) :: (b, o2) :: (c, o3) :: news)) (ox : ∀ p ∈ news, p.1 ≠ x) (od : ∀ p ∈ news, p.1 ≠ d) : Q (.ref x) { s with heap := h', toks := tk' } :=
  hret _ [(x, instObj 112 d), (d, labD w k t)] _ _ F (News.of_sub N (by ((repeat (refine sub_cons (by k_mem) ?_)); (repeat (first | exact sub_here | refine sub_skip ?_))))) (nl_two (off1_of ox) (off1_of od)) ⟨_, _, _, rfl, rfl⟩
theorem name_backG {nw : List (Addr × Obj)} (hret : ∀ r nl h' tk', Fr h₀ L h' m → News h₀ L h' (nl ++ news) → (∀ p ∈ news, ∀ q ∈ nl, p.1 ≠ q.1) → NameR w ws r nl → Q r { s with heap := h', toks := tk' }) (F : Fr h₀ L h' m)
    (N : News h₀ L h' nw) (mx : (x, instObj 112 d) ∈ nw) (md : (d, labD w k t) ∈ nw) (mt : (t, tup vs) ∈ nw) (sub : ∀ p ∈ news, p ∈ nw) (ot : ∀ p ∈ news, p.1 ≠ t) (ox : ∀ p ∈ news, p.1 ≠ x) (od : ∀ p ∈ news, p.1 ≠ d) (hv : BytesAre vs ws) : Q (.ref x) { s with heap := h', toks := tk' } :=
  hret _ [(x, instObj 112 d), (d, labD w k t), (t, tup vs)] _ _ F (News.of_sub N (by
    refine sub_cons mx (sub_cons md (sub_cons mt ?_))
    exact sub)) (nl_three (off1_of ox) (off1_of od) (off1_of ot)) ⟨_, _, _, _, _, rfl, rfl, hv⟩
end
end Mine

end
section
open PySem PySem.W PyProof.Rows PySem.Calls
set_option Elab.async false
set_option maxRecDepth 100000
set_option maxHeartbeats 8000000
namespace Mine
open PyProof.Rows.LCg
open PySem.SeqAt
theorem eqAt_bytes {A : Around} {s : Shared} {b c : Array UInt8} {t u : Tok} : EqAt A s (.bytes b t) (.bytes c u) (decide (b = c)) := fun prog w E Q hq => by
  refine W.eqBool_bytes ?_
  have e : decide (b.toList = c.toList) = decide (b = c) := by
    apply decide_eq_decide.mpr
    exact Array.toList_inj
  rw [e]; exact hq
def eqJ (as bs : List (Array UInt8)) (j : Nat) : Bool := decide (as[j]? = bs[j]?)
theorem eqJ_at {A : Around} {s : Shared} {xs ys : List Value} {as bs : List (Array UInt8)} (hx : BytesAre xs as) (hy : BytesAre ys bs) (j : Nat) (h1 : j < xs.toArray.size) (h2 : j < ys.toArray.size) : EqAt A s xs.toArray[j] ys.toArray[j] (eqJ as bs j) := by
  have g1 : xs[j]? = some xs.toArray[j] := by simp at h1 ⊢
  have g2 : ys[j]? = some ys.toArray[j] := by simp at h2 ⊢
  obtain ⟨b, hb, t, e⟩ := hx.get g1
  obtain ⟨c, hc, u, e2⟩ := hy.get g2
  rw [e, e2]
  unfold eqJ
  rw [hb, hc]
  have e : decide (some b = some c) = decide (b = c) := decide_eq_decide.mpr (by simp)
  rw [e]
  exact eqAt_bytes
theorem eqJ_all {as bs : List (Array UInt8)} (h : as.length = bs.length) : (List.range as.length).all (eqJ as bs) = decide (as = bs) := by
  rw [Bool.eq_iff_iff, List.all_eq_true, decide_eq_true_eq]
  constructor
  · intro hj
    apply List.ext_getElem? 
    intro i
    by_cases hi : i < as.length
    · have := hj i (List.mem_range.mpr hi)
      simpa [eqJ] using this
    · rw [List.getElem?_eq_none (by omega), List.getElem?_eq_none (by omega)]
  · rintro rfl i _
    simp [eqJ]
section
variable {prog : Program} {w : World} {A : Around} {E : Value → Shared → Prop} {s : Shared} {h₀ : Heap} {L a b : Addr} {news : List (Addr × Obj)} {n n2 : Nat} {xs ys : List Value} {as bs : List (Array UInt8)} {Q : Value → Shared → Prop}
theorem eq_lists (N : News h₀ L s.heap news) (ma : (a, listOf xs.toArray n) ∈ news) (mb : (b, listOf ys.toArray n2) ∈ news) (hx : BytesAre xs as) (hy : BytesAre ys bs) (hu : A.units < cLine) (h : Q (.bool (decide (as = bs))) s) :
    wpAny (model prog w) A (compareOp .Eq (.ref a) (.ref b)) Q E s := by
  have l1 := hx.length
  have l2 := hy.length
  by_cases hl : as.length = bs.length
  · refine eq_listAt (isList_of N ma) (isList_of N mb) (by simp; omega) hu (fun j h1 h2 => eqJ_at hx hy j h1 h2) ?_
    have e : xs.toArray.size = as.length := by simp [l1]
    rw [e, eqJ_all hl]
    exact h
  · refine eq_list_lengthsAt (isList_of N ma) (isList_of N mb) (by simp only [List.size_toArray, bne_iff_ne, ne_eq]; omega) hu ?_
    have e : decide (as = bs) = false := decide_eq_false (fun q => hl (congrArg List.length q))
    rw [← e]
    exact h
theorem eq_lsts (N : News h₀ L s.heap news) (ma : (a, lst xs) ∈ news) (mb : (b, lst ys) ∈ news) (hx : BytesAre xs as) (hy : BytesAre ys bs) (hu : A.units < cLine) (h : Q (.bool (decide (as = bs))) s) :
    wpAny (model prog w) A (compareOp .Eq (.ref a) (.ref b)) Q E s := eq_lists (n := xs.length) (n2 := ys.length) N ma mb hx hy hu h
theorem eq_tups (ha : IsTup s.heap a xs.toArray) (hb : IsTup s.heap b ys.toArray) (hx : BytesAre xs as) (hy : BytesAre ys bs) (hu : A.units < cLine) (h : Q (.bool (decide (as = bs))) s) :
    wpAny (model prog w) A (compareOp .Eq (.ref a) (.ref b)) Q E s := by
  have l1 := hx.length
  have l2 := hy.length
  refine eq_tupleAt ha hb hu (fun j h1 h2 => eqJ_at hx hy j h1 h2) ?_
  have e : ((List.range (min xs.toArray.size ys.toArray.size)).all (eqJ as bs) && xs.toArray.size == ys.toArray.size) = decide (as = bs) := by
    have e1 : xs.toArray.size = as.length := by simp [l1]
    have e2 : ys.toArray.size = bs.length := by simp [l2]
    rw [e1, e2]
    by_cases hl : as.length = bs.length
    · rw [← hl, Nat.min_self, eqJ_all hl]; simp
    · have e : decide (as = bs) = false := decide_eq_false (fun q => hl (congrArg List.length q))
      rw [e]
      simp [hl]
  rw [e]
  exact h
end
end Mine

end
section
open PySem PySem.W PyProof.Rows PySem.Calls
set_option Elab.async false
set_option maxRecDepth 100000
set_option maxHeartbeats 8000000
namespace Mine
open PySem.Builtin.Slice
section
variable {prog : Program} {w : World} {A : Around} {E : Value → Shared → Prop} {s : Shared} {h₀ : Heap} {L t : Addr} {m : Str → Option Value} {news : List (Addr × Obj)} {vl vu : Value} {lo hi : Option Int} {vs : List Value} {k : Int} {u : Tok}
theorem part_is {Q : Option Int → Shared → Prop} (h : IsPart vl lo) (hq : Q lo s) : wpAny (model prog w) A (slicePartIndex vl) Q E s := by
  cases h with
  | none => exact slicePart_none hq
  | int i t => exact slicePart_int hq
theorem applied_is {sl : Addr} {n : Nat} {Q : Int × Int × Nat → Shared → Prop} (hs : s.heap.IsSliceOf sl vl vu .none) (pl : IsPart vl lo) (pu : IsPart vu hi)
    (h : Q ((sliceAdjust lo hi 1 (n : Int)).1, 1, slicePlaces (sliceAdjust lo hi 1 (n : Int)).1 (sliceAdjust lo hi 1 (n : Int)).2 1) s) :
    wpAny (model prog w) A (sliceApplied (.ref sl) (pure (n : Int))) Q E s := by
  obtain ⟨os, hos, hcs, hds⟩ := id hs
  unfold sliceApplied sliceFields
  refine wpAny_bind (wpAny_bind (wpAny_field hos hds (x := vl) rfl (wpAny_bind (wpAny_field hos hds (x := vu) rfl (wpAny_bind (wpAny_field hos hds (x := .none) rfl (wpAny_pure ?_)))))))
  refine wpAny_bind (slicePart_none ?_)
  show wpAny _ _ (if ((1 : Int) == 0) = true then _ else _) _ _ s
  rw [if_neg (by decide)]
  refine wpAny_bind (part_is pl (wpAny_bind (part_is pu (wpAny_bind (wpAny_pure ?_)))))
  exact wpAny_pure h
theorem tup_slice {sl : Addr} {Q : Value → Shared → Prop} (ht : IsTup s.heap t vs.toArray) (hs : s.heap.IsSliceOf sl vl vu .none) (pl : IsPart vl lo) (pu : IsPart vu hi) {a c : Nat} (ea : (sliceAdjust lo hi 1 (vs.length : Int)).1 = a)
    (ec : slicePlaces (sliceAdjust lo hi 1 (vs.length : Int)).1 (sliceAdjust lo hi 1 (vs.length : Int)).2 1 = c) (hz : vs.length ≤ sizeLine)
    (hw : a = 0 → c = vs.length → Q (.ref t) s) (hn : ¬ (a = 0 ∧ c = vs.length) → Q (.ref s.heap.objs.size) { s with heap := s.heap.push (tup ((vs.drop a).take c)) }) : wpAny (model prog w) A (getItem (.ref t) (.ref sl)) Q E s := by
  have hdrop : sizeOk (.seq ((vs.drop a).take c).toArray) := by
    show ((vs.drop a).take c).toArray.size ≤ sizeLine
    rw [List.size_toArray, List.length_take, List.length_drop]
    omega
  obtain ⟨os, hos, hcs, hds⟩ := id hs
  have hTs : s.TypeIs (.ref sl) "slice" := ⟨os, hos, hcs⟩
  unfold getItem
  refine wpAny_holding ?_
  refine wpAny_bind (wpAny_sequenceKey ht.typeIs (by decide) ?_)
  refine wpAny_bind (wpAny_callSpecial?_slot (name := Str.ofString "__getitem__") ht.typeIs slot_tuple_getitem
    (wpAny_call_entry slot_tuple_getitem ht.typeIs entry_tuple_getitem ?_ (args_tuple_getitem _ _)))
  show wpAny _ _ (Builtin.Tuple.tupleItemsOf (.ref t) >>= _) _ _ s
  refine wpAny_bind (tupleItemsOf_ ht ?_)
  refine wpAny_bind (wpAny_typeOf hTs ?_)
  rw [if_pos (by decide)]
  have esz : vs.toArray.size = vs.length := by simp
  rw [esz]
  refine wpAny_bind (applied_is hs pl pu ?_)
  rw [ec, ea]
  show wpAny _ _ (if ((a : Int) == 0 && (1 : Int) == 1 && c == vs.length) = true then _ else _) _ _ s
  by_cases hc : a = 0 ∧ c = vs.length
  · rw [if_pos (by simp [hc.1, hc.2])]
    show wpAny _ _ (Builtin.Tuple.tupleIsExact (.ref t) >>= _) _ _ s
    unfold Builtin.Tuple.tupleIsExact
    refine wpAny_bind (wpAny_bind (wpAny_typeOf ht.typeIs (wpAny_pure ?_)))
    rw [if_pos (by decide)]
    exact wpAny_bind (wpAny_rule (wpAny_pure ⟨_, rfl, wpAny_pure (hw hc.1 hc.2)⟩))
  · have hno : ((a : Int) == 0 && (1 : Int) == 1 && c == vs.length) = false := by
      cases q : ((a : Int) == 0 && (1 : Int) == 1 && c == vs.length) with
      | false => rfl
      | true =>
        simp only [Bool.and_eq_true, beq_iff_eq] at q
        exact absurd ⟨by omega, q.2⟩ hc
    rw [if_neg (by rw [hno]; decide)]
    have ef : (fun (k : Nat) => vs.toArray[((a : Int) + (k : Int) * 1).toNat]?) = (fun x => vs.toArray[x]?) ∘ (fun x => a + x) := by
      funext k
      have : ((a : Int) + (k : Int) * 1).toNat = a + k := by omega
      rw [this]
      rfl
    have ep : ((List.range c).filterMap fun (k : Nat) => vs.toArray[((a : Int) + (k : Int) * 1).toNat]?).toArray = ((vs.drop a).take c).toArray := by
      have := PySem.pick_run vs.toArray a c
      rw [ef, ← List.filterMap_map, this]
    rw [ep]
    exact wpAny_bind (m := Builtin.Tuple.tupleExact _) (wpAny_newObj_type (wpAny_pure ⟨_, rfl, wpAny_pure (hn hc)⟩) hdrop)
theorem slice_tup {value slice : Expr} {Q : Value → Shared → Prop} (F : Fr h₀ L s.heap m) (N : News h₀ L s.heap news) (hm : (t, tup vs) ∈ news) (pl : IsPart vl lo) (pu : IsPart vu hi) {a c : Nat} (ea : (sliceAdjust lo hi 1 (vs.length : Int)).1 = a)
    (ec : slicePlaces (sliceAdjust lo hi 1 (vs.length : Int)).1 (sliceAdjust lo hi 1 (vs.length : Int)).2 1 = c) (hz : vs.length ≤ sizeLine)
    (h : ∀ t' h', Fr h₀ L h' m → News h₀ L h' ((t', tup ((vs.drop a).take c)) :: news) → (¬ (a = 0 ∧ c = vs.length) → ∀ p ∈ news, p.1 < t') → Q (.ref t') { s with heap := h' })
    (hs : subscripted slice false (.ref t) (.ref s.heap.objs.size) = operate [.ref s.heap.objs.size, .ref t] (getItem (.ref t) (.ref s.heap.objs.size)) := by with_unfolding_all rfl)
    (hg : ∀ r, letTemporaryGo value (.ref t) r = pure () := by intro _; with_unfolding_all rfl) :
    wpAny (model prog w) A (subscriptTail value slice (.ref t) (.ref s.heap.objs.size)) Q E { s with heap := s.heap.push { cls := .type "slice", data := .fields #[vl, vu, .none] } } := by
  have ht : IsTup s.heap t vs.toArray := newS N hm
  have ht' : IsTup (s.heap.push { cls := .type "slice", data := .fields #[vl, vu, .none] }) t vs.toArray := ht.keeps fun _ _ e => Heap.get?_push_of_some _ e
  have F1 : Fr h₀ L (s.heap.push { cls := .type "slice", data := .fields #[vl, vu, .none] }) m := F.push _
  have N1 : News h₀ L (s.heap.push { cls := .type "slice", data := .fields #[vl, vu, .none] }) news := N.grown fun _ _ e => Heap.get?_push_of_some _ e
  refine subscriptTail_ops (s := { s with heap := s.heap.push { cls := .type "slice", data := .fields #[vl, vu, .none] } }) ht'.typeIs slot_tuple_getitem.lookup
    (tup_slice ht' (Heap.IsSliceOf.new ..) pl pu ea ec hz (fun e0 e1 => ?_) fun hne => ?_) hs hg
  · subst e0; subst e1
    refine h t _ F1 (fun p hp => ?_) (fun q => absurd ⟨rfl, rfl⟩ q)
    rcases List.mem_cons.mp hp with rfl | hp
    · rw [List.drop_zero, List.take_length]; exact N1 _ hm
    · exact N1 p hp
  · exact h _ _ (F1.push _) (News.push F1 N1 _) fun _ p hp => Heap.lt_size (N1 p hp).1
theorem adj_from {k : Nat} (n : Nat) (hk : k ≤ n) : (sliceAdjust (some (-(k : Int))) none 1 (n : Int)).1 = ((n - k : Nat) : Int) ∧ slicePlaces (sliceAdjust (some (-(k : Int))) none 1 (n : Int)).1 (sliceAdjust (some (-(k : Int))) none 1 (n : Int)).2 1 = k ∨ k = 0 := by
  rcases Nat.eq_zero_or_pos k with h0 | h0
  · exact .inr h0
  · left
    have e : sliceAdjust (some (-(k : Int))) none 1 (n : Int) = (((n - k : Nat) : Int), (n : Int)) := by
      unfold sliceAdjust
      simp only [show ¬ ((1 : Int) < 0) by omega, if_false, if_pos (show (-(k : Int)) < 0 by omega)]
      congr 1
      omega
    rw [e]
    refine ⟨rfl, ?_⟩
    unfold slicePlaces
    simp only [show (1 : Int) > 0 by omega, if_true, Int.ediv_one]
    split <;> omega
theorem adj_to {k : Nat} (n : Nat) (hk : k ≤ n) (h0 : 0 < k) : (sliceAdjust none (some (-(k : Int))) 1 (n : Int)).1 = ((0 : Nat) : Int) ∧ slicePlaces (sliceAdjust none (some (-(k : Int))) 1 (n : Int)).1 (sliceAdjust none (some (-(k : Int))) 1 (n : Int)).2 1 = n - k := by
  have e : sliceAdjust none (some (-(k : Int))) 1 (n : Int) = ((0 : Int), ((n - k : Nat) : Int)) := by
    unfold sliceAdjust
    simp only [show ¬ ((1 : Int) < 0) by omega, if_false, if_pos (show (-(k : Int)) < 0 by omega)]
    congr 1
    omega
  rw [e]
  refine ⟨rfl, ?_⟩
  unfold slicePlaces
  simp only [show (1 : Int) > 0 by omega, if_true, Int.ediv_one]
  split <;> omega
theorem slice_last {value slice : Expr} {Q : Value → Shared → Prop} {j : Nat} (F : Fr h₀ L s.heap m) (N : News h₀ L s.heap news) (hm : (t, tup vs) ∈ news) (hk : j ≤ vs.length) (h0 : 0 < j) (ek : k = -(j : Int)) (hz : vs.length ≤ sizeLine)
    (h : ∀ t' h', Fr h₀ L h' m → News h₀ L h' ((t', tup (vs.drop (vs.length - j))) :: news) → Q (.ref t') { s with heap := h' })
    (hs : subscripted slice false (.ref t) (.ref s.heap.objs.size) = operate [.ref s.heap.objs.size, .ref t] (getItem (.ref t) (.ref s.heap.objs.size)) := by with_unfolding_all rfl)
    (hg : ∀ r, letTemporaryGo value (.ref t) r = pure () := by intro _; with_unfolding_all rfl) :
    wpAny (model prog w) A (subscriptTail value slice (.ref t) (.ref s.heap.objs.size)) Q E { s with heap := s.heap.push { cls := .type "slice", data := .fields #[.int k u, .none, .none] } } := by
  subst ek
  obtain ⟨e1, e2⟩ := (adj_from vs.length hk).resolve_right (by omega)
  refine slice_tup F N hm (.int _ _) .none e1 e2 hz (fun t' h' F' N' _ => h t' h' F' ?_) hs hg
  rw [List.take_of_length_le (by rw [List.length_drop]; omega)] at N'
  exact N'
theorem slice_upto {value slice : Expr} {Q : Value → Shared → Prop} {j : Nat} (F : Fr h₀ L s.heap m) (N : News h₀ L s.heap news) (hm : (t, tup vs) ∈ news) (hk : j ≤ vs.length) (h0 : 0 < j) (ek : k = -(j : Int)) (hz : vs.length ≤ sizeLine)
    (h : ∀ t' h', Fr h₀ L h' m → News h₀ L h' ((t', tup (vs.take (vs.length - j))) :: news) → (∀ p ∈ news, p.1 < t') → Q (.ref t') { s with heap := h' })
    (hs : subscripted slice false (.ref t) (.ref s.heap.objs.size) = operate [.ref s.heap.objs.size, .ref t] (getItem (.ref t) (.ref s.heap.objs.size)) := by with_unfolding_all rfl)
    (hg : ∀ r, letTemporaryGo value (.ref t) r = pure () := by intro _; with_unfolding_all rfl) :
    wpAny (model prog w) A (subscriptTail value slice (.ref t) (.ref s.heap.objs.size)) Q E { s with heap := s.heap.push { cls := .type "slice", data := .fields #[.none, .int k u, .none] } } := by
  subst ek
  obtain ⟨e1, e2⟩ := adj_to vs.length hk h0
  exact slice_tup F N hm .none (.int _ _) e1 e2 hz (fun t' h' F' N' hf => h t' h' F' N' (hf (by omega))) hs hg
end
end Mine

end
section
open PySem PySem.W PyProof.Rows PySem.Calls
set_option Elab.async false
set_option maxRecDepth 100000
set_option maxHeartbeats 8000000
namespace Mine
open PySem.Builtin
namespace BL
theorem slot_rev_next : Slot "reversed" "__next__" "reversed.__next__" :=
  .of (owner := "reversed") (n := "__next__") (by rw [typeLookup_type, builtinLookup_eq_fast]; kernel_rfl) (by decide +kernel) (by decide +kernel) (by decide +kernel)
    (by first | exact .inl (by decide +kernel) | exact .inr (by decide +kernel)) (by rw [isSubtype_type]; kernel_rfl)
theorem entry_rev_next : entryFor table "reversed.__next__" = some Builtin.«reversed.__next__» := entryFor_of_tree (by kernel_rfl)
theorem args_rev_next (a : Value) : argsOk "reversed.__next__" ⟨[a], []⟩ := by unfold argsOk; kernel_rfl
theorem slot_rev_iter : Slot "reversed" "__iter__" "reversed.__iter__" :=
  .of (owner := "reversed") (n := "__iter__") (by rw [typeLookup_type, builtinLookup_eq_fast]; kernel_rfl) (by decide +kernel) (by decide +kernel) (by decide +kernel)
    (by first | exact .inl (by decide +kernel) | exact .inr (by decide +kernel)) (by rw [isSubtype_type]; kernel_rfl)
theorem args_rev_iter (a : Value) : argsOk "reversed.__iter__" ⟨[a], []⟩ := by unfold argsOk; kernel_rfl
theorem entry_rev_iter : entryFor table "reversed.__iter__" = some Builtin.«dict_keyiterator.__iter__» :=
  entryFor_alias (id' := "dict_keyiterator.__iter__") (by kernel_rfl) (by first | rfl | decide +kernel | (unfold String.splitOn; simp +decide [String.splitOnAux])) (by decide +kernel) (by kernel_rfl)
theorem slot_rev_init : Slot "reversed" "__init__" "object.__init__" :=
  .of (owner := "object") (n := "__init__") (by rw [typeLookup_type, builtinLookup_eq_fast]; kernel_rfl) (by decide +kernel) (by decide +kernel) (by decide +kernel)
    (by first | exact .inl (by decide +kernel) | exact .inr (by decide +kernel)) (by rw [isSubtype_type]; kernel_rfl)
theorem called_rev : TypeCalled "reversed" "reversed.__new__" "object.__init__" :=
  ⟨by decide +kernel, by decide +kernel, ⟨_, _, F.mro_reversed⟩, F.made_reversed, by decide +kernel, by rw [isSubtype_type]; kernel_rfl, slot_rev_init⟩
theorem noRev_tuple : typeLookup (.type "tuple") "__reversed__" = pure none := by rw [typeLookup_type, builtinLookup_eq_fast]; kernel_rfl
/-- a reversed tuple's walker, i items left -/
def revO (t : Addr) (i : Int) : Obj := { cls := .type "reversed", data := .fields #[.ref t, rawInt i] }
section
variable {prog : Program} {w : World} {A : Around} {E : Value → Shared → Prop} {s : Shared}
theorem meets_rev_new (t : Addr) (items : Array Value) (hz : (items.size : Int) < 2 ^ 63) :
    Meets (Builtin.«reversed.__new__» ⟨[.type "reversed", .ref t], []⟩) (fun _ R s => IsTup s.heap t items ∧
      ∀ tk, R (.ok (.ret (.ref s.heap.objs.size))) { s with heap := s.heap.push (revO t ((items.size : Int) - 1)), toks := tk }) :=
  .of_wp fun prog w A R s h => by
    obtain ⟨ht, h⟩ := h
    unfold Builtin.«reversed.__new__»
    refine wpAny_bind (wpAny_of_eq (newClass_reversed _) ?_)
    try dsimp only
    refine wpAny_bind (wpAny_of_eq (a := ()) (by first | rfl | kernel_rfl) ?_)
    refine wpAny_bind (wpAny_of_eq (a := ()) (by first | rfl | kernel_rfl) ?_)
    try dsimp only
    refine wpAny_bind (wpAny_specialOf ht.typeIs noRev_tuple ?_)
    try dsimp only
    refine wpAny_bind ?_
    show wpAny _ _ (isInstance (.ref t) (.type "dict") >>= _) _ _ s
    refine wpAny_bind (wpAny_isInstance ht.typeIs F.sub_tuple_dict ?_)
    try dsimp only
    rw [if_neg Bool.false_ne_true]
    try dsimp only
    refine wpAny_bind (wpAny_specialOf ht.typeIs slot_tuple_getitem.lookup ?_)
    try dsimp only
    rw [if_pos (by decide +kernel)]
    refine wpAny_pure ?_
    try dsimp only
    rw [if_neg (by decide)]
    refine wpAny_bind (len_tuple ht hz ?_)
    refine wpAny_bind (wpAny_of_eq (a := some (items.size : Int)) rfl ?_)
    try dsimp only
    refine wpAny_bind ?_
    show wpAny _ _ (newObj (.type "reversed") (.fields #[.ref t, rawInt ((items.size : Int) - 1)])) _ _ _
    exact wpAny_newObj_type (wpAny_pure ⟨_, rfl, h _⟩)
theorem call_rev {t : Addr} {items : Array Value} {Q : Value → Shared → Prop} (ht : IsTup s.heap t items) (hz : (items.size : Int) < 2 ^ 63)
    (h : ∀ tk, Q (.ref s.heap.objs.size) { s with heap := s.heap.push (revO t ((items.size : Int) - 1)), toks := tk }) : wpAny (model prog w) A (call (.type "reversed") [.ref t]) Q E s :=
  callType_new called_rev (by decide) (F.typeCall_reversed_1 _) (F.newCall_reversed_1 _) (fun obj => F.args_object_init_2 obj _) F.entry_reversed_new
    (meets_rev_new t items hz) ⟨ht, fun tk => ⟨⟨_, Heap.get?_push_size _ rfl, rfl⟩, h tk⟩⟩
def IsRev (h : Heap) (a t : Addr) (i : Int) : Prop := h.get? a = some (revO t i)
theorem IsRev.typeIs {a t : Addr} {i : Int} (x : IsRev s.heap a t i) : s.TypeIs (.ref a) "reversed" := ⟨_, x, rfl⟩
theorem nextOf_rev_item {it t : Addr} {i : Nat} {items : Array Value} {x : Value} {Q : Value → Shared → Prop} (hit : IsRev s.heap it t (i : Int)) (ht : IsTup s.heap t items) (hi : (items.size : Int) < 2 ^ 63) (hx : items[i]? = some x)
    (hQ : ∀ h' tk, IsRev h' it t ((i : Int) - 1) → Heap.SameBut it s.heap h' → Q x { s with heap := h', toks := tk }) : wpAny (model prog w) A (SmallTypes.nextOf (.ref it)) Q E s := by
  have hlt : i < items.size := (Array.getElem?_eq_some_iff.mp hx).1
  unfold SmallTypes.nextOf
  refine wpAny_bind (wpAny_callSpecial?_slot (name := Str.ofString "__next__") hit.typeIs slot_rev_next
    (wpAny_call_entry slot_rev_next hit.typeIs entry_rev_next ?_ (args_rev_next _)))
  unfold Builtin.«reversed.__next__»
  refine wpAny_bind (wpAny_of_eq (a := (Value.ref it, [])) rfl ?_)
  try dsimp only
  refine wpAny_bind (wpAny_field hit rfl (x := .ref t) rfl ?_)
  refine wpAny_bind (wpAny_field hit rfl (x := rawInt (i : Int)) rfl ?_)
  show wpAny _ _ (if (i : Int) < 0 then _ else _) _ _ s
  rw [if_neg (by omega)]
  refine wpAny_bind (wpAny_specialOf ht.typeIs slot_tuple_getitem.lookup ?_)
  try dsimp only
  rw [if_neg (show ¬ ((some (Value.builtin "tuple.__getitem__")).isNone = true) from Bool.false_ne_true)]
  refine wpAny_bind (wpAny_mkInt ?_)
  have hj : seqIndex? (i : Int) items.size = some i := by
    unfold seqIndex?
    simp
    omega
  refine wpAny_bind (wpAny_attempt (PyProof.Rows.getItem_tuple ht (by omega) (by omega) hj hx ?_))
  try dsimp only
  refine wpAny_bind (wpAny_field hit rfl (x := rawInt (i : Int)) rfl ?_)
  show wpAny _ _ (setField (.ref it) 1 (rawInt ((i : Int) - 1)) >>= _) _ _ _
  refine wpAny_bind (wpAny_setField_rec hit (by simp) fun h' hit' hs' => ?_)
  exact wpAny_pure ⟨x, rfl, wpAny_pure (hQ h' _ hit' hs')⟩
theorem nextOf_rev_end {it t : Addr} {Q : Value → Shared → Prop} (hh : A.handled = none) (hit : IsRev s.heap it t (-1))
    (hE : ∀ h' e, Heap.ExtBut it s.heap h' → (∃ o, h'.get? e = some o ∧ o.cls = .type "StopIteration") → E (.ref e) { s with heap := h' }) : wpAny (model prog w) A (SmallTypes.nextOf (.ref it)) Q E s := by
  unfold SmallTypes.nextOf
  refine wpAny_bind (wpAny_callSpecial?_slot (name := Str.ofString "__next__") hit.typeIs slot_rev_next
    (wpAny_call_entry slot_rev_next hit.typeIs entry_rev_next ?_ (args_rev_next _)))
  unfold Builtin.«reversed.__next__»
  refine wpAny_bind (wpAny_of_eq (a := (Value.ref it, [])) rfl ?_)
  try dsimp only
  refine wpAny_bind (wpAny_field hit rfl (x := .ref t) rfl ?_)
  refine wpAny_bind (wpAny_field hit rfl (x := rawInt (-1)) rfl ?_)
  show wpAny _ _ (if (-1 : Int) < 0 then _ else _) _ _ s
  rw [if_pos (by decide)]
  refine wpAny_bind (wpAny_rule ?_)
  refine wpAny_bind ?_
  show wpAny _ _ (setField (.ref it) 1 (rawInt (-1)) >>= fun _ => setField (.ref it) 0 .none) _ _ _
  refine wpAny_bind (wpAny_setField_rec hit (by simp) fun h1 hit1 hs1 => ?_)
  refine wpAny_setField_rec hit1 (by simp) fun h2 hit2 hs2 => ?_
  show wpAny _ _ ((newExc (.type "StopIteration") [] >>= fun e => raiseNew e) >>= _) _ _ _
  refine wpAny_bind (wpAny_bind ?_)
  simp only [newExc, newTuple]
  refine wpAny_bind (wpAny_newObj_type ?_ (by size_fits))
  refine wpAny_bind (m := firstArgMember _ _) (wpAny_of_eq (a := Value.none) (by first | rfl | (simp only [firstArgMember]; rfl)) ?_)
  refine wpAny_newObj_type ?_ (by size_fits)
  simp only [raiseNew]
  refine wpAny_bind (wpAny_handled ?_)
  first | rw [show A.in1.handled = none from hh] | rw [hh]
  refine wpAny_bind (wpAny_pure (wpAny_throw ?_))
  exact hE _ _ (((hs1.extBut.trans hs2.extBut).push _).push _) ⟨_, Heap.get?_push_size _ rfl, rfl⟩
theorem pyIter_rev {it t : Addr} {i : Int} {Q : Value → Shared → Prop} (hit : IsRev s.heap it t i) (h : Q (.ref it) s) : wpAny (model prog w) A (pyIter (.ref it)) Q E s := by
  refine wpAny_pyIter_slot hit.typeIs slot_rev_iter (wpAny_call_entry slot_rev_iter hit.typeIs entry_rev_iter ?_ (args_rev_iter _))
  show wpAny _ _ (ret (.ref it)) _ _ s
  exact wpAny_pure ⟨_, rfl, "reversed", _, hit.typeIs, slot_rev_next.lookup, h⟩
end
end BL
end Mine

end
section
open PySem PySem.W PyProof.Rows PySem.Calls
set_option Elab.async false
set_option maxRecDepth 100000
set_option maxHeartbeats 8000000
namespace Mine
open PySem.Builtin
namespace BL
section
variable {prog : Program} {w : World} {A : Around} {E : Value → Shared → Prop} {s : Shared}
theorem IsRev.ext {h h' : Heap} {a t c : Addr} {i : Int} (x : IsRev h a t i) (e : Heap.ExtBut c h h') (n : a ≠ c) : IsRev h' a t i := e _ _ n x
theorem tup_keepsBut {h h' : Heap} {t c : Addr} {xs : Array Value} (x : IsTup h t xs) (e : Heap.ExtBut c h h') (n : t ≠ c) : IsTup h' t xs := let ⟨o, ho, r⟩ := x; ⟨o, e _ _ n ho, r⟩
theorem zip_item {z TI TO i1 i2 l1 l2 : Addr} {k1 k2 : Nat} {xs ys : Array Value} {x y a b : Value} {Q : Value → Shared → Prop} (D : ZipApart z TI TO i1 i2 l1 l2)
    (hz : IsZip s.heap z TI TO .none) (hTI : IsPair s.heap TI (.ref i1) (.ref i2)) (hTO : IsPair s.heap TO a b)
    (h1 : IsRev s.heap i1 l1 k1) (h2 : IsRev s.heap i2 l2 k2) (hl1 : IsTup s.heap l1 xs) (hl2 : IsTup s.heap l2 ys) (z1 : (xs.size : Int) < 2 ^ 63) (z2 : (ys.size : Int) < 2 ^ 63) (hx : xs[k1]? = some x) (hy : ys[k2]? = some y)
    (hQ : ∀ h' tk, IsZip h' z TI TO (rawInt s.heap.objs.size) → IsPair h' TO x y → IsRev h' i1 l1 ((k1 : Int) - 1) → IsRev h' i2 l2 ((k2 : Int) - 1) → IsPair h' s.heap.objs.size x y →
      (∀ c o, c ≠ z → c ≠ TO → c ≠ i1 → c ≠ i2 → s.heap.get? c = some o → h'.get? c = some o) → Q (.ref s.heap.objs.size) { s with heap := h', toks := tk }) :
    wpAny (model prog w) A (Builtin.«zip.__next__» ⟨[.ref z], []⟩) (fun fin s' => ∃ v, fin = .done (.ret v) ∧ Q v s') E s := by
  show wpAny _ _ (field (.ref z) 2 >>= _) _ _ _
  refine wpAny_bind (wpAny_field hz rfl (x := .bool false) rfl ?_)
  show wpAny _ _ (field (.ref z) 3 >>= _) _ _ _
  refine wpAny_bind (wpAny_field hz rfl (x := .ref TI) rfl ?_)
  refine wpAny_bind (wpAny_seqItems hTI rfl ?_)
  show wpAny _ _ (SmallTypes.ownedTupleIsFree (.ref z) >>= _) _ _ _
  refine wpAny_bind ?_
  unfold SmallTypes.ownedTupleIsFree
  refine wpAny_bind (wpAny_field hz rfl (x := .none) rfl (wpAny_pure ?_))
  simp only [if_true]
  refine wpAny_bind (wpAny_rule ?_)
  refine wpAny_bind (wpAny_field hz rfl (x := .ref TO) rfl ?_)
  refine wpAny_bind (wpAny_setField_rec hz (by simp) fun h₁ hz₁ hs₁ => ?_)
  replace hz₁ : IsZip h₁ z TI TO .ellipsis := hz₁
  refine wpAny_bind ?_
  simp only [List.zipIdx_cons, List.zipIdx_nil, List.forIn_cons, List.forIn_nil]
  refine wpAny_bind (wpAny_bind (wpAny_onRaise ?_))
  show wpAny _ _ (SmallTypes.nextOf (.ref i1) >>= _) _ _ _
  refine wpAny_bind (nextOf_rev_item (h1.ext hs₁.extBut D.i1z) (tup_keepsBut hl1 hs₁.extBut D.l1z) z1 hx fun h₂ tk₂ h1₂ hs₂ => wpAny_pure ?_)
  have hTO₂ : IsPair h₂ TO a b := hs₂.extBut _ _ D.TOi1 (hs₁.extBut _ _ D.TOz hTO)
  refine wpAny_bind (wpAny_seqItems hTO₂ rfl ?_)
  refine wpAny_bind (wpAny_updateSeq_pair hTO₂ fun h₃ hTO₃ hs₃ => ?_)
  replace hTO₃ : IsPair h₃ TO x b := hTO₃
  refine wpAny_bind (wpAny_letGo (wpAny_pure ?_))
  refine wpAny_bind (wpAny_bind (wpAny_onRaise ?_))
  show wpAny _ _ (SmallTypes.nextOf (.ref i2) >>= _) _ _ _
  refine wpAny_bind (nextOf_rev_item (((h2.ext hs₁.extBut D.i2z).ext hs₂.extBut D.i12.symm).ext hs₃.extBut D.TOi2.symm)
    (tup_keepsBut (tup_keepsBut (tup_keepsBut hl2 hs₁.extBut D.l2z) hs₂.extBut D.l2i1) hs₃.extBut D.l2TO) z2 hy fun h₄ tk₄ h2₄ hs₄ => wpAny_pure ?_)
  have hTO₄ : IsPair h₄ TO x b := hs₄.extBut _ _ D.TOi2 hTO₃
  refine wpAny_bind (wpAny_seqItems hTO₄ rfl ?_)
  refine wpAny_bind (wpAny_updateSeq_pair hTO₄ fun h₅ hTO₅ hs₅ => ?_)
  replace hTO₅ : IsPair h₅ TO x y := hTO₅
  refine wpAny_bind (wpAny_letGo (wpAny_pure (wpAny_pure ?_)))
  refine wpAny_bind (wpAny_seqItems hTO₅ rfl ?_)
  refine wpAny_bind (wpAny_newTuple ?_)
  have hsz : h₅.objs.size = s.heap.objs.size := by rw [hs₅.1, hs₄.1, hs₃.1, hs₂.1, hs₁.1]
  have hz₅ : IsZip h₅ z TI TO .ellipsis := hs₅.extBut _ _ D.TOz.symm (hs₄.extBut _ _ D.i2z.symm (hs₃.extBut _ _ D.TOz.symm (hs₂.extBut _ _ D.i1z.symm hz₁)))
  have hk₅ : ∀ c o, c ≠ z → c ≠ TO → c ≠ i1 → c ≠ i2 → s.heap.get? c = some o → h₅.get? c = some o := fun c o c1 c2 c3 c4 e =>
    hs₅.extBut _ _ c2 (hs₄.extBut _ _ c4 (hs₃.extBut _ _ c2 (hs₂.extBut _ _ c3 (hs₁.extBut _ _ c1 e))))
  have h1₅ : IsRev h₅ i1 l1 ((k1 : Int) - 1) := ((h1₂.ext hs₃.extBut D.TOi1.symm).ext hs₄.extBut D.i12).ext hs₅.extBut D.TOi1.symm
  have h2₅ : IsRev h₅ i2 l2 ((k2 : Int) - 1) := h2₄.ext hs₅.extBut D.TOi2.symm
  have hzlt : z < h₅.objs.size := Heap.lt_size hz₅
  show wpAny _ _ (SmallTypes.ownedTupleHandOut (.ref z) (.ref h₅.objs.size) >>= _) _ _ _
  refine wpAny_bind ?_
  unfold SmallTypes.ownedTupleHandOut
  have hz₆ : IsZip (h₅.push { cls := .type "tuple", data := .seq #[x, y] }) z TI TO .ellipsis := Heap.get?_push_of_some _ hz₅
  refine wpAny_bind (wpAny_setField_rec hz₆ (by simp) fun h₇ hz₇ hs₇ => ?_)
  replace hz₇ : IsZip h₇ z TI TO (rawInt h₅.objs.size) := hz₇
  refine wpAny_setField_rec hz₇ (by simp) fun h₈ hz₈ hs₈ => ?_
  replace hz₈ : IsZip h₈ z TI TO (rawInt h₅.objs.size) := hz₈
  have up : ∀ c o, c ≠ z → h₅.get? c = some o → h₈.get? c = some o := fun c o c1 e => hs₈.extBut _ _ c1 (hs₇.extBut _ _ c1 (Heap.get?_push_of_some _ e))
  have hT₈ : IsPair h₈ h₅.objs.size x y := hs₈.extBut _ _ (Nat.ne_of_gt hzlt) (hs₇.extBut _ _ (Nat.ne_of_gt hzlt) (Heap.get?_push_size _ rfl))
  rw [hsz] at hz₈ hT₈
  refine wpAny_pure ⟨_, rfl, ?_⟩
  show Q (.ref h₅.objs.size) _
  rw [hsz]
  exact hQ h₈ _ hz₈ (up _ _ D.TOz hTO₅) (up _ _ D.i1z h1₅) (up _ _ D.i2z h2₅) hT₈ fun c o c1 c2 c3 c4 e => up c o c1 (hk₅ c o c1 c2 c3 c4 e)
theorem zip_end {z TI TO i1 i2 l1 l2 : Addr} {k1 k2 : Int} {xs : Array Value} {a b : Value} {Q : Fin → Shared → Prop} (hh : A.handled = none) (D : ZipApart z TI TO i1 i2 l1 l2)
    (hz : IsZip s.heap z TI TO .none) (hTI : IsPair s.heap TI (.ref i1) (.ref i2)) (hTO : IsPair s.heap TO a b)
    (h1 : IsRev s.heap i1 l1 k1) (h2 : IsRev s.heap i2 l2 k2) (hl1 : IsTup s.heap l1 xs) (z1 : (xs.size : Int) < 2 ^ 63) (hend : k1 = -1 ∨ (k2 = -1 ∧ ∃ n : Nat, k1 = n ∧ n < xs.size))
    (hE : ∀ h' tk e, (∀ c o, c ≠ z → c ≠ TO → c ≠ i1 → c ≠ i2 → s.heap.get? c = some o → h'.get? c = some o) → (∃ o, h'.get? e = some o ∧ o.cls = .type "StopIteration") → E (.ref e) { s with heap := h', toks := tk }) :
    wpAny (model prog w) A (Builtin.«zip.__next__» ⟨[.ref z], []⟩) Q E s := by
  show wpAny _ _ (field (.ref z) 2 >>= _) _ _ _
  refine wpAny_bind (wpAny_field hz rfl (x := .bool false) rfl ?_)
  show wpAny _ _ (field (.ref z) 3 >>= _) _ _ _
  refine wpAny_bind (wpAny_field hz rfl (x := .ref TI) rfl ?_)
  refine wpAny_bind (wpAny_seqItems hTI rfl ?_)
  show wpAny _ _ (SmallTypes.ownedTupleIsFree (.ref z) >>= _) _ _ _
  refine wpAny_bind ?_
  unfold SmallTypes.ownedTupleIsFree
  refine wpAny_bind (wpAny_field hz rfl (x := .none) rfl (wpAny_pure ?_))
  simp only [if_true]
  refine wpAny_bind (wpAny_rule ?_)
  refine wpAny_bind (wpAny_field hz rfl (x := .ref TO) rfl ?_)
  refine wpAny_bind (wpAny_setField_rec hz (by simp) fun h₁ hz₁ hs₁ => ?_)
  replace hz₁ : IsZip h₁ z TI TO .ellipsis := hz₁
  refine wpAny_bind ?_
  simp only [List.zipIdx_cons, List.zipIdx_nil, List.forIn_cons, List.forIn_nil]
  refine wpAny_bind (wpAny_bind (wpAny_onRaise ?_))
  show wpAny _ _ (SmallTypes.nextOf (.ref i1) >>= _) _ _ _
  rcases hend with rfl | ⟨rfl, n, rfl, hn⟩
  · refine wpAny_bind (nextOf_rev_end hh (h1.ext hs₁.extBut D.i1z) fun h₂ e hs₂ he => ?_)
    obtain ⟨oe, hoe, hce⟩ := he
    have hz₂ : IsZip h₂ z TI TO .ellipsis := hs₂ _ _ D.i1z.symm hz₁
    have hez : e ≠ z := fun x => by subst x; rw [hz₂] at hoe; cases hoe; simp at hce
    exact wpAny_setField_rec hz₂ (by simp) fun h₃ _ hs₃ => hE h₃ _ e (fun c o c1 _ c3 _ x => hs₃.extBut _ _ c1 (hs₂ _ _ c3 (hs₁.extBut _ _ c1 x))) ⟨oe, hs₃.extBut _ _ hez hoe, hce⟩
  · refine wpAny_bind (nextOf_rev_item (h1.ext hs₁.extBut D.i1z) (tup_keepsBut hl1 hs₁.extBut D.l1z) z1 (Array.getElem?_eq_getElem hn) fun h₂ tk₂ h1₂ hs₂ => wpAny_pure ?_)
    have hTO₂ : IsPair h₂ TO a b := hs₂.extBut _ _ D.TOi1 (hs₁.extBut _ _ D.TOz hTO)
    refine wpAny_bind (wpAny_seqItems hTO₂ rfl ?_)
    refine wpAny_bind (wpAny_updateSeq_pair hTO₂ fun h₃ hTO₃ hs₃ => ?_)
    refine wpAny_bind (wpAny_letGo (wpAny_pure ?_))
    refine wpAny_bind (wpAny_bind (wpAny_onRaise ?_))
    show wpAny _ _ (SmallTypes.nextOf (.ref i2) >>= _) _ _ _
    refine wpAny_bind (nextOf_rev_end hh (((h2.ext hs₁.extBut D.i2z).ext hs₂.extBut D.i12.symm).ext hs₃.extBut D.TOi2.symm) fun h₄ e hs₄ he => ?_)
    obtain ⟨oe, hoe, hce⟩ := he
    have hz₄ : IsZip h₄ z TI TO .ellipsis := hs₄ _ _ D.i2z.symm (hs₃.extBut _ _ D.TOz.symm (hs₂.extBut _ _ D.i1z.symm hz₁))
    have hez : e ≠ z := fun x => by subst x; rw [hz₄] at hoe; cases hoe; simp at hce
    exact wpAny_setField_rec hz₄ (by simp) fun h₅ _ hs₅ => hE h₅ _ e (fun c o c1 c2 c3 c4 x => hs₅.extBut _ _ c1 (hs₄ _ _ c4 (hs₃.extBut _ _ c2 (hs₂.extBut _ _ c3 (hs₁.extBut _ _ c1 x))))) ⟨oe, hs₅.extBut _ _ hez hoe, hce⟩
theorem meets_zip (i1 i2 l1 l2 : Addr) (k1 k2 : Int) :
    Meets (Builtin.«zip.__new__» ⟨[.type "zip", .ref i1, .ref i2], []⟩) (fun _ R s => IsRev s.heap i1 l1 k1 ∧ IsRev s.heap i2 l2 k2 ∧
      R (.ok (.ret (.ref (s.heap.objs.size + 2)))) { s with heap := ((s.heap.push { cls := .type "tuple", data := .seq #[.ref i1, .ref i2] }).push { cls := .type "tuple", data := .seq #[.none, .none] }).push { cls := .type "zip", data := .fields #[.none, .bool false, .bool false, .ref s.heap.objs.size, .ref (s.heap.objs.size + 1)] } }) :=
  .of_wp fun prog w A R s h => by
    obtain ⟨hp, g, d, tk, os⟩ := s; obtain ⟨hl1, hl2, h⟩ := h
    have hsub := sub_zip
    have hL1 : IsRev (Shared.heap ⟨hp, g, d, tk, os⟩) i1 l1 k1 := hl1
    have hL2 : IsRev (Shared.heap ⟨hp, g, d, tk, os⟩) i2 l2 k2 := hl2
    wp_walk using pyIter_rev hL1, pyIter_rev hL2
    refine ⟨_, rfl, ?_⟩
    simp only [Heap.size_push]
    exact h
def zipO (TI TO : Addr) : Obj := { cls := .type "zip", data := .fields #[.none, .bool false, .bool false, .ref TI, .ref TO] }
theorem call_zip {i1 i2 l1 l2 : Addr} {k1 k2 : Int} {Q : Value → Shared → Prop} (h1 : IsRev s.heap i1 l1 k1) (h2 : IsRev s.heap i2 l2 k2)
    (h : ∀ h', IsZip h' (s.heap.objs.size + 2) s.heap.objs.size (s.heap.objs.size + 1) .none → IsPair h' s.heap.objs.size (.ref i1) (.ref i2) → IsPair h' (s.heap.objs.size + 1) .none .none →
      (∀ c o, s.heap.get? c = some o → h'.get? c = some o) → Q (.ref (s.heap.objs.size + 2)) { s with heap := h' }) :
    wpAny (model prog w) A (call (.type "zip") [.ref i1, .ref i2]) Q E s := by
  refine callType_new F.called_zip (by decide) (F.typeCall_zip_2 _ _) (F.newCall_zip_2 _ _) (fun obj => F.args_object_init_3 obj _ _) F.entry_zip_new
    (meets_zip i1 i2 l1 l2 k1 k2) ⟨h1, h2, ?_⟩
  generalize e1 : s.heap.push { cls := .type "tuple", data := .seq #[.ref i1, .ref i2] } = hA
  generalize e2 : hA.push { cls := .type "tuple", data := .seq #[.none, .none] } = hB
  generalize e3 : hB.push { cls := .type "zip", data := .fields #[.none, .bool false, .bool false, .ref s.heap.objs.size, .ref (s.heap.objs.size + 1)] } = hC
  have zA : hA.objs.size = s.heap.objs.size + 1 := by rw [← e1, Heap.size_push]
  have zB : hB.objs.size = s.heap.objs.size + 2 := by rw [← e2, Heap.size_push, zA]
  have gC : IsZip hC hB.objs.size s.heap.objs.size (s.heap.objs.size + 1) .none := by rw [← e3]; exact Heap.get?_push_size _ rfl
  have gB : IsPair hC hA.objs.size .none .none := by rw [← e3, ← e2]; exact Heap.get?_push_of_some _ (Heap.get?_push_size _ rfl)
  have gA : IsPair hC s.heap.objs.size (.ref i1) (.ref i2) := by rw [← e3, ← e2, ← e1]; exact Heap.get?_push_of_some _ (Heap.get?_push_of_some _ (Heap.get?_push_size _ rfl))
  rw [zB] at gC
  rw [zA] at gB
  have up : ∀ c o, s.heap.get? c = some o → hC.get? c = some o := fun c o e => by
    rw [← e3, ← e2, ← e1]
    exact Heap.get?_push_of_some _ (Heap.get?_push_of_some _ (Heap.get?_push_of_some _ e))
  exact ⟨⟨_, gC, rfl⟩, h _ gC gA gB up⟩
theorem next_item {z TI TO i1 i2 l1 l2 : Addr} {k1 k2 : Nat} {xs ys : Array Value} {x y a b : Value} {Q : Option Value → Shared → Prop} (D : ZipApart z TI TO i1 i2 l1 l2)
    (hz : IsZip s.heap z TI TO .none) (hTI : IsPair s.heap TI (.ref i1) (.ref i2)) (hTO : IsPair s.heap TO a b)
    (h1 : IsRev s.heap i1 l1 k1) (h2 : IsRev s.heap i2 l2 k2) (hl1 : IsTup s.heap l1 xs) (hl2 : IsTup s.heap l2 ys) (z1 : (xs.size : Int) < 2 ^ 63) (z2 : (ys.size : Int) < 2 ^ 63) (hx : xs[k1]? = some x) (hy : ys[k2]? = some y)
    (hQ : ∀ h' tk, IsZip h' z TI TO (rawInt s.heap.objs.size) → IsPair h' TO x y → IsRev h' i1 l1 ((k1 : Int) - 1) → IsRev h' i2 l2 ((k2 : Int) - 1) → IsPair h' s.heap.objs.size x y →
      (∀ c o, c ≠ z → c ≠ TO → c ≠ i1 → c ≠ i2 → s.heap.get? c = some o → h'.get? c = some o) → Q (some (.ref s.heap.objs.size)) { s with heap := h', toks := tk }) :
    wpAny (model prog w) A (pyNext (.ref z)) Q E s := by
  have hT : s.TypeIs (.ref z) "zip" := ⟨_, hz, rfl⟩
  unfold pyNext
  exact wpAny_bind (wpAny_attempt (wpAny_callSpecial?_slot (name := Str.ofString "__next__") hT F.slot_zip_next
    (wpAny_call_entry F.slot_zip_next hT F.entry_zip_next
      (zip_item D hz hTI hTO h1 h2 hl1 hl2 z1 z2 hx hy fun h' tk a1 a2 a3 a4 a5 a6 => wpAny_pure (hQ h' tk a1 a2 a3 a4 a5 a6)) (F.args_zip_next_1 _))))
theorem next_end {z TI TO i1 i2 l1 l2 : Addr} {k1 k2 : Int} {xs : Array Value} {a b : Value} {Q : Option Value → Shared → Prop} (hh : A.handled = none) (D : ZipApart z TI TO i1 i2 l1 l2)
    (hz : IsZip s.heap z TI TO .none) (hTI : IsPair s.heap TI (.ref i1) (.ref i2)) (hTO : IsPair s.heap TO a b)
    (h1 : IsRev s.heap i1 l1 k1) (h2 : IsRev s.heap i2 l2 k2) (hl1 : IsTup s.heap l1 xs) (z1 : (xs.size : Int) < 2 ^ 63) (hend : k1 = -1 ∨ (k2 = -1 ∧ ∃ n : Nat, k1 = n ∧ n < xs.size))
    (hQ : ∀ h' tk, (∀ c o, c ≠ z → c ≠ TO → c ≠ i1 → c ≠ i2 → s.heap.get? c = some o → h'.get? c = some o) → Q none { s with heap := h', toks := tk }) : wpAny (model prog w) A (pyNext (.ref z)) Q E s := by
  have hT : s.TypeIs (.ref z) "zip" := ⟨_, hz, rfl⟩
  unfold pyNext
  refine wpAny_bind (wpAny_attempt (wpAny_callSpecial?_slot (name := Str.ofString "__next__") hT F.slot_zip_next
    (wpAny_call_entry F.slot_zip_next hT F.entry_zip_next (zip_end hh D hz hTI hTO h1 h2 hl1 z1 hend fun h' tk e hk he => ?_) (F.args_zip_next_1 _))))
  obtain ⟨o, ho, hc⟩ := he
  refine wpAny_bind (wpAny_isInstance (T := "StopIteration") (b := true) ⟨o, ho, hc⟩ isSubtype_stop ?_)
  exact wpAny_pure (hQ _ _ hk)
theorem walks_zipRev (hh : A.handled = none) (z TI TO i1 i2 l1 l2 : Addr) (D : ZipApart z TI TO i1 i2 l1 l2) (xs ys : Array Value) (z1 : (xs.size : Int) < 2 ^ 63) (z2 : (ys.size : Int) < 2 ^ 63) :
    WalksT prog w A z [z, TI, TO, i1, i2, l1, l2] [z, TO, i1, i2] (min xs.size ys.size)
      (fun i vals => ∃ x y, xs[xs.size - 1 - i]? = some x ∧ ys[ys.size - 1 - i]? = some y ∧ vals = #[x, y])
      (fun i h => i ≤ min xs.size ys.size ∧ IsZip h z TI TO .none ∧ IsPair h TI (.ref i1) (.ref i2) ∧ (∃ a b, IsPair h TO a b) ∧ IsRev h i1 l1 ((xs.size : Int) - 1 - (i : Int)) ∧ IsRev h i2 l2 ((ys.size : Int) - 1 - (i : Int)) ∧ IsTup h l1 xs ∧ IsTup h l2 ys)
      (fun i T h => i + 1 ≤ min xs.size ys.size ∧ IsZip h z TI TO (rawInt T) ∧ IsPair h TI (.ref i1) (.ref i2) ∧ (∃ a b, IsPair h TO a b) ∧ IsRev h i1 l1 ((xs.size : Int) - 1 - ((i + 1 : Nat) : Int)) ∧ IsRev h i2 l2 ((ys.size : Int) - 1 - ((i + 1 : Nat) : Int)) ∧ IsTup h l1 xs ∧ IsTup h l2 ys ∧
        T ≠ z ∧ T ≠ TO ∧ T ≠ i1 ∧ T ≠ i2) where
  sub := fun c hc => by simp at hc ⊢; rcases hc with rfl | rfl | rfl | rfl <;> simp
  frame := fun i h h' hst hk => by
    obtain ⟨hi, hz, hTI, ⟨a, b, hTO⟩, h1, h2, hl1, hl2⟩ := hst
    exact ⟨hi, hk z (by simp) _ hz, hk TI (by simp) _ hTI, ⟨a, b, hk TO (by simp) _ hTO⟩, hk i1 (by simp) _ h1, hk i2 (by simp) _ h2,
      let ⟨o, ho, r⟩ := hl1; ⟨o, hk l1 (by simp) o ho, r⟩, let ⟨o, ho, r⟩ := hl2; ⟨o, hk l2 (by simp) o ho, r⟩⟩
  item := fun i s Q E hi hst hQ => by
    obtain ⟨_, hz, hTI, ⟨a, b, hTO⟩, h1, h2, hl1, hl2⟩ := hst
    have hix : i < xs.size := Nat.lt_of_lt_of_le hi (Nat.min_le_left ..)
    have hiy : i < ys.size := Nat.lt_of_lt_of_le hi (Nat.min_le_right ..)
    have e1 : (xs.size : Int) - 1 - (i : Int) = ((xs.size - 1 - i : Nat) : Int) := by omega
    have e2 : (ys.size : Int) - 1 - (i : Int) = ((ys.size - 1 - i : Nat) : Int) := by omega
    have f1 : ((xs.size - 1 - i : Nat) : Int) - 1 = (xs.size : Int) - 1 - ((i + 1 : Nat) : Int) := by omega
    have f2 : ((ys.size - 1 - i : Nat) : Int) - 1 = (ys.size : Int) - 1 - ((i + 1 : Nat) : Int) := by omega
    rw [e1] at h1
    rw [e2] at h2
    have gx : xs[xs.size - 1 - i]? = some (xs[xs.size - 1 - i]'(by omega)) := Array.getElem?_eq_getElem (by omega)
    have gy : ys[ys.size - 1 - i]? = some (ys[ys.size - 1 - i]'(by omega)) := Array.getElem?_eq_getElem (by omega)
    refine next_item D hz hTI hTO h1 h2 hl1 hl2 z1 z2 gx gy fun h' tk a1 a2 a3 a4 a5 hk => ?_
    rw [f1] at a3
    rw [f2] at a4
    have lt : ∀ {c o}, s.heap.get? c = some o → s.heap.objs.size ≠ c := fun e => Nat.ne_of_gt (Heap.lt_size e)
    exact hQ s.heap.objs.size #[_, _] h' tk ⟨_, _, gx, gy, rfl⟩ (Nat.le_refl _) ⟨_, a5, rfl, _, rfl⟩
      ⟨hi, a1, hk _ _ D.TIz D.TITO D.TIi1 D.TIi2 hTI, ⟨_, _, a2⟩, a3, a4, (let ⟨o, ho, r⟩ := hl1; ⟨o, hk _ o D.l1z D.l1TO D.l1i1 D.l1i2 ho, r⟩), (let ⟨o, ho, r⟩ := hl2; ⟨o, hk _ o D.l2z D.l2TO D.l2i1 D.l2i2 ho, r⟩),
        lt hz, lt hTO, lt h1, lt h2⟩
      fun c o hc e => hk c o (fun x => hc (by simp [x])) (fun x => hc (by simp [x])) (fun x => hc (by simp [x])) (fun x => hc (by simp [x])) e
  go := fun elts k pos i T s Q E hm hQ => by
    obtain ⟨hi, hz, hTI, ⟨a, b, hTO⟩, h1, h2, hl1, hl2, _⟩ := hm
    refine wpAny_letOwnedTupleGo_zip hz fun h' hz' hs' => hQ h' ⟨hi, hz', hs'.extBut _ _ D.TIz hTI, ⟨a, b, hs'.extBut _ _ D.TOz hTO⟩, hs'.extBut _ _ D.i1z h1, hs'.extBut _ _ D.i2z h2,
      tup_keepsBut hl1 hs'.extBut D.l1z, tup_keepsBut hl2 hs'.extBut D.l2z⟩ fun c o hc e => hs'.extBut _ _ (fun x => hc (by simp [x])) e
  apart := fun i T h hm hT => by
    obtain ⟨_, _, _, _, _, _, _, _, t1, t2, t3, t4⟩ := hm
    simp at hT
    rcases hT with rfl | rfl | rfl | rfl
    · exact t1 rfl
    · exact t2 rfl
    · exact t3 rfl
    · exact t4 rfl
  done := fun s Q E hst hQ => by
    obtain ⟨_, hz, hTI, ⟨a, b, hTO⟩, h1, h2, hl1, hl2⟩ := hst
    refine next_end hh D hz hTI hTO h1 h2 hl1 z1 ?_ fun h' tk hk => hQ h' tk fun c o hc e =>
      hk c o (fun x => hc (by simp [x])) (fun x => hc (by simp [x])) (fun x => hc (by simp [x])) (fun x => hc (by simp [x])) e
    rcases Nat.lt_or_ge ys.size xs.size with h | h
    · exact .inr ⟨by omega, xs.size - 1 - min xs.size ys.size, by omega, by omega⟩
    · exact .inl (by omega)
  self := fun i s Q E hst hQ => wpAny_pyIter_zip hst.2.1 hQ
end
end BL
end Mine

end
section
open PySem PySem.W PyProof.Rows PySem.Calls
set_option Elab.async false
set_option maxRecDepth 100000
set_option maxHeartbeats 8000000
namespace Mine
open PySem.Builtin
/-- the walk stands still -/
def Hold (P : Prop) : Prop := P
theorem hold {P : Prop} (h : Hold P) : P := h
theorem held {P : Prop} (h : P) : Hold P := h
/-- a sign for a line of the walk -/
def Mark : Prop := True
namespace BL
section
variable {prog : Program} {w : World} {A : Around} {E : Value → Shared → Prop} {s : Shared} {h₀ : Heap} {L : Addr} {env : Env} {m : Str → Option Value} {news : List (Addr × Obj)}
theorem rev_led {t : Addr} {vs : List Value} {Q : Value → Shared → Prop} (F : Fr h₀ L s.heap m) (N : News h₀ L s.heap news) (hm : (t, tup vs) ∈ news) (hz : vs.length ≤ 16384)
    (h : ∀ D h' tk, Fr h₀ L h' m → News h₀ L h' ((D, revO t ((vs.length : Int) - 1)) :: news) → (∀ p ∈ news, p.1 < D) → Q (.ref D) { s with heap := h', toks := tk }) : wpAny (model prog w) A (call (.type "reversed") [.ref t]) Q E s := by
  refine call_rev (newS N hm) (by simp; omega) fun tk => ?_
  have e : ((vs.toArray.size : Nat) : Int) - 1 = (vs.length : Int) - 1 := by simp
  rw [e]
  exact h _ _ tk (F.push _) (News.push F N _) fun p hp => Heap.lt_size (N p hp).1
theorem hi_ne {S c : Nat} (k : Nat) (h : c < S) : S + k ≠ c := by omega
theorem lo_ne {S c : Nat} (k : Nat) (h : c < S) : c ≠ S + k := by omega
/-- a turn's end -/
def TurnZ (h₀ : Heap) (L : Addr) (led : List (Addr × Obj)) (J : (Str → Option Value) → Prop) (s₁ : Shared) (Q : Flow → Shared → Prop) (f : Flow) (s₂ : Shared) : Prop :=
  match f with
  | .ret v => Q (.ret v) s₂
  | .brk => Q .next s₂
  | _ => ∃ h' tk m', s₂ = { s₁ with heap := h', toks := tk } ∧ Fr h₀ L h' m' ∧ News h₀ L h' led ∧ J m'
theorem TurnZ.next {led : List (Addr × Obj)} {J : (Str → Option Value) → Prop} {s₁ : Shared} {Q : Flow → Shared → Prop} {h' : Heap} {tk : Nat} {m' : Str → Option Value}
    (F : Fr h₀ L h' m') (N : News h₀ L h' led) (j : J m') : TurnZ h₀ L led J s₁ Q .next { s₁ with heap := h', toks := tk } := ⟨h', tk, m', rfl, F, N, j⟩
theorem zip_turns {a b : Str} {pa pb tp : Pos} {kk : Nat} {body : List Stmt} {Q : Flow → Shared → Prop} {i1 i2 t1 t2 : Addr} {vs1 vs2 : List Value} {m₀ : Str → Option Value} (hh : A.handled = none)
    (ha : env.kindOf a = some .local) (hb : env.kindOf b = some .local) (hp : (env.scope.kind == .class || (env.scope.kind == .module && env.locals != env.globals)) = false)
    (F : Fr h₀ env.locals s.heap m₀) (N : News h₀ env.locals s.heap news) (m1 : (i1, revO t1 ((vs1.length : Int) - 1)) ∈ news) (m2 : (i2, revO t2 ((vs2.length : Int) - 1)) ∈ news) (mt1 : (t1, tup vs1) ∈ news) (mt2 : (t2, tup vs2) ∈ news)
    (n12 : i1 ≠ i2) (n11 : t1 ≠ i1) (n1' : t1 ≠ i2) (n21 : t2 ≠ i1) (n22 : t2 ≠ i2) (led : List (Addr × Obj)) (hled : ∀ p ∈ led, p ∈ news ∧ p.1 ≠ i1 ∧ p.1 ≠ i2) (hz1 : vs1.length ≤ 16384) (hz2 : vs2.length ≤ 16384)
    (J : Nat → (Str → Option Value) → Prop) (h0 : J 0 m₀)
    (step : ∀ i x y m₁ own h tk, i < min vs1.length vs2.length → vs1[vs1.length - 1 - i]? = some x → vs2[vs2.length - 1 - i]? = some y → J i m₁ →
      Fr h₀ env.locals h (fun z => if z = b then some y else if z = a then some x else m₁ z) → News h₀ env.locals h (own ++ led) →
      wpAny (model prog w) A (execs body env) (TurnZ h₀ env.locals (own ++ led) (J (i + 1)) { s with heap := h, toks := tk } Q) E { s with heap := h, toks := tk })
    (done : ∀ m₁ h tk, J (min vs1.length vs2.length) m₁ → Fr h₀ env.locals h m₁ → News h₀ env.locals h led → Q .next { s with heap := h, toks := tk }) :
    wpAny (model prog w) A (call (.type "zip") [.ref i1, .ref i2]) (fun xv s₁ => wpAny (model prog w) A (pyIter xv) (fun it s₂ => TurnsAt prog w A h₀ env (.Tuple [.Name a pa, .Name b pb] kk tp) body Q E it s₂) E s₁) E s := by
  have r1 : IsRev s.heap i1 t1 ((vs1.length : Int) - 1) := (N _ m1).1
  have r2 : IsRev s.heap i2 t2 ((vs2.length : Int) - 1) := (N _ m2).1
  have lt1 : i1 < s.heap.objs.size := Heap.lt_size r1
  have lt2 : i2 < s.heap.objs.size := Heap.lt_size r2
  have T1 : IsTup s.heap t1 vs1.toArray := newS N mt1
  have T2 : IsTup s.heap t2 vs2.toArray := newS N mt2
  have lt3 : t1 < s.heap.objs.size := Heap.lt_size (N _ mt1).1
  have lt4 : t2 < s.heap.objs.size := Heap.lt_size (N _ mt2).1
  have ltL : env.locals < s.heap.objs.size := F.ns.lt
  generalize hS : s.heap.objs.size = S at lt1 lt2 lt3 lt4 ltL
  have D : ZipApart (S + 2) S (S + 1) i1 i2 t1 t2 :=
    ⟨(Nat.ne_of_lt (Nat.lt_add_of_pos_right (by decide)) : S ≠ S + 2), (Nat.ne_of_lt (Nat.lt_succ_self _) : S + 1 ≠ S + 2), lo_ne 2 lt1, lo_ne 2 lt2, (Nat.ne_of_lt (Nat.lt_succ_self _) : S ≠ S + 1), hi_ne 0 lt1, hi_ne 0 lt2, hi_ne 1 lt1, hi_ne 1 lt2, n12,
      lo_ne 2 lt3, lo_ne 1 lt3, n11, n1', lo_ne 2 lt4, lo_ne 1 lt4, n21, n22⟩
  refine call_zip r1 r2 fun h' hz hTI hTO hk => ?_
  rw [hS] at hz hTI hTO ⊢
  refine wpAny_pyIter_zip hz ?_
  have F' : Fr h₀ env.locals h' m₀ := F.keeps hk
  have N' : News h₀ env.locals h' led := fun p hp => (N.grown hk) p (hled p hp).1
  have new : ∀ c, S ≤ c → h₀.get? c = none := fun c hc => base_none F (hS ▸ hc)
  refine ⟨S + 2, _, _, _, _, _, _, m₀, led, fun i m nw => nw = led ∧ J i m, rfl, KTurns.ofWalksU (walks_zipRev hh (S + 2) S (S + 1) i1 i2 t1 t2 D vs1.toArray vs2.toArray (by simp; omega) (by simp; omega)).toU, ?_, ?_, ?_, ?_, F', N', ⟨rfl, h0⟩, ?_, ?_⟩
  · have this_1 := (N _ m1).2.1
    have this_2 := (N _ m2).2.1
    have this_3 := (N _ mt1).2.1
    have this_4 := (N _ mt2).2.1
    simp only [List.mem_cons, List.not_mem_nil, or_false, not_or]
    exact ⟨lo_ne 2 ltL, lo_ne 0 ltL, lo_ne 1 ltL, Ne.symm this_1, Ne.symm this_2, Ne.symm this_3, Ne.symm this_4⟩
  · intro b hb
    simp only [List.mem_cons, List.not_mem_nil, or_false] at hb
    rcases hb with rfl | rfl | rfl | rfl
    · exact new _ (Nat.le_add_right S 2)
    · exact new _ (Nat.le_add_right S 1)
    · exact (N _ m1).2.2
    · exact (N _ m2).2.2
  · intro p hp
    have hlt : p.1 < S := hS ▸ Heap.lt_size (N _ (hled p hp).1).1
    simp only [List.mem_cons, List.not_mem_nil, or_false, not_or]
    exact ⟨lo_ne 2 hlt, lo_ne 1 hlt, (hled p hp).2.1, (hled p hp).2.2⟩
  · refine ⟨Nat.zero_le _, hz, hTI, ⟨_, _, hTO⟩, ?_, ?_, T1.keeps hk, T2.keeps hk⟩
    · have : IsRev h' i1 t1 ((vs1.length : Int) - 1) := hk _ _ r1
      simpa using this
    · have : IsRev h' i2 t2 ((vs2.length : Int) - 1) := hk _ _ r2
      simpa using this
  · rintro i v m₁ news₁ h₁ tk₁ own hi ⟨T, vals, rfl, ⟨x, y, hx, hy, rfl⟩, hT⟩ ⟨rfl, hJ⟩ hnw hfp hown hall st F₁ N₁
    have hn1 : vs1.toArray.size = vs1.length := by simp
    have hn2 : vs2.toArray.size = vs2.length := by simp
    rw [hn1, hn2] at hi
    rw [hn1] at hx
    rw [hn2] at hy
    refine kcp_assign hh hT ha hb hp F₁.ns fun h₂ tk₂ ns₂ hk₂ => ?_
    have F₂ : Fr h₀ env.locals h₂ (fun z => if z = b then some y else if z = a then some x else m₁ z) := ⟨ns₂, fun c o e => hk₂ c o (fun q => by rw [q, Heap.get?_none_of_le F₁.above] at e; cases e) (F₁.keep c o e), F₁.above⟩
    have N₂ : News h₀ env.locals h₂ (own ++ news₁) := fun p hp => ⟨hk₂ _ _ (N₁ p hp).2.1 (N₁ p hp).1, (N₁ p hp).2⟩
    refine wpAny_mono (step i x y m₁ own h₂ tk₂ hi (by simpa using hx) (by simpa using hy) hJ F₂ N₂) (fun f s₃ h₃ => ?_) fun _ _ e => e
    have fin : (∃ h' tk m', s₃ = { s with heap := h', toks := tk } ∧ Fr h₀ env.locals h' m' ∧ News h₀ env.locals h' (own ++ news₁) ∧ J (i + 1) m') →
        LoopStepU h₀ env.locals [S + 2, S + 1, i1, i2] own (fun m nw => nw = news₁ ∧ J (i + 1) m) { s with heap := h₁, toks := tk₁ } .next s₃ := by
      rintro ⟨h3, tk3, m3, rfl, F3, N3, J3⟩
      exact ⟨rfl, h3, tk3, m3, news₁, rfl, F3, N3, hnw, rfl, J3⟩
    cases f with
    | ret v => exact h₃
    | brk => exact h₃
    | cont => exact fin h₃
    | next => exact fin h₃
  · rintro h'' tk m' news' F'' N'' _ ⟨rfl, hJ⟩
    have hn1 : vs1.toArray.size = vs1.length := by simp
    have hn2 : vs2.toArray.size = vs2.length := by simp
    rw [hn1, hn2] at hJ
    exact done m' h'' tk hJ F'' N''
theorem zip_led {a b : Str} {pa pb tp : Pos} {kk : Nat} {body : List Stmt} {Q : Flow → Shared → Prop} {i1 i2 t1 t2 : Addr} {vs1 vs2 : List Value} {m₀ : Str → Option Value} {led : List (Addr × Obj)} (hh : A.handled = none)
    (ha : env.kindOf a = some .local) (hb : env.kindOf b = some .local) (hp : (env.scope.kind == .class || (env.scope.kind == .module && env.locals != env.globals)) = false)
    (F : Fr h₀ env.locals s.heap m₀) (N : News h₀ env.locals s.heap ((i2, revO t2 ((vs2.length : Int) - 1)) :: (i1, revO t1 ((vs1.length : Int) - 1)) :: led)) (l1 : ∀ p ∈ led, p.1 < i1) (l2 : ∀ p ∈ (i1, revO t1 ((vs1.length : Int) - 1)) :: led, p.1 < i2) (mt1 : (t1, tup vs1) ∈ led) (mt2 : (t2, tup vs2) ∈ led)
    (hz1 : vs1.length ≤ 16384) (hz2 : vs2.length ≤ 16384)
    (J : Nat → (Str → Option Value) → Prop) (h0 : J 0 m₀)
    (step : ∀ i x y m₁ own h tk, i < min vs1.length vs2.length → vs1[vs1.length - 1 - i]? = some x → vs2[vs2.length - 1 - i]? = some y → J i m₁ →
      Fr h₀ env.locals h (fun z => if z = b then some y else if z = a then some x else m₁ z) → News h₀ env.locals h (own ++ led) →
      wpAny (model prog w) A (execs body env) (TurnZ h₀ env.locals (own ++ led) (J (i + 1)) { s with heap := h, toks := tk } Q) E { s with heap := h, toks := tk })
    (done : ∀ m₁ h tk, J (min vs1.length vs2.length) m₁ → Fr h₀ env.locals h m₁ → News h₀ env.locals h led → Q .next { s with heap := h, toks := tk }) :
    wpAny (model prog w) A (call (.type "zip") [.ref i1, .ref i2]) (fun xv s₁ => wpAny (model prog w) A (pyIter xv) (fun it s₂ => TurnsAt prog w A h₀ env (.Tuple [.Name a pa, .Name b pb] kk tp) body Q E it s₂) E s₁) E s :=
  have up : ∀ p ∈ led, p ∈ (i1, revO t1 ((vs1.length : Int) - 1)) :: led := fun p hp => .tail _ hp
  zip_turns hh ha hb hp F N (.tail _ (.head _)) (.head _) (.tail _ (.tail _ mt1)) (.tail _ (.tail _ mt2)) (Nat.ne_of_lt (l2 _ (.head _))) (Nat.ne_of_lt (l1 _ mt1)) (Nat.ne_of_lt (l2 _ (up _ mt1))) (Nat.ne_of_lt (l1 _ mt2)) (Nat.ne_of_lt (l2 _ (up _ mt2)))
    led (fun p hp => ⟨.tail _ (.tail _ hp), Nat.ne_of_lt (l1 p hp), Nat.ne_of_lt (l2 p (up p hp))⟩) hz1 hz2 J h0 step done
theorem item_v {value slice : Expr} {l : Addr} {vs : List Value} {k : Int} {u : Tok} {j : Nat} {v : Value} {Q : Value → Shared → Prop} (N : News h₀ L s.heap news) (hm : (l, tup vs) ∈ news) (hlo : -(2 ^ 63) ≤ k) (hhi : k < 2 ^ 63) (hj : seqIndex? k vs.toArray.size = some j) (hx : vs.toArray[j]? = some v) (h : Q v s)
    (hs : subscripted slice false (.ref l) (.int k u) = operate [.ref l, .int k u] (getItem (.ref l) (.int k u)) := by with_unfolding_all rfl) :
    wpAny (model prog w) A (subscriptTail value slice (.ref l) (.int k u)) Q E s := item_tup N hm rfl ⟨_, rfl⟩ hlo hhi hj hx h hs
end
end BL
end Mine

end
section
open PySem PySem.W PyProof.Rows PySem.Calls
set_option Elab.async false
set_option maxRecDepth 100000
set_option maxHeartbeats 8000000
namespace Mine
open PyProof.Rows.LCg
theorem idx_clip (i j n : Nat) : Builtin.Str.strSliceIndices (some (i : Int)) (some (j : Int)) 1 n = Builtin.Str.strSliceIndices (some ((min i n : Nat) : Int)) (some ((min j n : Nat) : Int)) 1 n := by
  unfold Builtin.Str.strSliceIndices
  simp only [show (1 : Int) > 0 by decide, if_true, show ¬ ((i : Int) < 0) by omega, show ¬ ((j : Int) < 0) by omega, show ¬ (((min i n : Nat) : Int) < 0) by omega, show ¬ (((min j n : Nat) : Int) < 0) by omega, if_false]
  congr 1 <;> omega
theorem strL_clip {l : List Nat} {i j : Nat} (hi : i ≤ j) : Txt.slice (strL l) (some (i : Int)) (some (j : Int)) = strL ((l.drop i).take (j - i)) := by
  have e : Txt.slice (strL l) (some (i : Int)) (some (j : Int)) = Txt.slice (strL l) (some ((min i l.length : Nat) : Int)) (some ((min j l.length : Nat) : Int)) := by
    show PySem.StrLaws.sliceText _ _ _ = PySem.StrLaws.sliceText _ _ _
    unfold PySem.StrLaws.sliceText
    rw [strL_len, idx_clip]
  rw [e, strL_slice (by omega) (by omega)]
  congr 1
  apply List.ext_getElem?
  intro k
  simp only [List.getElem?_take, List.getElem?_drop]
  by_cases h : i ≤ l.length
  · rw [Nat.min_eq_left h]
    by_cases hk : k < j - i
    · rw [if_pos hk]
      by_cases hk2 : k < min j l.length - i
      · rw [if_pos hk2]
      · rw [if_neg hk2, List.getElem?_eq_none (by omega)]
    · rw [if_neg hk, if_neg (by omega)]
  · rw [if_neg (by omega), List.getElem?_eq_none (by omega)]
    simp
theorem item_is {l : List Nat} {i : Nat} {c : Nat} (h : l[i]? = some c) : Txt.item (strL l) (i : Int) = strL [c] := by
  have hlt : i < l.length := (List.getElem?_eq_some_iff.mp h).1
  unfold Txt.item Txt.charAt
  have e : seqIndex? (i : Int) (strL l).length = some i := by
    unfold seqIndex?
    rw [strL_len]
    simp
    omega
  rw [e]
  simp only [Option.bind_some]
  have : (strL l).cps[i]? = some c := by simpa [strL] using h
  rw [this]
  rfl
theorem three_text : ∀ n : Nat, n < 128 → PySem.intText? (strL [48 + n / 100, 48 + n / 10 % 10, 48 + n % 10]) = some (n : Int) := by decide +kernel
theorem digit_in : ∀ d : Nat, d < 10 → Txt.contains (Str.ofString "0123456789") (strL [48 + d]) = true := by decide +kernel
theorem foldl_app (ls : List (List Nat)) : ∀ acc : Array Nat, (ls.map strL).foldl (fun acc p => acc ++ (Str.ofString "").cps ++ p.cps) acc = acc ++ ls.flatten.toArray := by
  induction ls with
  | nil => intro acc; simp
  | cons l ls ih =>
    intro acc
    rw [List.map_cons, List.foldl_cons, ih]
    have : (Str.ofString "").cps = #[] := rfl
    rw [this]
    simp [strL]
theorem join_empty (ls : List (List Nat)) : Txt.join (Str.ofString "") (ls.map strL) = strL ls.flatten := by
  cases ls with
  | nil => rfl
  | cons l ls =>
    unfold Txt.join Builtin.Str.glued
    simp only [List.map_cons, List.drop_succ_cons, List.drop_zero, List.headD_cons]
    rw [foldl_app]
    apply Str.ext'
    simp [strL]
section
variable {prog : Program} {w : World} {A : Around} {E : Value → Shared → Prop} {s : Shared} {h₀ : Heap} {L : Addr} {m : Str → Option Value} {news : List (Addr × Obj)} {t u : Tok} {Q : Value → Shared → Prop}
theorem iter_str (hh : A.handled = none) (l : List Nat) (ha : ∀ c ∈ l, c < 128) (t : Tok) : IterG prog w A h₀ L (fun _ => True) l.length (fun i v => ∃ c u, l[i]? = some c ∧ v = .str (strL [c]) u) (.str (strL l) t) s := by
  intro Q E h
  have hall : (strL l).cps.all (· < 128) = true := by
    simp only [strL, List.all_toArray, List.all_eq_true, decide_eq_true_eq]
    exact ha
  refine wpAny_pyIter_ascii hall ?_
  have W := Walks.strAscii (prog := prog) (w := w) (A := A) hh s.heap.objs.size (strL l) t
  have hn : (strL l).cps.size = l.length := by simp [strL]
  rw [hn] at W
  refine h _ _ _ _ _ ⟨W.sub, W.frame, fun i s Q E hi st hQ => W.item i s Q E hi st fun v h' tk hP => hQ v h' tk ?_, W.done, W.self⟩ (fun i h st => ?_) (fun i h h' o nw st e e' _ _ _ => ?_) ⟨_, Heap.get?_push_size _ rfl, rfl, rfl⟩ (fun b hb => ?_) (fun b hb ne => absurd (List.mem_singleton.mp hb) ne) (fun b o e => Heap.get?_push_of_some _ e) (Nat.le_refl _)
  · obtain ⟨c, u, hc, rfl⟩ := hP
    exact ⟨c, u, by simpa [strL] using hc, rfl⟩
  · obtain ⟨o, ho, _⟩ := st
    exact ⟨o, ho⟩
  · obtain ⟨o2, ho, r⟩ := st
    rw [e] at ho
    cases ho
    exact ⟨o, e', r⟩
  · rw [List.mem_singleton.mp hb]
    show s.heap.objs.size < (s.heap.push _).objs.size
    rw [Heap.size_push]
    exact Nat.lt_succ_self _
end
end Mine

end
section
open PySem PySem.W PyProof.Rows PySem.Calls
set_option Elab.async false
set_option maxRecDepth 100000
set_option maxHeartbeats 8000000
namespace Mine
open PyProof.Rows.LCg
section
variable {prog : Program} {w : World} {A : Around} {E : Value → Shared → Prop} {s : Shared} {h₀ : Heap} {L : Addr} {env : Env} {m : Str → Option Value} {news : List (Addr × Obj)}
/-- a while's turn's end -/
def TurnW (h₀ : Heap) (L : Addr) (J : (Str → Option Value) → List (Addr × Obj) → Prop) (s₁ : Shared) (Q : Flow → Shared → Prop) (f : Flow) (s₂ : Shared) : Prop :=
  match f with
  | .ret v => Q (.ret v) s₂
  | .brk => Q .next s₂
  | _ => ∃ h' tk m' nw', s₂ = { s₁ with heap := h', toks := tk } ∧ Fr h₀ L h' m' ∧ News h₀ L h' nw' ∧ J m' nw'
theorem TurnW.next {J : (Str → Option Value) → List (Addr × Obj) → Prop} {s₁ : Shared} {Q : Flow → Shared → Prop} {h' : Heap} {tk : Nat} {m' : Str → Option Value} {nw' : List (Addr × Obj)}
    (F : Fr h₀ L h' m') (N : News h₀ L h' nw') (j : J m' nw') : TurnW h₀ L J s₁ Q .next { s₁ with heap := h', toks := tk } := ⟨h', tk, m', nw', rfl, F, N, j⟩
theorem While_G {test : Expr} {body : List Stmt} {pos : Pos} {Q : Flow → Shared → Prop} (n : Nat) (J : Nat → (Str → Option Value) → List (Addr × Obj) → Prop) (F : Fr h₀ env.locals s.heap m) (N : News h₀ env.locals s.heap news) (h0 : J 0 m news)
    (turn : ∀ i m₁ nw h tk (E' : Value → Shared → Prop), i ≤ n → J i m₁ nw → Fr h₀ env.locals h m₁ → News h₀ env.locals h nw →
      wpAny (model prog w) A (isTrue test env (eval test env)) (fun b s₂ => if b then wpAny (model prog w) A (execs body env) (TurnW h₀ env.locals (fun m' nw' => i + 1 ≤ n ∧ J (i + 1) m' nw') { s with heap := h, toks := tk } Q) E' s₂ else Q .next s₂) E' { s with heap := h, toks := tk }) :
    wpAny (model prog w) A (exec (.While test body [] pos) env) Q E s := by
  refine wpAny_While ?_
  refine codeAny_whileLoop (fun k s' => ∃ i h tk m₁ nw, s' = { s with heap := h, toks := tk } ∧ i ≤ n ∧ J i m₁ nw ∧ Fr h₀ env.locals h m₁ ∧ News h₀ env.locals h nw ∧ k = n - i) ?_ n ⟨0, s.heap, s.toks, m, news, rfl, Nat.zero_le _, h0, F, N, rfl⟩
  rintro k s' ⟨i, h, tk, m₁, nw, rfl, hi, hJ, F', N', rfl⟩
  refine wpAny_mono (turn i m₁ nw h tk _ hi hJ F' N') (fun b s₂ h₂ => ?_) fun _ _ e => e
  cases b with
  | false =>
    simp only [Bool.false_eq_true, if_false] at h₂ ⊢
    exact wpAny_execs_nil h₂
  | true =>
    simp only [if_true] at h₂ ⊢
    refine wpAny_mono h₂ (fun f s₃ h₃ => ?_) fun _ _ e => e
    have fin : (∃ h' tk' m' nw', s₃ = { s with heap := h', toks := tk' } ∧ Fr h₀ env.locals h' m' ∧ News h₀ env.locals h' nw' ∧ i + 1 ≤ n ∧ J (i + 1) m' nw') →
        ∃ k', k' < n - i ∧ ∃ i h tk m₁ nw, s₃ = { s with heap := h, toks := tk } ∧ i ≤ n ∧ J i m₁ nw ∧ Fr h₀ env.locals h m₁ ∧ News h₀ env.locals h nw ∧ k' = n - i := by
      rintro ⟨h', tk', m', nw', rfl, F₃, N₃, hi₃, J₃⟩
      exact ⟨n - (i + 1), by omega, i + 1, h', tk', m', nw', rfl, hi₃, J₃, F₃, N₃, rfl⟩
    cases f with
    | ret v => exact h₃
    | brk => exact h₃
    | cont => exact fin h₃
    | next => exact fin h₃
end
end Mine

end
section
open PySem PySem.W PyProof.Rows PySem.Calls
set_option Elab.async false
set_option maxRecDepth 100000
set_option maxHeartbeats 8000000
namespace Mine
open PyProof.Rows.LCg
theorem srcG_str {prog : Program} {w : World} {A : Around} {s : Shared} {h₀ : Heap} {L : Addr} {m : Str → Option Value} {env : Env} {elt : Expr} {x : Str} {scope : Scope} {cl : List (Str × Addr)} {Fin : Shared → List Value → List (Addr × Obj) → Prop} {l : List Nat} {t : Tok} {news : List (Addr × Obj)} (hh : A.handled = none) (F : Fr h₀ L s.heap m) (N : News h₀ L s.heap news) (hz : l.length ≤ sizeLine) (ha : ∀ c ∈ l, c < 128)
    (h : ∀ g tk, CompRest prog w A h₀ L m env elt x scope cl { s with heap := g, toks := tk } (fun _ => True) (fun i v => ∃ c u, l[i]? = some c ∧ v = .str (strL [c]) u) (Fin { s with heap := g, toks := tk }) l.length 0 [] news) :
    SrcG prog w A h₀ L m env elt x scope cl Fin (.str (strL l) t) s :=
  ⟨_, _, _, news, F, N, hz, trivial, iter_str hh l ha t, by rintro s₂ ⟨g, tk, rfl⟩; exact h g tk⟩
section
variable {prog : Program} {w : World} {A : Around} {E : Value → Shared → Prop} {s : Shared} {h₀ : Heap} {L : Addr} {m : Str → Option Value} {news : List (Addr × Obj)} {t u : Tok} {Q : Value → Shared → Prop} {l : List Nat} {value slice : Expr}
theorem eq_strb {x y : Str} {c : Bool} (e : (x == y) = c) (h : Q (.bool c) s) : wpAny (model prog w) A (compareOp .Eq (.str x t) (.str y u)) Q E s :=
  PySem.SeqAt.RcAt.str_str x t y u prog w E Q (e ▸ h)
theorem eq_intb {x y : Int} {c : Bool} (e : (x == y) = c) (h : Q (.bool c) s) : wpAny (model prog w) A (compareOp .Eq (.int x t) (.int y u)) Q E s :=
  PySem.SeqAt.RcAt.int_int x t y u prog w E Q (e ▸ h)
theorem item_strL {p c : Nat} (hc : l[p]? = some c) (hz : l.length ≤ 1048576) (h : ∀ t' tk, Q (.str (strL [c]) t') { s with toks := tk })
    (hs : subscripted slice false (.str (strL l) t) (.int (p : Int) u) = operate [.str (strL l) t, .int (p : Int) u] (getItem (.str (strL l) t) (.int (p : Int) u)) := by with_unfolding_all rfl)
    (ht : ∀ r, letTemporaryGo value (.str (strL l) t) r = pure () := by intro _; with_unfolding_all rfl) :
    wpAny (model prog w) A (subscriptTail value slice (.str (strL l) t) (.int (p : Int) u)) Q E s := by
  have hlt : p < l.length := (List.getElem?_eq_some_iff.mp hc).1
  refine item_str (by unfold fitsSsize; simp; omega) (by rw [strL_len]; omega) (by rw [strL_len]; omega) (fun _ => ?_) hs ht
  rw [item_is hc]
  exact h _ _
theorem slice3 {p : Nat} {ds : List Nat} {ui uj : Tok} (hF : Fr h₀ L s.heap m) (hN : News h₀ L s.heap news) (hd : (l.drop (p + 1)).take 3 = ds) (hz : l.length ≤ sizeLine) (h : ∀ h' t' k, Fr h₀ L h' m → News h₀ L h' news → Q (.str (strL ds) t') { s with heap := h', toks := k })
    (hs : subscripted slice false (.str (strL l) t) (.ref s.heap.objs.size) = operate [.ref s.heap.objs.size, .str (strL l) t] (getItem (.str (strL l) t) (.ref s.heap.objs.size)) := by with_unfolding_all rfl)
    (ht : ∀ r, letTemporaryGo value (.str (strL l) t) r = pure () := by intro _; with_unfolding_all rfl) :
    wpAny (model prog w) A (subscriptTail value slice (.str (strL l) t) (.ref s.heap.objs.size)) Q E { s with heap := s.heap.push { cls := .type "slice", data := .fields #[.int ((p : Int) + 1) ui, .int ((p : Int) + 4) uj, .none] } } := by
  refine slice_strN_ss hF hN (fun h' t' k a b => ?_) hs ht (by rw [strL_len]; exact hz)
  have e : Txt.slice (strL l) (some ((p : Int) + 1)) (some ((p : Int) + 4)) = strL ds := by
    have := strL_clip (l := l) (i := p + 1) (j := p + 4) (by omega)
    rw [show p + 4 - (p + 1) = 3 by omega, hd] at this
    rw [← this]
    rfl
  rw [e]
  exact h h' t' k a b
theorem in_strb {x y : Str} {c : Bool} (e : Txt.contains x y = c) (h : Q (.bool c) s) : wpAny (model prog w) A (compareOp .In (.str y u) (.str x t)) Q E s := by
  refine P.in_str ?_
  have e' : (!(Builtin.Str.occurrences x y 0 x.length 1).isEmpty) = c := e
  rw [e']; exact h
theorem lt_intb {x y : Int} {c : Bool} (e : decide (x < y) = c) (h : Q (.bool c) s) : wpAny (model prog w) A (compareOp .Lt (.int x t) (.int y u)) Q E s := lt_int (e ▸ h)
theorem len_strL (hz : l.length ≤ 1048576) (h : ∀ t tk, Q (.int ((l.length : Nat) : Int) t) { s with toks := tk }) : wpAny (model prog w) A (call (.builtin "len") [.str (strL l) t]) Q E s := by
  refine PyProof.Rows.len_str (by rw [strL_len]; omega) ?_
  rw [strL_len]
  exact h _ _
theorem three_int {n : Nat} (hn : n < 128) (h : ∀ t tk, Q (.int (n : Int) t) { s with toks := tk }) : wpAny (model prog w) A (call (.type "int") [.str (strL [48 + n / 100, 48 + n / 10 % 10, 48 + n % 10]) t]) Q E s :=
  KIN.call_text (three_text n hn) (by rw [strL_len]; show (3 : Nat) ≤ 640; decide) (h _ _)
theorem chrL {n : Nat} (hn : n < 128) (h : ∀ t tk, Q (.str (strL [n]) t) { s with toks := tk }) : wpAny (model prog w) A (call (.builtin "chr") [.int (n : Int) t]) Q E s := by
  refine P.chr_of_int ?_ ?_
  · simp; omega
  · have := h s.toks (s.toks + 1)
    simpa [strL] using this
theorem joinE {D : Addr} {vs : List Value} {n : Nat} {ls : List (List Nat)} (N : News h₀ L s.heap news) (hm : (D, listOf vs.toArray n) ∈ news) (hS : StrsAre vs (ls.map strL)) (hz : ls.flatten.length + ls.length ≤ 1048576) (h : ∀ t' k, Q (.str (strL ls.flatten) t') { s with toks := k }) :
    wpAny (model prog w) A (call (.builtin "str.join") [.str (Str.ofString "") t, .ref D]) Q E s := by
  refine join_listW (isList_of N hm) (by simpa using hS) (Nat.zero_le _) ?_ fun t' k => ?_
  · have : ((ls.map strL).map (·.length)).sum = ls.flatten.length := by
      rw [List.length_flatten, List.map_map]
      exact congrArg List.sum (List.map_congr_left fun a _ => strL_len a)
    rw [this, List.length_map]
    exact hz
  · rw [join_empty]
    exact h t' k
theorem all3 {D : Addr} (F : Fr h₀ L s.heap m) (N : News h₀ L s.heap news) (hh : A.handled = none) (hm : (D, lst [.bool true, .bool true, .bool true]) ∈ news)
    (h : ∀ h' tk, Fr h₀ L h' m → News h₀ L h' news → Q (.bool true) { s with heap := h', toks := tk }) : wpAny (model prog w) A (call (.builtin "all") [.ref D]) Q E s :=
  LSm.all_bools (vs := [.bool true, .bool true, .bool true]) (bs := [true, true, true]) F N hh (isList_of (n := 3) N hm) (.cons _ (.cons _ (.cons _ .nil))) h
end
end Mine

end
section
open PySem PySem.W PyProof.Rows PySem.Calls
set_option Elab.async false
set_option maxRecDepth 100000
set_option maxHeartbeats 8000000
namespace Mine
open PySem.Builtin PySem.Builtin._codecs
namespace BL
theorem enc_self (x y : Str) (u v : Tok) : Str.strSelf ⟨[.str x u, .str y v], []⟩ = pure (.str x u, x, [.str y v]) := rfl
theorem enc_bind (y : Str) (v : Tok) : Str.bindOptional "str.encode" "encode" 0 ["encoding", "errors"] [.str y v] [] = pure [some (.str y v), none] := by kernel_rfl
theorem enc_arg (v : Tok) : Str.codecArg "str.encode" "encode" "'encoding'" (some (.str (Str.ofString "ascii") v)) = pure (some (Str.ofString "ascii")) := by kernel_rfl
theorem enc_none : Str.codecArg "str.encode" "encode" "'errors'" none = pure none := rfl
theorem enc_road (x : Str) (u : Tok) : encodeRoad "str.encode" (.str x u) x (Str.ofString "ascii") none = (encodeNarrow "str.encode" asciiCodec none (.str x u) x >>= fun b => mkBytes b) := by kernel_rfl
theorem bytes_fold (l : List Nat) (hl : ∀ c ∈ l, c < 128) : ∀ acc : Array UInt8, l.toArray.foldl (fun acc y => acc ++ (asciiCodec.bytesOf y).toArray) acc = acc ++ (l.map Nat.toUInt8).toArray := by
  induction l with
  | nil => intro acc; simp
  | cons c l ih =>
    intro acc
    have := ih (fun d hd => hl d (.tail _ hd)) (acc ++ #[c.toUInt8])
    simp only [List.foldl_toArray, List.foldl_cons] at this ⊢
    show List.foldl _ (acc ++ [c.toUInt8].toArray) l = _
    rw [show ([c.toUInt8].toArray : Array UInt8) = #[c.toUInt8] from rfl, this]
    simp
theorem narrow (l : List Nat) (hl : ∀ c ∈ l, c < 128) (hne : l ≠ []) (hz : l.length ≤ sizeLine) (v : Value) : encodeNarrow "str.encode" asciiCodec none v (strL l) = pure ((l.map Nat.toUInt8).toArray) := by
  unfold encodeNarrow
  simp only [Std.Legacy.Range.forIn_eq_forIn_range']
  rw [strL_len]
  have hn : ([:l.length] : Std.Legacy.Range).size = l.length := by simp [Std.Legacy.Range.size]
  rw [hn]
  obtain ⟨c, r, rfl⟩ : ∃ c r, l = c :: r := by
    cases l with
    | nil => exact absurd rfl hne
    | cons c r => exact ⟨c, r, rfl⟩
  have hc0 : asciiCodec.bad c = false := by
    show decide (c ≥ 128) = false
    have := hl c (.head _)
    simp; omega
  have hfind : ((strL (c :: r)).cps.extract 0 (strL (c :: r)).cps.size).findIdx? asciiCodec.bad = none := by
    rw [Array.extract_size]
    rw [Array.findIdx?_eq_none_iff]
    intro x hx
    show decide (x ≥ 128) = false
    have := hl x (by simpa [strL] using hx)
    simp; omega
  have h0 : (strL (c :: r)).cps[0]? = some c := rfl
  have hs0 : ¬ ((#[] : Array UInt8).size > sizeLine) := by simp
  have hx : (strL (c :: r)).cps.extract 0 (strL (c :: r)).cps.size = (strL (c :: r)).cps := by simp
  rw [hx] at hfind
  have hn1 : (strL (c :: r)).cps.size = (c :: r).length := by simp [strL]
  have hout : Array.foldl (fun acc y => acc ++ (asciiCodec.bytesOf y).toArray) #[] (strL (c :: r)).cps = ((c :: r).map Nat.toUInt8).toArray := by
    have := bytes_fold (c :: r) hl #[]
    simp only [List.foldl_toArray] at this
    simpa [strL] using this
  have hout2 : Array.foldl (fun acc y => acc ++ (asciiCodec.bytesOf y).toArray) #[] (strL (c :: r)).cps 0 (c :: r).length = ((c :: r).map Nat.toUInt8).toArray := by rw [← hn1]; exact hout
  have hx2 : (strL (c :: r)).cps.extract 0 (c :: r).length = (strL (c :: r)).cps := by rw [← hn1]; exact hx
  have hlast : (strL (c :: r)).cps[(c :: r).length]? = none := by simp [strL]
  have hbz : ¬ ((((c :: r).map Nat.toUInt8).toArray).size > sizeLine) := by simp only [List.size_toArray, List.length_map]; omega
  rw [show (c :: r).length = r.length + 1 from rfl, List.range'_succ, List.forIn_cons]
  simp only [hs0, if_false, h0, hc0, Bool.not_false, if_true, pure_bind, Nat.zero_add, hn1, hx2, hfind, Option.getD_none, hout2]
  cases r with
  | nil => rfl
  | cons d r =>
    rw [show (d :: r).length = r.length + 1 from rfl, List.range'_succ, List.forIn_cons]
    simp only [hbz, if_false, hlast, pure_bind]
theorem enc_c {prog : Program} {w : World} {A : Around} {E : Value → Shared → Prop} {s : Shared} {l : List Nat} {u v : Tok} {Q : Value → Shared → Prop} (hl : ∀ c ∈ l, c < 128) (hne : l ≠ []) (hz : l.length ≤ sizeLine) (h : ∀ t tk, Q (.bytes (l.map Nat.toUInt8).toArray t) { s with toks := tk }) :
    wpAny (model prog w) A (call (.builtin "str.encode") [.str (strL l) u, .str (Str.ofString "ascii") v]) Q E s := by
  refine call_meets F.slot_str_encode (typeIs_str _ _ _) F.entry_str_encode (F.args_str_encode_2 _ _) (S := fun _ R s => ∀ t tk, R (.ok (.ret (.bytes (l.map Nat.toUInt8).toArray t))) { s with toks := tk }) (.of_wp fun prog w A R s hS => ?_) h
  unfold «str.encode»
  refine wpAny_bind (wpAny_of_eq (enc_self _ _ _ _) ?_)
  refine wpAny_bind (wpAny_of_eq (enc_bind _ _) ?_)
  refine wpAny_bind (wpAny_of_eq (enc_arg _) ?_)
  refine wpAny_bind (wpAny_of_eq enc_none ?_)
  show wpAny _ _ (encodeRoad "str.encode" (.str (strL l) u) (strL l) (Str.ofString "ascii") none >>= _) _ _ _
  rw [enc_road, narrow l hl hne hz]
  refine wpAny_bind (wpAny_bind (wpAny_pure (wp_mkBytes (by simpa using hz) (wpAny_pure ⟨_, rfl, hS _ _⟩))))
theorem enc_m {M : Model} {A : Around} {E : Value → Shared → Prop} {s : Shared} {x : Str} {u : Tok} {pl : Sem Bool} {Q : Value × List Value → Shared → Prop} (h : Q (.builtin "str.encode", [.str x u]) s) : wpAny M A (getMethod (.str x u) "encode" pl) Q E s :=
  getMethod_builtin (typeIs_str _ _ _) F.plainAttrs_str F.slot_str_encode F.type_str_encode (fun _ e => nomatch e) h
end BL
end Mine

end
section
open PySem PySem.W PyProof.Rows PySem.Calls
set_option Elab.async false
set_option maxRecDepth 100000
set_option maxHeartbeats 8000000
namespace Mine
open PySem.Builtin
namespace BL
section
variable {prog : Program} {w : World} {A : Around} {E : Value → Shared → Prop} {s : Shared} {h₀ : Heap} {L : Addr} {m : Str → Option Value} {news : List (Addr × Obj)} {b c : Array UInt8} {t u : Tok} {Q : Value → Shared → Prop}
theorem split_led (F : Fr h₀ L s.heap m) (N : News h₀ L s.heap news) (hz : ∀ p ∈ pieces b, p.size ≤ sizeLine) (hn : (pieces b).length ≤ sizeLine)
    (h : ∀ D h' tk vs, Fr h₀ L h' m → News h₀ L h' ((D, listOf vs.toArray 0) :: news) → (∀ p ∈ news, p.1 < D) → BytesAre vs (pieces b) → Q (.ref D) { s with heap := h', toks := tk }) :
    wpAny (model prog w) A (call (.builtin "bytes.split") [.bytes b t, .bytes #[46] u]) Q E s :=
  split_c hz hn fun vs k hv => h _ _ _ vs (F.push _) (News.push F N _) (fun p hp => Heap.lt_size (N p hp).1) hv
theorem slice_lst {value slice : Expr} {l : Addr} {vs zs : List Value} {n : Nat} {vl vu : Value} {lo hi : Option Int} (F : Fr h₀ L s.heap m) (N : News h₀ L s.heap news) (hm : (l, listOf vs.toArray n) ∈ news) (pl : IsPart vl lo) (pu : IsPart vu hi) (hz : vs.length ≤ sizeLine) (e : kms_pick vs lo hi = zs)
    (h : ∀ D h', Fr h₀ L h' m → News h₀ L h' ((D, listOf zs.toArray 0) :: news) → (∀ p ∈ news, p.1 < D) → Q (.ref D) { s with heap := h' })
    (hs : subscripted slice false (.ref l) (.ref s.heap.objs.size) = operate [.ref s.heap.objs.size, .ref l] (getItem (.ref l) (.ref s.heap.objs.size)) := by with_unfolding_all rfl)
    (ht : ∀ r, letTemporaryGo value (.ref l) r = pure () := by intro _; with_unfolding_all rfl) :
    wpAny (model prog w) A (subscriptTail value slice (.ref l) (.ref s.heap.objs.size)) Q E { s with heap := s.heap.push { cls := .type "slice", data := .fields #[vl, vu, .none] } } := by
  refine kmk_slice F N (isList_of N hm) pl pu (fun D h' F' N' l1 => h D h' F' ?_ l1) hs ht (by simpa using hz)
  rw [kms_pick_eq] at N'
  rw [← e]
  exact N'
end
end BL
end Mine

end
section
open PySem PySem.W PyProof.Rows PySem.Calls
set_option Elab.async false
set_option maxRecDepth 100000
set_option maxHeartbeats 8000000
namespace Mine
open PyProof.Rows.LCg
open PySem.SeqAt PySem.Builtin PySem.MeetsSeq
theorem sub_str_bytes : isSubtype (.type "str") (.type "bytes") = pure false := by rw [isSubtype_type]; kernel_rfl
theorem sub_bytes_str : isSubtype (.type "bytes") (.type "str") = pure false := by rw [isSubtype_type]; kernel_rfl
theorem bytes_eq_str (b : Array UInt8) (t : Tok) (a : Str) (u : Tok) : Gives (Builtin.«bytes.__eq__» ⟨[.bytes b t, .str a u], []⟩) (.val Value.notImplemented) :=
  .of_wp fun M A E s Q h => by obtain ⟨hp, g, d, tk, os⟩ := s; have f1 := sub_str_bytes; wp_walk; exact ⟨_, rfl, h⟩
theorem str_eq_bytes (a : Str) (u : Tok) (b : Array UInt8) (t : Tok) : Gives (Builtin.«str.__eq__» ⟨[.str a u, .bytes b t], []⟩) (.val Value.notImplemented) :=
  .of_wp fun M A E s Q h => by obtain ⟨hp, g, d, tk, os⟩ := s; have f1 := sub_bytes_str; wp_walk; exact ⟨_, rfl, h⟩
theorem slot_str_eq_refl : Slot "str" (cmpInfo .Eq).2.2 "str.__eq__" := F.slot_str_eq
theorem eqAt_mix {A : Around} {s : Shared} {b : Array UInt8} {t : Tok} {a : Str} {u : Tok} : EqAt A s (.bytes b t) (.str a u) false := fun prog w E Q h => by
  unfold eqBool
  refine wpAny_holding ?_
  refine wpAny_ite_split (fun hab => absurd (eq_of_beq hab) nofun) (fun _ => ?_)
  refine wpAny_bind (rc_eq_decline_or (k := false) (typeIs_bytes _ _ _) (typeIs_str s a u) (by decide) sub_str_bytes FB.slot_bytes_eq slot_str_eq_refl
    (fun _ hq => call_gives FB.slot_bytes_eq (typeIs_bytes _ _ _) FB.entry_bytes_eq (FB.args_bytes_eq_2 _ _) (bytes_eq_str b t a u) hq)
    (fun _ hq => call_gives F.slot_str_eq (typeIs_str s a u) F.entry_str_eq (F.args_str_eq_2 _ _) (str_eq_bytes a u b t) hq)
    (fun _ hq => wpAny_of_eq (rfl : isSame (.bytes b t) (.str a u) = pure false) hq) (.inl rfl) (wpAny_truthy_bool h))
section
variable {prog : Program} {w : World} {A : Around} {E : Value → Shared → Prop} {s : Shared} {h₀ : Heap} {L T : Addr} {news : List (Addr × Obj)} {b : Array UInt8} {x : Str} {l : List Nat} {t u v : Tok}
theorem in_dots {Q : Value → Shared → Prop} (N : News h₀ L s.heap news) (hm : (T, tup [.bytes b u, .str x v]) ∈ news) (e : (x == strL l) = false) (h : Q (.bool false) s) :
    wpAny (model prog w) A (compareOp .In (.str (strL l) t) (.ref T)) Q E s := by
  refine in_tupleAt (fun y => match y with | .str a _ => a == strL l | _ => false) ⟨_, (N _ hm).1, rfl, _, rfl⟩ (fun y hy => ?_) ?_
  · simp only [List.mem_toArray, List.mem_cons, List.not_mem_nil, or_false] at hy
    rcases hy with rfl | rfl
    · exact eqAt_mix
    · exact EqAt.str_str _ _ _ _
  · have : (#[Value.bytes b u, Value.str x v].any fun y => match y with | .str a _ => a == strL l | _ => false) = false := by
      simp [e]
    rw [this]; exact h
theorem truth_strL {Q : Bool → Shared → Prop} (hne : l ≠ []) (hz : l.length ≤ 1048576) (h : ∀ tk, Q true { s with toks := tk }) : wpAny (model prog w) A (truthy (.str (strL l) t)) Q E s := by
  refine P.truthy_str (by rw [strL_len]; omega) ?_
  have : (((strL l).length : Int) != 0) = true := by
    rw [strL_len]
    cases l with
    | nil => exact absurd rfl hne
    | cons _ _ => simp; omega
  rw [this]; exact h _
end
end Mine

end
section
open PySem PySem.W PyProof.Rows PySem.Calls
set_option Elab.async false
set_option maxRecDepth 100000
set_option maxHeartbeats 8000000
namespace Mine
theorem noI_tuple : typeLookup (.type "tuple") (dunderI "add") = pure none := by rw [typeLookup_type, builtinLookup_eq_fast]; kernel_rfl
theorem iadd_words {prog : Program} {w : World} {A : Around} {E : Value → Shared → Prop} {s : Shared} {h₀ : Heap} {L t b : Addr} {m : Str → Option Value} {news : List (Addr × Obj)} {vs vs2 : List Value} {ws ws2 : List (Array UInt8)} {Q : Value → Shared → Prop} (F : Fr h₀ L s.heap m) (N : News h₀ L s.heap news) (hm : (t, tup vs) ∈ news) (hm2 : (b, tup vs2) ∈ news) (hv : BytesAre vs ws) (hv2 : BytesAre vs2 ws2) (hn : ws ≠ []) (hn2 : ws2 ≠ []) (hz : ws.length ≤ 8) (hz2 : ws2.length ≤ 8)
    (h : ∀ D h', Fr h₀ L h' m → News h₀ L h' ((D, tup (vs ++ vs2)) :: news) → (∀ p ∈ news, p.1 < D) → Q (.ref D) { s with heap := h' }) : wpAny (model prog w) A (inplaceOp .Add (.ref t) (.ref b)) Q E s := by
  have l1 := hv.length
  have l2 := hv2.length
  have e1 : ¬ vs.toArray.isEmpty = true := by
    cases vs with
    | nil => exact absurd (List.length_eq_zero_iff.mp l1.symm) hn
    | cons _ _ => simp
  have e2 : ¬ vs2.toArray.isEmpty = true := by
    cases vs2 with
    | nil => exact absurd (List.length_eq_zero_iff.mp l2.symm) hn2
    | cons _ _ => simp
  refine wpAny_inplaceOp_concat (newS N hm).typeIs (newS N hm2).typeIs noI_tuple noFill_tuple_add seq_tuple_add
    (call_meets PySem.F.slot_tuple_add (newS N hm).typeIs PySem.F.entry_tuple_add (PySem.F.args_tuple_add_2 _ _) (AutoSeq1.tuple___add___tuple_tuple_2 t vs.toArray 0 b vs2.toArray 0 e1 e2 (by simp only [List.size_toArray, sizeLine_eq]; omega)) ⟨(N _ hm).1, (N _ hm2).1, ?_⟩)
  have F' : Fr h₀ L (s.heap.push (tup (vs ++ vs2))) m := F.push _
  have N' := News.push F N (tup (vs ++ vs2))
  have := h _ _ F' N' fun p hp => Heap.lt_size (N p hp).1
  simpa using this
end Mine

end
section
open PySem PySem.W PyProof.Rows PySem.Calls
set_option Elab.async false
set_option maxRecDepth 100000
set_option maxHeartbeats 8000000
namespace Mine
example : True := by w_top off; trivial
set_option maxHeartbeats 1000000
open PyProof.Rows.LCg
local macro_rules | `(tactic| k_mem) => `(tactic| first | (with_reducible assumption) | (with_reducible exact List.mem_cons_self) | (with_reducible refine List.mem_cons_of_mem _ ?_; k_mem) | fail "no")
local macro_rules | `(tactic| k_all) => `(tactic| first | exact ne_lt4 (by assumption) | exact ne_lt4 (And.right (by assumption)) | exact ne_lt4 (And.right (And.right (by assumption))) | exact ne_lt1 (by assumption) | exact ne_lt2 (by assumption) | exact ne_lt3 (by assumption) | exact ne_lt3 (And.right (by assumption)) | exact ne_lt3 (And.right (And.right (by assumption))) | exact ne_lt3 (And.right (And.right (And.right (by assumption)))) | fail "no")
local macro_rules | `(tactic| k_all) => `(tactic| first | exact ne_lt5 (by assumption) (by assumption) | exact ne_lt6 (by assumption) (by assumption) | exact ne_lt5 (by assumption) (And.right (by assumption)) | exact ne_lt5 (by assumption) (And.right (And.right (And.right (by assumption)))) | fail "no")
local macro_rules | `(tactic| walk_at "call type:tuple") => `(tactic| (k_here; (with_reducible show wpAny _ _ (call (Value.type "tuple") [Value.ref _]) _ _ _); k_dflt (refine' tupOf ?F ?N ?m ?z ?_; (case F => k_asm); (case N => k_asm); (case m => k_mem); (case z => assumption)); intro D' h' F' N' l1; (try k_lt l1)))
local macro_rules | `(tactic| walk_at "call type:tuple") => `(tactic| (k_here; (with_reducible show wpAny _ _ (call (Value.type "tuple") [Value.ref _]) _ _ _); k_dflt (refine' call_tuple_tup (newS ?N ?m) ?_; (case N => k_asm); (case m => k_mem))))
theorem new_list (w : World) (l : Addr) (vs : List Value) (n : Nat) (ws : List (Array UInt8)) (hv : BytesAre vs ws) (hz : ws.length ≤ 8) : Ctr w 970 9600 (.ref 112) [.ref l] [(l, listOf vs.toArray n)] (NameR w ws) := by
  intro mean mg mb gd cn cs a ccd cl outer A₀ base h₀ L m news s Q E hk B F X N T need hret
  obtain ⟨kd, nm, ig, ic, mo⟩ := cs
  obtain rfl : kd = .function := hk
  have hl : (l, listOf vs.toArray n) ∈ news := need _ (List.mem_singleton.mpr rfl)
  have hlen : vs.length ≤ 16384 := by rw [hv.length]; omega
  k_steps
  refine' name_back hret ?F ?N ?a ?b ?c hv
  case F => k_asm
  case N => k_asm
  all_goals k_all
theorem new_tup (w : World) (l : Addr) (vs : List Value) : Ctr w 970 9600 (.ref 112) [.ref l] [(l, tup vs)] (NameS w l) := by
  intro mean mg mb gd cn cs a ccd cl outer A₀ base h₀ L m news s Q E hk B F X N T need hret
  obtain ⟨kd, nm, ig, ic, mo⟩ := cs
  obtain rfl : kd = .function := hk
  have hl : (l, tup vs) ∈ news := need _ (List.mem_singleton.mpr rfl)
  k_steps
  refine' name_backS hret ?F ?N ?b ?c (w := w)
  case F => k_asm
  case N => k_asm
  all_goals k_all
theorem new_inst (w : World) (l d t : Addr) (k : Tok) (vs : List Value) : Ctr w 970 9600 (.ref 112) [.ref l] [(l, instObj 112 d), (d, labD w k t), (t, tup vs)] (NameS w t) := by
  intro mean mg mb gd cn cs a ccd cl outer A₀ base h₀ L m news s Q E hk B F X N T need hret
  obtain ⟨kd, nm, ig, ic, mo⟩ := cs
  obtain rfl : kd = .function := hk
  replace N : News h₀ L s.heap ((l, instObj 112 d) :: (d, labD w k t) :: (t, tup vs) :: news) := News.of_sub N (by intro p hp; rcases List.mem_append (s := [_, _, _]).mp hp with h | h; exact need p h; exact h)
  k_steps
  refine' name_backS0 hret ?F ?N ?b ?c
  case F => k_asm
  case N => k_asm
  all_goals k_all
end Mine

end
section
open PySem PySem.W PyProof.Rows PySem.Calls
set_option Elab.async false
set_option maxRecDepth 100000
set_option maxHeartbeats 8000000
namespace Mine
example : True := by w_top off; trivial
local macro_rules | `(tactic| walk_at "no such goal") => `(tactic| fail "no")
local macro_rules | `(tactic| walk_at "no such goal") => `(tactic| fail "no")
local macro_rules | `(tactic| walk_at "no such goal") => `(tactic| fail "no")
set_option maxHeartbeats 1000000
open PyProof.Rows.LCg
local macro_rules | `(tactic| k_mem) => `(tactic| first | (with_reducible assumption) | (with_reducible exact List.mem_cons_self) | (with_reducible refine List.mem_cons_of_mem _ ?_; k_mem) | fail "no")
local macro_rules | `(tactic| k_all) => `(tactic| first | exact ne_lt4 (by assumption) | exact ne_lt4 (And.right (by assumption)) | exact ne_lt4 (And.right (And.right (by assumption))) | exact ne_lt1 (by assumption) | exact ne_lt2 (by assumption) | exact ne_lt3 (by assumption) | exact ne_lt3 (And.right (by assumption)) | exact ne_lt3 (And.right (And.right (by assumption))) | exact ne_lt3 (And.right (And.right (And.right (by assumption)))) | fail "no")
local macro_rules | `(tactic| walk_at "eval ListComp") => `(tactic| (k_here; k_dflt (refine ListComp_G (F₀ := by k_asm) (by rfl) (by decide) (by rfl) (by decide) (by rfl) ?_)))
local macro_rules | `(tactic| walk_at "compareOp Eq ref ref") => `(tactic| (k_here; k_dflt (refine' eq_lsts ?N ?a ?b ?x ?y ?u ?_; (case N => k_asm); (case a => k_mem); (case b => k_mem); (case x => assumption); (case y => assumption); (case u => exact Nat.le_of_ble_eq_true rfl))))
local macro_rules | `(tactic| walk_at "getMethod bytes") => `(tactic| (k_here; (with_reducible show wpAny _ _ (getMethod (Value.bytes _ _) (Str.ofString "lower") _) _ _ _); k_dflt (refine BL.lower_m ?_)))
local macro_rules | `(tactic| walk_at "call builtin:bytes.lower") => `(tactic| (k_here; k_dflt (refine BL.lower_c (by assumption) ?_)))
theorem low_nat (c : UInt8) : ((Builtin.Bytes.toLower c).toNat : Int) = lowC (c.toNat : Int) := by
  have h : ∀ n : Fin 256, ((Builtin.Bytes.toLower (UInt8.ofNat n)).toNat : Int) = lowC ((UInt8.ofNat n).toNat : Int) := by decide +kernel
  have := h ⟨c.toNat, c.toNat_lt⟩
  simpa using this
theorem lowL_eq (b : Array UInt8) : lowL b = KBw.bInts (BL.lowB b) := by
  unfold lowL KBw.bInts BL.lowB
  simp only [List.map_map]
  apply List.map_congr_left
  intro c _
  simp only [Function.comp]
  exact (low_nat c).symm
theorem ints_inj {a b : Array UInt8} : KBw.bInts a = KBw.bInts b ↔ a = b := by
  constructor
  · intro h
    apply Array.toList_inj.mp
    unfold KBw.bInts at h
    exact (List.map_inj_right (f := fun c : UInt8 => (c.toNat : Int)) (fun x y e => by
      have : x.toNat = y.toNat := by exact_mod_cast e
      exact UInt8.toNat_inj.mp this)).mp h
  · rintro rfl; rfl
theorem lowB_map {ws ws2 : List (Array UInt8)} : ws.map BL.lowB = ws2.map BL.lowB ↔ ws.map lowL = ws2.map lowL := by
  have e : ∀ l : List (Array UInt8), l.map lowL = (l.map BL.lowB).map KBw.bInts := fun l => by
    rw [List.map_map]; exact List.map_congr_left fun b _ => lowL_eq b
  rw [e, e]
  constructor
  · intro h; rw [h]
  · intro h; exact (List.map_inj_right (f := KBw.bInts) (fun x y e => ints_inj.mp e)).mp h
theorem bytesAre_of : ∀ {vs : List Value} {bs : List (Array UInt8)}, vs.length = bs.length → (∀ (i : Nat) (v : Value), vs[i]? = some v → ∃ b, bs[i]? = some b ∧ ∃ t, v = Value.bytes b t) → BytesAre vs bs
  | [], [], _, _ => trivial
  | [], _ :: _, h, _ => nomatch h
  | _ :: _, [], h, _ => nomatch h
  | v :: vs, b :: bs, h, g => by
    obtain ⟨b', e, t, rfl⟩ := g 0 v rfl
    cases e
    exact ⟨⟨t, rfl⟩, bytesAre_of (Nat.succ.inj h) fun i u hu => g (i + 1) u hu⟩
theorem eq_ctr (w : World) (x d t x2 d2 t2 : Addr) (k k2 : Tok) (vs vs2 : List Value) (ws ws2 : List (Array UInt8)) (hv : BytesAre vs ws) (hv2 : BytesAre vs2 ws2) (hw : ∀ b ∈ ws, b.size ≤ sizeLine) (hw2 : ∀ b ∈ ws2, b.size ≤ sizeLine) (hz : ws.length ≤ 8) (hz2 : ws2.length ≤ 8) :
    Ctr w 980 9700 (.ref 102) [.ref x, .ref x2] [(x, instObj 112 d), (d, labD w k t), (t, tup vs), (x2, instObj 112 d2), (d2, labD w k2 t2), (t2, tup vs2)] (fun r nl => nl = [] ∧ r = .bool (decide (ws.map lowL = ws2.map lowL))) := by
  intro mean mg mb gd cn cs a ccd cl outer A₀ base h₀ L m news s Q E hk B F X N T need hret
  obtain ⟨kd, nm, ig, ic, mo⟩ := cs
  obtain rfl : kd = .function := hk
  refine wpAny_call ?_
  k_dflt k_enter
  rename_i gN LN hN FGN FN NN BN XN TN
  replace NN : News _ _ _ ((x, instObj 112 d) :: (d, labD w k t) :: (t, tup vs) :: (x2, instObj 112 d2) :: (d2, labD w k2 t2) :: (t2, tup vs2) :: news) := News.of_sub NN (by intro p hp; rcases List.mem_append (s := [_, _, _, _, _, _]).mp hp with h | h; exact need p h; exact h)
  have hlen : vs.length = ws.length := hv.length
  have hlen2 : vs2.length = ws2.length := hv2.length
  k_steps
  refine srcG_tup rfl (by k_asm) (by k_asm) (o := tup vs) (by k_mem) rfl ⟨_, rfl⟩ (by rw [List.size_toArray, hlen]; exact Nat.le_trans hz (by decide)) ?_
  intro g tk
  refine rest_quiet (fun i v => ∃ b, (ws.map BL.lowB)[i]? = some b ∧ ∃ t, v = .bytes b t) (.inr ⟨_, by k_mem, rfl, _, rfl⟩) ?_ ?_
  · rintro i v I oI C oC D ys m₂ h tk E' hi hP hC hx F9 N9 off9 ne9
    obtain ⟨b, hb, tb, rfl⟩ := hv.get (by simpa using hP)
    have hbz : b.size ≤ sizeLine := hw b (List.mem_of_getElem? hb)
    k_steps
    refine end_quiet (by k_asm) (by k_asm) (by k_asm) (.inr ⟨_, by k_mem, rfl, _, rfl⟩) ⟨BL.lowB b, ?_, _, rfl⟩
    rw [List.getElem?_map, hb]; rfl
  · intro ys hl hg
    have hys : BytesAre ys (ws.map BL.lowB) := bytesAre_of (by simpa [hlen] using hl) hg
    k_steps
    refine srcG_tup rfl (by k_asm) (by k_asm) (o := tup vs2) (by k_mem) rfl ⟨_, rfl⟩ (by rw [List.size_toArray, hlen2]; exact Nat.le_trans hz2 (by decide)) ?_
    intro g2 tk2
    refine rest_quiet (fun i v => ∃ b, (ws2.map BL.lowB)[i]? = some b ∧ ∃ t, v = .bytes b t) (.inr ⟨_, by k_mem, rfl, _, rfl⟩) ?_ ?_
    · rintro i v I oI C oC D ys2 m₂ h tk E' hi hP hC hx F9 N9 off9 ne9
      obtain ⟨b, hb, tb, rfl⟩ := hv2.get (by simpa using hP)
      have hbz : b.size ≤ sizeLine := hw2 b (List.mem_of_getElem? hb)
      k_steps
      refine end_quiet (by k_asm) (by k_asm) (by k_asm) (.inr ⟨_, by k_mem, rfl, _, rfl⟩) ⟨BL.lowB b, ?_, _, rfl⟩
      rw [List.getElem?_map, hb]; rfl
    · intro ys2 hl2 hg2
      have hys2 : BytesAre ys2 (ws2.map BL.lowB) := bytesAre_of (by simpa [hlen2] using hl2) hg2
      k_steps
      refine' hret _ [] _ _ ?hF ?hN nl_nil ⟨rfl, ?_⟩
      case hF => k_asm
      case hN => exact News.of_sub (by assumption) (by ((repeat (refine sub_cons (by k_mem) ?_)); (repeat (first | exact sub_here | refine sub_skip ?_))))
      rw [decide_eq_decide.mpr lowB_map]
end Mine

end
section
open PySem PySem.W PyProof.Rows PySem.Calls
set_option Elab.async false
set_option maxRecDepth 100000
set_option maxHeartbeats 8000000
namespace Mine
example : True := by w_top off; trivial
local macro_rules | `(tactic| walk_at "no such goal") => `(tactic| fail "no")
local macro_rules | `(tactic| walk_at "no such goal") => `(tactic| fail "no")
local macro_rules | `(tactic| walk_at "no such goal") => `(tactic| fail "no")
local macro_rules | `(tactic| walk_at "no such goal") => `(tactic| fail "no")
local macro_rules | `(tactic| walk_at "no such goal") => `(tactic| fail "no")
local macro_rules | `(tactic| walk_at "no such goal") => `(tactic| fail "no")
local macro_rules | `(tactic| walk_at "no such goal") => `(tactic| fail "no")
local macro_rules | `(tactic| walk_at "no such goal") => `(tactic| fail "no")
set_option maxHeartbeats 1000000
open PyProof.Rows.LCg
local macro_rules | `(tactic| k_mem) => `(tactic| first | (with_reducible assumption) | (with_reducible exact List.mem_cons_self) | (with_reducible refine List.mem_cons_of_mem _ ?_; k_mem) | fail "no")
local macro_rules | `(tactic| k_all) => `(tactic| first | exact ne_lt4 (by assumption) | exact ne_lt4 (And.right (by assumption)) | exact ne_lt4 (And.right (And.right (by assumption))) | exact ne_lt1 (by assumption) | exact ne_lt2 (by assumption) | exact ne_lt3 (by assumption) | exact ne_lt3 (And.right (by assumption)) | exact ne_lt3 (And.right (And.right (by assumption))) | exact ne_lt3 (And.right (And.right (And.right (by assumption)))) | fail "no")
theorem need_in {l news : List (Addr × Obj)} {h₀ h : Heap} {L : Addr} (N : PyProof.Rows.News h₀ L h news) (hn : ∀ p ∈ l, p ∈ news) : PyProof.Rows.News h₀ L h (l ++ news) := News.of_sub N (by intro p hp; rcases List.mem_append.mp hp with h | h; exact hn p h; exact h)
theorem sub_all {l B : List (Addr × Obj)} (h : ∀ p ∈ l, p ∈ B) : ∀ p ∈ l, p ∈ B := h
theorem nil_sub {B : List (Addr × Obj)} : ∀ p ∈ ([] : List (Addr × Obj)), p ∈ B := fun _ h => nomatch h
local macro_rules | `(tactic| walk_at "call ref") => `(tactic| (k_here; (with_reducible show wpAny _ _ (call (Value.ref 102) [Value.ref _, Value.ref _]) _ _ _); k_dflt (refine' (eq_ctr _ _ _ _ _ _ _ _ _ _ _ _ _ ?ha ?hb ?hc ?hd ?he ?hf).useV ?k1 ?k2 ?k3 ?k4 ?k5 ?kK ?kn ?kd ?ku ?_; (case k1 => k_asm); (case k2 => k_asm); (case k3 => k_asm); (case k4 => k_asm); (case k5 => k_asm); (case kK => exact rfl); (case kd => exact Nat.le_of_ble_eq_true rfl); (case ku => exact Nat.le_of_ble_eq_true rfl); (case kn => exact sub_cons (by k_mem) (sub_cons (by k_mem) (sub_cons (by k_mem) (sub_cons (by k_mem) (sub_cons (by k_mem) (sub_cons (by k_mem) nil_sub)))))); (case ha => assumption); (case hb => assumption); (case hc => assumption); (case hd => assumption); (case he => assumption); (case hf => assumption)); intro r9 h9 tk9 F9 N9 e9; subst e9; (try unfold PySem.W.CmpBack); (try dsimp only []); (try k_fold)))
theorem ne_ctr (w : World) (x d t x2 d2 t2 : Addr) (k k2 : Tok) (vs vs2 : List Value) (ws ws2 : List (Array UInt8)) (hv : BytesAre vs ws) (hv2 : BytesAre vs2 ws2) (hw : ∀ b ∈ ws, b.size ≤ sizeLine) (hw2 : ∀ b ∈ ws2, b.size ≤ sizeLine) (hz : ws.length ≤ 8) (hz2 : ws2.length ≤ 8) :
    Ctr w 970 9600 (.ref 97) [.ref x, .ref x2] [(x, instObj 112 d), (d, labD w k t), (t, tup vs), (x2, instObj 112 d2), (d2, labD w k2 t2), (t2, tup vs2)] (fun r nl => nl = [] ∧ r = .bool (!decide (ws.map lowL = ws2.map lowL))) := by
  intro mean mg mb gd cn cs a ccd cl outer A₀ base h₀ L m news s Q E hk B F X N T need hret
  obtain ⟨kd, nm, ig, ic, mo⟩ := cs
  obtain rfl : kd = .function := hk
  refine wpAny_call ?_
  k_dflt k_enter
  rename_i gN LN hN FGN FN NN BN XN TN
  replace NN := need_in NN need
  simp only [List.cons_append, List.nil_append] at NN
  k_steps
  refine' hret _ [] _ _ ?hF ?hN nl_nil ⟨rfl, rfl⟩
  case hF => k_asm
  case hN => exact News.of_sub (by assumption) (by ((repeat (refine sub_cons (by k_mem) ?_)); (repeat (first | exact sub_here | refine sub_skip ?_))))

local macro_rules | `(tactic| walk_at "call ref") => `(tactic| (k_here; (with_reducible show wpAny _ _ (call (Value.ref 112) [Value.ref _]) _ _ _); k_dflt (refine' (new_tup _ _ _).useS ?k1 ?k2 ?k3 ?k4 ?k5 ?kK ?kn ?kd ?ku ?_; (case k1 => k_asm); (case k2 => k_asm); (case k3 => k_asm); (case k4 => k_asm); (case k5 => k_asm); (case kK => exact rfl); (case kd => exact Nat.le_of_ble_eq_true rfl); (case ku => exact Nat.le_of_ble_eq_true rfl); (case kn => exact sub_cons (by k_mem) nil_sub)); intro x9 d9 k9 h9 tk9 F9 N9 off9; (try dsimp only); (try k_fold)))
local macro_rules | `(tactic| walk_at "call ref") => `(tactic| (k_here; (with_reducible show wpAny _ _ (call (Value.ref 112) [Value.ref _]) _ _ _); k_dflt (refine' (new_inst _ _ _ _ _ _).useS ?k1 ?k2 ?k3 ?k4 ?k5 ?kK ?kn ?kd ?ku ?_; (case k1 => k_asm); (case k2 => k_asm); (case k3 => k_asm); (case k4 => k_asm); (case k5 => k_asm); (case kK => exact rfl); (case kd => exact Nat.le_of_ble_eq_true rfl); (case ku => exact Nat.le_of_ble_eq_true rfl); (case kn => exact sub_cons (by k_mem) (sub_cons (by k_mem) (sub_cons (by k_mem) nil_sub)))); intro x9 d9 k9 h9 tk9 F9 N9 off9; (try dsimp only); (try k_fold)))
local macro_rules | `(tactic| walk_at "call builtin:len") => `(tactic| (k_here; (with_reducible show wpAny _ _ (call (Value.builtin "len") [Value.ref _]) _ _ _); k_dflt (refine len_tuple (newS (by k_asm) (by k_mem)) (by assumption) ?_)))
local macro_rules | `(tactic| walk_at "subscriptTail") => `(tactic| (k_here; (with_reducible show wpAny _ _ (subscriptTail _ (Expr.Slice (some _) _ _ _) (Value.ref _) (Value.ref _)) _ _ _); (with_reducible rename Fr _ _ _ _ => F'); (with_reducible rename News _ _ _ _ => N'); k_dflt (refine' slice_last (s := ⟨_, _, _, _, _⟩) F' N' ?m ?a ?b ?c ?d ?_; (case m => k_mem); (case c => assumption); (case d => assumption); (case a => assumption); (case b => assumption)); intro t9 h9 F9 N9; (try dsimp only)))
theorem ms_ctr (w : World) (x d t x2 d2 t2 : Addr) (k k2 : Tok) (vs vs2 : List Value) (ws ws2 : List (Array UInt8)) (hv : BytesAre vs ws) (hv2 : BytesAre vs2 ws2) (hw : ∀ b ∈ ws, b.size ≤ sizeLine) (hw2 : ∀ b ∈ ws2, b.size ≤ sizeLine) (hz : ws.length ≤ 8) (hz2 : ws2.length ≤ ws.length) (h0 : 0 < ws2.length) :
    Ctr w 960 9500 (.ref 61) [.ref x, .ref x2] [(x, instObj 112 d), (d, labD w k t), (t, tup vs), (x2, instObj 112 d2), (d2, labD w k2 t2), (t2, tup vs2)] (fun r nl => nl = [] ∧ r = .bool (decide ((ws.drop (ws.length - ws2.length)).map lowL = ws2.map lowL))) := by
  intro mean mg mb gd cn cs a ccd cl outer A₀ base h₀ L m news s Q E hk B F X N T need hret
  obtain ⟨kd, nm, ig, ic, mo⟩ := cs
  obtain rfl : kd = .function := hk
  refine wpAny_call ?_
  k_dflt k_enter
  rename_i gN LN hN FGN FN NN BN XN TN
  replace NN := need_in NN need
  simp only [List.cons_append, List.nil_append] at NN
  have hlen : vs.length = ws.length := hv.length
  have hlen2 : vs2.length = ws2.length := hv2.length
  have hfit : (vs2.toArray.size : Int) < 2 ^ 63 := by simp only [List.size_toArray]; omega
  have hz2' : ws2.length ≤ 8 := by omega
  have ek : -(vs2.toArray.size : Int) = -(ws2.length : Int) := by rw [List.size_toArray, hlen2]
  have hzs : vs.length ≤ sizeLine := by rw [hlen]; exact Nat.le_trans hz (by decide)
  have hj : ws2.length ≤ vs.length := by omega
  have hvd : BytesAre (vs.drop (vs.length - ws2.length)) (ws.drop (ws.length - ws2.length)) := by rw [hlen]; exact hv.drop _
  have hwd : ∀ b ∈ ws.drop (ws.length - ws2.length), b.size ≤ sizeLine := fun b hb => hw b (List.mem_of_mem_drop hb)
  have hzd : (ws.drop (ws.length - ws2.length)).length ≤ 8 := by rw [List.length_drop]; omega
  k_steps
  refine' hret _ [] _ _ ?hF ?hN nl_nil ⟨rfl, rfl⟩
  case hF => k_asm
  case hN => exact News.of_sub (by assumption) (by ((repeat (refine sub_cons (by k_mem) ?_)); (repeat (first | exact sub_here | refine sub_skip ?_))))
end Mine

end
section
open PySem PySem.W PyProof.Rows PySem.Calls
set_option Elab.async false
set_option maxRecDepth 100000
set_option maxHeartbeats 8000000
namespace Mine
example : True := by w_top off; trivial
set_option maxHeartbeats 1000000
open PyProof.Rows.LCg
local macro_rules | `(tactic| k_mem) => `(tactic| first | (with_reducible assumption) | (with_reducible exact List.mem_cons_self) | (with_reducible refine List.mem_cons_of_mem _ ?_; k_mem) | fail "no")
local macro_rules | `(tactic| k_all) => `(tactic| first | exact ne_lt4 (by assumption) | exact ne_lt4 (And.right (by assumption)) | exact ne_lt4 (And.right (And.right (by assumption))) | exact ne_lt1 (by assumption) | exact ne_lt2 (by assumption) | exact ne_lt3 (by assumption) | exact ne_lt3 (And.right (by assumption)) | exact ne_lt3 (And.right (And.right (by assumption))) | exact ne_lt3 (And.right (And.right (And.right (by assumption)))) | fail "no")
local macro_rules | `(tactic| walk_at "call ref") => `(tactic| (k_here; (with_reducible show wpAny _ _ (call (Value.ref 102) [Value.ref _, Value.ref _]) _ _ _); k_dflt (refine' (eq_ctr _ _ _ _ _ _ _ _ _ _ _ _ _ ?ha ?hb ?hc ?hd ?he ?hf).useV ?k1 ?k2 ?k3 ?k4 ?k5 ?kK ?kn ?kd ?ku ?_; (case k1 => k_asm); (case k2 => k_asm); (case k3 => k_asm); (case k4 => k_asm); (case k5 => k_asm); (case kK => exact rfl); (case kd => exact Nat.le_of_ble_eq_true rfl); (case ku => exact Nat.le_of_ble_eq_true rfl); (case kn => exact sub_cons (by k_mem) (sub_cons (by k_mem) (sub_cons (by k_mem) (sub_cons (by k_mem) (sub_cons (by k_mem) (sub_cons (by k_mem) nil_sub)))))); (case ha => assumption); (case hb => assumption); (case hc => assumption); (case hd => assumption); (case he => assumption); (case hf => assumption)); intro r9 h9 tk9 F9 N9 e9; subst e9; (try unfold PySem.W.CmpBack); (try dsimp only []); (try k_fold)))
local macro_rules | `(tactic| walk_at "call ref") => `(tactic| (k_here; (with_reducible show wpAny _ _ (call (Value.ref 112) [Value.ref _]) _ _ _); k_dflt (refine' (new_tup _ _ _).useS ?k1 ?k2 ?k3 ?k4 ?k5 ?kK ?kn ?kd ?ku ?_; (case k1 => k_asm); (case k2 => k_asm); (case k3 => k_asm); (case k4 => k_asm); (case k5 => k_asm); (case kK => exact rfl); (case kd => exact Nat.le_of_ble_eq_true rfl); (case ku => exact Nat.le_of_ble_eq_true rfl); (case kn => exact sub_cons (by k_mem) nil_sub)); intro x9 d9 k9 h9 tk9 F9 N9 off9; (try dsimp only); (try k_fold)))
local macro_rules | `(tactic| walk_at "call ref") => `(tactic| (k_here; (with_reducible show wpAny _ _ (call (Value.ref 112) [Value.ref _]) _ _ _); k_dflt (refine' (new_inst _ _ _ _ _ _).useS ?k1 ?k2 ?k3 ?k4 ?k5 ?kK ?kn ?kd ?ku ?_; (case k1 => k_asm); (case k2 => k_asm); (case k3 => k_asm); (case k4 => k_asm); (case k5 => k_asm); (case kK => exact rfl); (case kd => exact Nat.le_of_ble_eq_true rfl); (case ku => exact Nat.le_of_ble_eq_true rfl); (case kn => exact sub_cons (by k_mem) (sub_cons (by k_mem) (sub_cons (by k_mem) nil_sub)))); intro x9 d9 k9 h9 tk9 F9 N9 off9; (try dsimp only); (try k_fold)))
local macro_rules | `(tactic| walk_at "call builtin:len") => `(tactic| (k_here; (with_reducible show wpAny _ _ (call (Value.builtin "len") [Value.ref _]) _ _ _); k_dflt (refine len_tuple (newS (by k_asm) (by k_mem)) (by assumption) ?_)))
local macro_rules | `(tactic| walk_at "subscriptTail") => `(tactic| (k_here; (with_reducible show wpAny _ _ (subscriptTail _ (Expr.Slice (some _) _ _ _) (Value.ref _) (Value.ref _)) _ _ _); (with_reducible rename Fr _ _ _ _ => F'); (with_reducible rename News _ _ _ _ => N'); k_dflt (refine' slice_last (s := ⟨_, _, _, _, _⟩) F' N' ?m ?a ?b ?c ?d ?_; (case m => k_mem); (case c => assumption); (case d => assumption); (case a => assumption); (case b => assumption)); intro t9 h9 F9 N9; (try dsimp only)))
local macro_rules | `(tactic| walk_at "subscriptTail") => `(tactic| (k_here; (with_reducible show wpAny _ _ (subscriptTail _ (Expr.Slice none (some _) _ _) (Value.ref _) (Value.ref _)) _ _ _); (with_reducible rename Fr _ _ _ _ => F'); (with_reducible rename News _ _ _ _ => N'); k_dflt (refine' slice_upto (s := ⟨_, _, _, _, _⟩) F' N' ?m ?a ?b ?c ?d ?_; (case m => k_mem); (case c => assumption); (case d => assumption); (case a => assumption); (case b => assumption)); intro t9 h9 F9 N9 l9; (try dsimp only); (have m9 := l9); (try k_lt l9)))
local macro_rules | `(tactic| walk_at "call ref") => `(tactic| (k_here; (with_reducible show wpAny _ _ (call (Value.ref 61) [Value.ref _, Value.ref _]) _ _ _); k_dflt (refine' (ms_ctr _ _ _ _ _ _ _ _ _ _ _ _ _ ?ha ?hb ?hc ?hd ?he ?hf ?hg).useV ?k1 ?k2 ?k3 ?k4 ?k5 ?kK ?kn ?kd ?ku ?_; (case k1 => k_asm); (case k2 => k_asm); (case k3 => k_asm); (case k4 => k_asm); (case k5 => k_asm); (case kK => exact rfl); (case kd => exact Nat.le_of_ble_eq_true rfl); (case ku => exact Nat.le_of_ble_eq_true rfl); (case kn => exact sub_cons (by k_mem) (sub_cons (by k_mem) (sub_cons (by k_mem) (sub_cons (by k_mem) (sub_cons (by k_mem) (sub_cons (by k_mem) nil_sub)))))); (case ha => assumption); (case hb => assumption); (case hc => assumption); (case hd => assumption); (case he => assumption); (case hf => assumption); (case hg => assumption)); intro r9 h9 tk9 F9 N9 e9; subst e9; (try dsimp only []); (try k_fold)))
/-- what stripSuffix gives back: a new name of the first words, or the name itself -/
def StripR (w : World) (x : Addr) (b : Bool) (ws : List (Array UInt8)) (r : Value) (nl : List (Addr × Obj)) : Prop := (b = true ∧ NameR w ws r nl) ∨ (b = false ∧ nl = [] ∧ r = .ref x)
theorem ss_ctr (w : World) (x d t x2 d2 t2 : Addr) (k k2 : Tok) (vs vs2 : List Value) (ws ws2 : List (Array UInt8)) (hv : BytesAre vs ws) (hv2 : BytesAre vs2 ws2) (hw : ∀ b ∈ ws, b.size ≤ sizeLine) (hw2 : ∀ b ∈ ws2, b.size ≤ sizeLine) (hz : ws.length ≤ 8) (hz2 : ws2.length ≤ ws.length) (h0 : 0 < ws2.length) :
    Ctr w 950 9400 (.ref 68) [.ref x, .ref x2] [(x, instObj 112 d), (d, labD w k t), (t, tup vs), (x2, instObj 112 d2), (d2, labD w k2 t2), (t2, tup vs2)] (StripR w x (decide ((ws.drop (ws.length - ws2.length)).map lowL = ws2.map lowL)) (ws.take (ws.length - ws2.length))) := by
  intro mean mg mb gd cn cs a ccd cl outer A₀ base h₀ L m news s Q E hk B F X N T need hret
  obtain ⟨kd, nm, ig, ic, mo⟩ := cs
  obtain rfl : kd = .function := hk
  refine wpAny_call ?_
  k_dflt k_enter
  rename_i gN LN hN FGN FN NN BN XN TN
  replace NN := need_in NN need
  simp only [List.cons_append, List.nil_append] at NN
  have hlen : vs.length = ws.length := hv.length
  have hlen2 : vs2.length = ws2.length := hv2.length
  have hfit : (vs2.toArray.size : Int) < 2 ^ 63 := by simp only [List.size_toArray]; omega
  have hz2' : ws2.length ≤ 8 := by omega
  have ek : -(vs2.toArray.size : Int) = -(ws2.length : Int) := by rw [List.size_toArray, hlen2]
  have hzs : vs.length ≤ sizeLine := by rw [hlen]; exact Nat.le_trans hz (by decide)
  have hj : ws2.length ≤ vs.length := by omega
  k_steps
  · refine' hret _ [(_, instObj 112 _), (_, labD w _ _), (_, tup (vs.take (vs.length - ws2.length)))] _ _ ?hF ?hN ?hD (.inl ⟨decide_eq_true (by assumption), _, _, _, _, _, rfl, rfl, by rw [hlen]; exact hv.take _⟩)
    case hF => k_asm
    case hN => exact News.of_sub (by assumption) (by ((repeat (refine sub_cons (by k_mem) ?_)); (repeat (first | exact sub_here | refine sub_skip ?_))))
    case hD => exact nl_three (off1_sub (And.left (by assumption)) (by ((repeat (refine sub_cons (by k_mem) ?_)); (repeat (first | exact sub_here | refine sub_skip ?_))))) (off1_sub (And.right (by assumption)) (by ((repeat (refine sub_cons (by k_mem) ?_)); (repeat (first | exact sub_here | refine sub_skip ?_))))) (lt_sub (by assumption) (by ((repeat (refine sub_cons (by k_mem) ?_)); (repeat (first | exact sub_here | refine sub_skip ?_)))))
  · refine' hret _ [] _ _ ?hF ?hN nl_nil (.inr ⟨decide_eq_false (by assumption), rfl, rfl⟩)
    case hF => k_asm
    case hN => exact News.of_sub (by assumption) (by ((repeat (refine sub_cons (by k_mem) ?_)); (repeat (first | exact sub_here | refine sub_skip ?_))))
end Mine

end
section
open PySem PySem.W PyProof.Rows PySem.Calls
set_option Elab.async false
set_option maxRecDepth 100000
set_option maxHeartbeats 8000000
namespace Mine
example : True := by w_top off; trivial
local macro_rules | `(tactic| walk_at "no such goal") => `(tactic| fail "no")
local macro_rules | `(tactic| walk_at "no such goal") => `(tactic| fail "no")
local macro_rules | `(tactic| walk_at "no such goal") => `(tactic| fail "no")
local macro_rules | `(tactic| walk_at "no such goal") => `(tactic| fail "no")
local macro_rules | `(tactic| walk_at "no such goal") => `(tactic| fail "no")
local macro_rules | `(tactic| walk_at "no such goal") => `(tactic| fail "no")
local macro_rules | `(tactic| walk_at "no such goal") => `(tactic| fail "no")
local macro_rules | `(tactic| walk_at "no such goal") => `(tactic| fail "no")
set_option maxHeartbeats 2000000
open PyProof.Rows.LCg
local macro_rules | `(tactic| k_mem) => `(tactic| first | (with_reducible assumption) | (with_reducible exact List.mem_cons_self) | (with_reducible refine List.mem_cons_of_mem _ ?_; k_mem) | fail "no")
local macro_rules | `(tactic| k_all) => `(tactic| first | exact ne_lt4 (by assumption) | exact ne_lt4 (And.right (by assumption)) | exact ne_lt4 (And.right (And.right (by assumption))) | exact ne_lt1 (by assumption) | exact ne_lt2 (by assumption) | exact ne_lt3 (by assumption) | exact ne_lt3 (And.right (by assumption)) | exact ne_lt3 (And.right (And.right (by assumption))) | exact ne_lt3 (And.right (And.right (And.right (by assumption)))) | fail "no")
local macro_rules | `(tactic| walk_at "getMethod bytes") => `(tactic| (k_here; (with_reducible show wpAny _ _ (getMethod (Value.bytes _ _) (Str.ofString "lower") _) _ _ _); k_dflt (refine BL.lower_m ?_)))
local macro_rules | `(tactic| walk_at "call builtin:bytes.lower") => `(tactic| (k_here; k_dflt (refine BL.lower_c (by assumption) ?_)))
local macro_rules | `(tactic| walk_at "call builtin:len") => `(tactic| (k_here; (with_reducible show wpAny _ _ (call (Value.builtin "len") [Value.ref _]) _ _ _); k_dflt (refine' len_tuple (newS (vs := ?vs) ?N ?m) ?f ?_; (case N => k_asm); (case m => k_mem); (case f => assumption))))
local macro_rules | `(tactic| walk_at "call type:reversed") => `(tactic| (k_here; (with_reducible show wpAny _ _ (call (Value.type "reversed") [Value.ref _]) _ _ _); k_dflt (refine' BL.rev_led ?F ?N ?m ?z ?_; (case F => k_asm); (case N => k_asm); (case m => k_mem); (case z => assumption)); intro D' h' tk' F' N' l1; (have m1 := l1); (try k_lt l1)))
local macro_rules | `(tactic| walk_at "subscriptTail") => `(tactic| (k_here; (with_reducible show wpAny _ _ (subscriptTail _ _ (Value.ref _) (Value.int 0 _)) _ _ _); k_dflt (refine' BL.item_v ?N ?m ?a ?b ?c ?d ?_; (case N => k_asm); (case m => k_mem); (case a => decide); (case b => decide); (case c => assumption); (case d => assumption))))
local macro_rules | `(tactic| walk_at "exec If") => `(tactic| (k_here; (with_reducible show wpAny _ _ (exec (Stmt.If (Expr.BoolOp _ _ _) _ _ _) _) _ _ _); (with_reducible rename Mark => mk'); clear mk'; refine hold ?_))
local macro_rules | `(tactic| walk_at "exec For Tuple Call cons nil") => `(tactic| (k_here; k_dflt (refine For_turns (m := ?_) (by k_asm) ?_)))
theorem low_pair {p b : Array UInt8} : lowL p = lowL b ↔ (BL.lowB b).toList = (BL.lowB p).toList := by
  rw [lowL_eq, lowL_eq, ints_inj, Array.toList_inj]
  exact eq_comm
theorem hit_no {p b : Array UInt8} (h1 : (p.toList != #[42].toList) = true) (h2 : ((BL.lowB b).toList != (BL.lowB p).toList) = true) : hitB p b = false := by
  unfold hitB isStar
  have e1 : (p.toList == [42]) = false := by
    simp only [bne_iff_ne, ne_eq] at h1
    exact beq_eq_false_iff_ne.mpr h1
  have e2 : decide (lowL p = lowL b) = false := by
    simp only [bne_iff_ne, ne_eq] at h2
    exact decide_eq_false fun q => h2 (low_pair.mp q)
  rw [e1, e2]; rfl
theorem hit_low {p b : Array UInt8} (h2 : ((BL.lowB b).toList != (BL.lowB p).toList) = false) : hitB p b = true := by
  unfold hitB
  have e2 : decide (lowL p = lowL b) = true := by
    simp only [bne_eq_false_iff_eq] at h2
    exact decide_eq_true (low_pair.mpr h2)
  rw [e2, Bool.or_true]
theorem hit_star {p b : Array UInt8} (h1 : (p.toList != #[42].toList) = false) : hitB p b = true := by
  unfold hitB isStar
  have e1 : (p.toList == [42]) = true := by
    simp only [bne_eq_false_iff_eq] at h1
    exact beq_iff_eq.mpr h1
  rw [e1, Bool.true_or]
theorem all_no {l : List Bool} {i : Nat} (h : l[i]? = some false) : l.all id = false := by
  rw [List.all_eq_false]
  exact ⟨false, List.mem_of_getElem? h, by decide⟩
theorem mw_ctr (w : World) (x d t x2 d2 t2 : Addr) (k k2 : Tok) (vs vs2 : List Value) (ws : List (Array UInt8)) (p0 : Array UInt8) (ps : List (Array UInt8)) (hv : BytesAre vs ws) (hv2' : BytesAre vs2 (p0 :: ps)) (hw : ∀ b ∈ ws, b.size ≤ sizeLine) (hw2 : ∀ b ∈ p0 :: ps, b.size ≤ sizeLine) (hz : ws.length ≤ 8) (hz2 : ps.length + 1 ≤ ws.length) :
    Ctr w 960 9500 (.ref 54) [.ref x, .ref x2] [(x, instObj 112 d), (d, labD w k t), (t, tup vs), (x2, instObj 112 d2), (d2, labD w k2 t2), (t2, tup vs2)] (fun r nl => nl = [] ∧ r = .bool (fitsB ws p0 ps)) := by
  obtain ⟨v0, vs2, rfl⟩ : ∃ v r, vs2 = v :: r := by
    cases vs2 with
    | nil => exact hv2'.elim
    | cons v r => exact ⟨v, r, rfl⟩
  obtain ⟨⟨t0, rfl⟩, hv2⟩ := id hv2'
  intro mean mg mb gd cn cs a ccd cl outer A₀ base h₀ L m news s Q E hk B F X N T need hret
  obtain ⟨kd, nm, ig, ic, mo⟩ := cs
  obtain rfl : kd = .function := hk
  refine wpAny_call ?_
  k_dflt k_enter
  rename_i gN LN hN FGN FN NN BN XN TN
  replace NN := need_in NN need
  simp only [List.cons_append, List.nil_append] at NN
  have hlen : vs.length = ws.length := hv.length
  have hlen2 : vs2.length = ps.length := hv2.length
  have hs4 : vs.toArray.size = ws.length := by simp only [List.size_toArray]; omega
  have hs3 : (Value.bytes p0 t0 :: vs2).toArray.size = ps.length + 1 := by simp only [List.size_toArray, List.length_cons]; omega
  have hfit : (vs.toArray.size : Int) < 2 ^ 63 := by omega
  have hfit2 : ((Value.bytes p0 t0 :: vs2).toArray.size : Int) < 2 ^ 63 := by omega
  have hz1 : vs.length ≤ 16384 := by omega
  have hz3 : (Value.bytes p0 t0 :: vs2).length ≤ 16384 := by simp only [List.length_cons]; omega
  have hj : seqIndex? 0 (Value.bytes p0 t0 :: vs2).toArray.size = some 0 := by
    rw [hs3]; unfold seqIndex?; simp
  have hx0 : (Value.bytes p0 t0 :: vs2).toArray[0]? = some (Value.bytes p0 t0) := rfl
  have mk : Mark := trivial
  k_steps
  refine held ?_
  refine cut (by k_asm) (by k_asm) (fun f => (f = .ret (.bool false) ∧ (isStar p0 || ws.length == ps.length + 1) = false) ∨ (f = .next ∧ (isStar p0 || ws.length == ps.length + 1) = true)) ?_ ?_
  · intro E1
    k_steps
    · rename_i h1 h2
      refine CutEnd.intro (by k_asm) (by k_asm) (.inl ⟨rfl, ?_⟩)
      rw [hs3, hs4] at h2
      simp only [isStar, Bool.or_eq_false_iff, beq_eq_false_iff_ne, ne_eq]
      refine ⟨by simpa using h1, by omega⟩
    · rename_i h1 h2
      refine CutEnd.intro (by k_asm) (by k_asm) (.inr ⟨rfl, ?_⟩)
      rw [hs3, hs4] at h2
      simp only [isStar, Bool.or_eq_true, beq_iff_eq]
      right
      omega
    · rename_i h1
      refine CutEnd.intro (by k_asm) (by k_asm) (.inr ⟨rfl, ?_⟩)
      simp only [isStar, Bool.or_eq_true, beq_iff_eq]
      left
      simpa using h1
  · rintro f h8 tk8 (⟨rfl, hc⟩ | ⟨rfl, hc⟩) F8 N8
    · clear FN NN
      dsimp only
      k_steps
      refine' hret _ [] _ _ ?hF ?hN nl_nil ⟨rfl, ?_⟩
      case hF => k_asm
      case hN => exact News.of_sub (by assumption) (by ((repeat (refine sub_cons (by k_mem) ?_)); (repeat (first | exact sub_here | refine sub_skip ?_))))
      unfold fitsB; rw [hc]; rfl
    · clear FN NN
      dsimp only
      k_steps
      refine' BL.zip_led rfl rfl rfl rfl ?zF ?zN ?zl1 ?zl2 ?zt1 ?zt2 hz1 hz3 (fun i _ => ((hitsL (p0 :: ps) ws).take i).all id = true) ?z0 ?zs ?zd
      case zF => k_asm
      case zl1 => assumption
      case zl2 => assumption
      case zN => k_asm
      case zt1 => k_mem
      case zt2 => k_mem
      case z0 => rfl
      case zs =>
        intro i xv yv m₁ own h tk hi hx hy hJ F9 N9
        obtain ⟨b, hb, tb, rfl⟩ := hv.get hx
        obtain ⟨p, hp, tp, rfl⟩ := hv2'.get hy
        have hbz : b.size ≤ sizeLine := hw b (List.mem_of_getElem? hb)
        have hpz : p.size ≤ sizeLine := hw2 p (List.mem_of_getElem? hp)
        rw [hlen] at hb
        rw [hv2'.length] at hp
        have hil : i < min ws.length (ps.length + 1) := by simpa [hlen, hlen2] using hi
        have hit : (hitsL (p0 :: ps) ws)[i]? = some (hitB p b) := by
          unfold hitsL
          rw [List.getElem?_map, List.getElem?_zip_eq_some (z := (p, b)) |>.mpr ⟨?_, ?_⟩]
          rfl
          · rw [List.getElem?_reverse (by simp; omega)]; exact hp
          · rw [List.getElem?_reverse (by omega)]; exact hb
        have hnx : ((hitsL (p0 :: ps) ws).take (i + 1)).all id = hitB p b := by
          rw [take_snoc hit, List.all_append, hJ]
          simp
        k_steps
        · dsimp only [BL.TurnZ]
          k_steps
          refine' hret _ [] _ _ ?hF ?hN nl_nil ⟨rfl, ?_⟩
          case hF => k_asm
          case hN => exact News.of_sub (by assumption) fun p hp => List.mem_append_right _ (.tail _ (.tail _ (.tail _ (.tail _ (.tail _ (.tail _ hp))))))
          rw [hit_no (by assumption) (by assumption)] at hit
          unfold fitsB; rw [all_no hit, Bool.and_false]
        · exact BL.TurnZ.next (by k_asm) (by k_asm) (hnx.trans (hit_low (by assumption)))
        · exact BL.TurnZ.next (by k_asm) (by k_asm) (hnx.trans (hit_star (by assumption)))
      case zd =>
        intro m₁ h tk hJ F9 N9
        k_steps
        refine' hret _ [] _ _ ?hF ?hN nl_nil ⟨rfl, ?_⟩
        case hF => k_asm
        case hN => exact News.of_sub (by assumption) (by ((repeat (refine sub_cons (by k_mem) ?_)); (repeat (first | exact sub_here | refine sub_skip ?_))))
        have hall : ((hitsL (p0 :: ps) ws).take (min vs.length (Value.bytes p0 t0 :: vs2).length)) = hitsL (p0 :: ps) ws := List.take_of_length_le (by
          unfold hitsL
          rw [List.length_map, List.length_zip, List.length_reverse, List.length_reverse, List.length_cons, List.length_cons]
          omega)
        rw [hall] at hJ
        unfold fitsB; rw [hc, hJ]; rfl
end Mine

end
section
open PySem PySem.W PyProof.Rows PySem.Calls
set_option Elab.async false
set_option maxRecDepth 100000
set_option maxHeartbeats 8000000
namespace Mine
example : True := by w_top off; trivial
local macro_rules | `(tactic| walk_at "no such goal") => `(tactic| fail "no")
local macro_rules | `(tactic| walk_at "no such goal") => `(tactic| fail "no")
local macro_rules | `(tactic| walk_at "no such goal") => `(tactic| fail "no")
local macro_rules | `(tactic| walk_at "no such goal") => `(tactic| fail "no")
local macro_rules | `(tactic| walk_at "no such goal") => `(tactic| fail "no")
local macro_rules | `(tactic| walk_at "no such goal") => `(tactic| fail "no")
local macro_rules | `(tactic| walk_at "no such goal") => `(tactic| fail "no")
local macro_rules | `(tactic| walk_at "no such goal") => `(tactic| fail "no")
local macro_rules | `(tactic| walk_at "no such goal") => `(tactic| fail "no")
local macro_rules | `(tactic| walk_at "no such goal") => `(tactic| fail "no")
local macro_rules | `(tactic| walk_at "no such goal") => `(tactic| fail "no")
local macro_rules | `(tactic| walk_at "no such goal") => `(tactic| fail "no")
local macro_rules | `(tactic| walk_at "no such goal") => `(tactic| fail "no")
local macro_rules | `(tactic| walk_at "no such goal") => `(tactic| fail "no")
local macro_rules | `(tactic| walk_at "no such goal") => `(tactic| fail "no")
local macro_rules | `(tactic| walk_at "no such goal") => `(tactic| fail "no")
set_option maxHeartbeats 2000000
open PyProof.Rows.LCg
local macro_rules | `(tactic| k_mem) => `(tactic| first | (with_reducible assumption) | (with_reducible exact List.mem_cons_self) | (with_reducible refine List.mem_cons_of_mem _ ?_; k_mem) | fail "no")
local macro_rules | `(tactic| k_all) => `(tactic| first | exact ne_lt4 (by assumption) | exact ne_lt4 (And.right (by assumption)) | exact ne_lt4 (And.right (And.right (by assumption))) | exact ne_lt1 (by assumption) | exact ne_lt2 (by assumption) | exact ne_lt3 (by assumption) | exact ne_lt3 (And.right (by assumption)) | exact ne_lt3 (And.right (And.right (by assumption))) | exact ne_lt3 (And.right (And.right (And.right (by assumption)))) | fail "no")
local macro_rules | `(tactic| walk_at "exec While") => `(tactic| (k_here; refine hold ?_))
local macro_rules | `(tactic| walk_at "exec While Compare") => `(tactic| (k_here; refine hold ?_))
local macro_rules | `(tactic| walk_at "eval ListComp") => `(tactic| (k_here; k_dflt (refine ListComp_G (F₀ := by k_asm) (by rfl) (by decide) (by rfl) (by decide) (by rfl) ?_)))
local macro_rules | `(tactic| walk_at "call builtin:len") => `(tactic| (k_here; (with_reducible show wpAny _ _ (call (Value.builtin "len") [Value.str (strL _) _]) _ _ _); k_dflt (refine' len_strL ?z ?_; (case z => assumption)); intro _ _))
local macro_rules | `(tactic| walk_at "compareOp Lt int int") => `(tactic| (k_here; k_dflt (refine' lt_intb ?e ?_; (case e => assumption))))
local macro_rules | `(tactic| walk_at "compareOp Eq int int") => `(tactic| (k_here; k_dflt (refine' eq_intb ?e ?_; (case e => assumption))))
local macro_rules | `(tactic| walk_at "compareOp Eq str str") => `(tactic| (k_here; k_dflt (refine' eq_strb ?e ?_; (case e => assumption))))
local macro_rules | `(tactic| walk_at "compareOp In str str") => `(tactic| (k_here; k_dflt (refine' in_strb ?e ?_; (case e => assumption))))
local macro_rules | `(tactic| walk_at "subscriptTail") => `(tactic| (k_here; (with_reducible show wpAny _ _ (subscriptTail _ _ (Value.str (strL _) _) (Value.int _ _)) _ _ _); k_dflt (refine' item_strL ?c ?z ?_; (case c => assumption); (case z => assumption)); intro _ _))
local macro_rules | `(tactic| walk_at "subscriptTail Name Slice str ref") => `(tactic| (k_here; (with_reducible show wpAny _ _ (subscriptTail _ _ (Value.str (strL _) _) (Value.ref _)) _ _ _); (with_reducible rename Fr _ _ _ _ => F'); (with_reducible rename News _ _ _ _ => N'); k_dflt (refine' slice3 (s := ⟨_, _, _, _, _⟩) F' N' ?d ?z ?_; (case d => assumption); (case z => assumption)); intro _ _ _ _ _))
local macro_rules | `(tactic| walk_at "call type:int") => `(tactic| (k_here; k_dflt (refine' three_int ?z ?_; (case z => assumption)); intro _ _))
local macro_rules | `(tactic| walk_at "call builtin:chr") => `(tactic| (k_here; k_dflt (refine' chrL ?z ?_; (case z => assumption)); intro _ _))
theorem encL_app (a b : List Int) : encL (a ++ b) = encL a ++ encL b := by simp [encL]
theorem encC_pos (k : Int) : 0 < (encC k).length := by unfold encC; split <;> simp
theorem flat_one (ks : List Int) : (ks.map fun k => [k.toNat]).flatten = ks.map Int.toNat := by
  induction ks with
  | nil => rfl
  | cons k ks ih => simp [ih]
theorem push_arr {α : Type} (vs : List α) (v : α) : vs.toArray.push v = (vs ++ [v]).toArray := by simp
theorem StrsAre.append : ∀ {vs vs2 : List Value} {xs ys : List Str}, StrsAre vs xs → StrsAre vs2 ys → StrsAre (vs ++ vs2) (xs ++ ys)
  | _, _, _, _, .nil, h => h
  | _, _, _, _, .cons y t r, h => .cons y t (StrsAre.append r h)
theorem some_int {o : Option Value} {a b : Int} {t : Tok} (h : o = some (.int a t)) (e : a = b) : ∃ t', o = some (.int b t') := ⟨t, e ▸ h⟩
theorem unesc_ctr (w : World) (ks : List Int) (u : Tok) (hk : ∀ k ∈ ks, 0 ≤ k ∧ k < 128 ∧ k ≠ 92) (hz : ks.length ≤ 24) : Ctr w 980 9700 (.ref 26) [.str (strL (encL ks)) u] [] (fun r nl => nl = [] ∧ ∃ t, r = .str (strL (ks.map Int.toNat)) t) := by
  intro mean mg mb gd cn cs a ccd cl outer A₀ base h₀ L m news s Q E hk B F X N T need hret
  obtain ⟨kd, nm, ig, ic, mo⟩ := cs
  obtain rfl : kd = .function := hk
  refine wpAny_call ?_
  k_dflt k_enter
  rename_i gN LN hN FGN FN NN BN XN TN
  k_steps
  refine held ?_
  rename News _ _ _ (_ :: _) => NO
  refine While_G ks.length (fun i m nw => ∃ vs n, nw = (_, listOf vs.toArray n) :: news ∧ StrsAre vs ((ks.take i).map fun k => strL [k.toNat]) ∧ (∃ t, m (Str.ofString "i") = some (.int (((encL (ks.take i)).length : Nat) : Int) t)) ∧ m (Str.ofString "out") = some (.ref _) ∧ m (Str.ofString "label") = some (.str (strL (encL ks)) u)) (by k_asm) NO ⟨[], 0, rfl, .nil, ⟨_, rfl⟩, rfl, rfl⟩ ?_
  rintro i m₁ nw h tk E' hi ⟨vs, n, rfl, hS, ⟨ti, hmi⟩, hmo, hml⟩ F9 N9
  replace F9 := fr_know (x := Str.ofString "i") F9 hmi
  replace F9 := fr_know (x := Str.ofString "out") F9 hmo
  replace F9 := fr_know (x := Str.ofString "label") F9 hml
  have henc : (encL ks).length ≤ 96 := by have := encL_len ks; omega
  have hz6 : (encL ks).length ≤ 1048576 := by omega
  have hzs : (encL ks).length ≤ sizeLine := by rw [sizeLine_eq]; omega
  by_cases hlt : i < ks.length
  · obtain ⟨k, hki⟩ : ∃ k, ks[i]? = some k := ⟨_, List.getElem?_eq_getElem hlt⟩
    have hkk := hk k (List.mem_of_getElem? hki)
    have hsn := encL_snoc hki
    have hsp : encL ks = encL (ks.take i) ++ encC k ++ encL (ks.drop (i + 1)) := by
      rw [← hsn, ← encL_app, List.take_append_drop]
    have hlt2 : decide (((encL (ks.take i)).length : Int) < ((encL ks).length : Int)) = true := by
      have := encC_pos k
      rw [hsp]; simp only [List.length_append, decide_eq_true_eq]; omega
    obtain ⟨ds, hds⟩ : ∃ ds, ((encL ks).drop ((encL (ks.take i)).length + 1)).take 3 = ds := ⟨_, rfl⟩
    by_cases hp : 32 < k ∧ k < 127
    · have hc : (encL ks)[(encL (ks.take i)).length]? = some k.toNat := by
        rw [hsp, encC, if_pos hp]
        simp
      have hne : (strL [k.toNat] == Str.ofString "\\") = false := by
        rw [bs_is, beq_eq_false_iff_ne, ne_eq, strL_inj]
        simp; omega
      k_steps
      refine TurnW.next (by k_asm) (by k_asm) ⟨hlt, _, _, congrArg (fun x => (_, listOf x _) :: news) (push_arr _ _), ?_, some_int rfl ?_, rfl, rfl⟩
      · rw [take_snoc hki, List.map_append]
        exact StrsAre.append hS (.cons _ _ .nil)
      · rw [hsn, encC, if_pos hp]
        simp
    · have hc : (encL ks)[(encL (ks.take i)).length]? = some 92 := by
        rw [hsp, encC, if_neg hp]
        simp
      have hds2 : ((encL ks).drop ((encL (ks.take i)).length + 1)).take 3 = [48 + k.toNat / 100, 48 + k.toNat / 10 % 10, 48 + k.toNat % 10] := by
        rw [hsp, encC, if_neg hp]
        simp
      clear hds
      have hl3 : [48 + k.toNat / 100, 48 + k.toNat / 10 % 10, 48 + k.toNat % 10].length ≤ 1048576 := by simp
      have h3 : ((([48 + k.toNat / 100, 48 + k.toNat / 10 % 10, 48 + k.toNat % 10] : List Nat).length : Int) == 3) = true := rfl
      have h92 : (strL [92] == Str.ofString "\\") = true := rfl
      have hk7 : k.toNat < 128 := by omega
      k_steps
      refine srcG_str rfl (by k_asm) (by k_asm) (Nat.le_of_ble_eq_true rfl) ?_ ?_
      · intro c hc
        simp only [List.mem_cons, List.not_mem_nil, or_false] at hc
        omega
      intro g tk3
      refine rest_quiet (fun _ v => v = .bool true) trivial ?_ ?_
      · rintro j v I oI C oC D ys m₂ h2 tk4 E2 hj ⟨c, uc, hcj, rfl⟩ hC hx F8 N8 off8 ne8
        have hin : Txt.contains (Str.ofString "0123456789") (strL [c]) = true := by
          have hcm := List.mem_of_getElem? hcj
          simp only [List.mem_cons, List.not_mem_nil, or_false] at hcm
          rcases hcm with rfl | rfl | rfl
          · exact digit_in _ (by omega)
          · exact digit_in _ (by omega)
          · exact digit_in _ (by omega)
        k_steps
        exact end_quiet (by k_asm) (by k_asm) (by k_asm) trivial rfl
      · intro ys hl hg
        obtain rfl : ys = [.bool true, .bool true, .bool true] := by
          match ys, hl, hg with
          | [a, b, c], _, hg => rw [hg 0 a rfl, hg 1 b rfl, hg 2 c rfl]
        k_steps
        refine TurnW.next (by k_asm) (News.of_sub (by k_asm) (by intro p hp; exact .tail _ hp)) ⟨hlt, _, _, congrArg (fun x => (_, listOf x _) :: news) (push_arr _ _), ?_, some_int rfl ?_, rfl, rfl⟩
        · rw [take_snoc hki, List.map_append]
          exact StrsAre.append hS (.cons _ _ .nil)
        · rw [hsn, encC, if_neg hp]
          simp
  · have hall : ks.take i = ks := List.take_of_length_le (by omega)
    rw [hall] at F9 hS
    have hlt2 : decide (((encL ks).length : Int) < ((encL ks).length : Int)) = false := by simp
    k_steps
    refine joinE (ls := ks.map fun k => [k.toNat]) (by k_asm) (by k_mem) (by rw [List.map_map]; exact hS) ?_ ?_
    · rw [flat_one]; simp; omega
    · intro t' k'
      rw [flat_one]
      k_steps
      refine' hret _ [] _ _ ?hF ?hN nl_nil ⟨rfl, _, rfl⟩
      case hF => k_asm
      case hN => exact News.of_sub (by assumption) (by ((repeat (refine sub_cons (by k_mem) ?_)); (repeat (first | exact sub_here | refine sub_skip ?_))))
end Mine

end
section
open PySem PySem.W PyProof.Rows PySem.Calls
set_option Elab.async false
set_option maxRecDepth 100000
set_option maxHeartbeats 8000000
namespace Mine
example : True := by w_top off; trivial
set_option maxHeartbeats 2000000
open PyProof.Rows.LCg
local macro_rules | `(tactic| k_mem) => `(tactic| first | (with_reducible assumption) | (with_reducible exact List.mem_cons_self) | (with_reducible refine List.mem_cons_of_mem _ ?_; k_mem) | fail "no")
local macro_rules | `(tactic| k_all) => `(tactic| first | exact ne_lt4 (by assumption) | exact ne_lt4 (And.right (by assumption)) | exact ne_lt4 (And.right (And.right (by assumption))) | exact ne_lt1 (by assumption) | exact ne_lt2 (by assumption) | exact ne_lt3 (by assumption) | exact ne_lt3 (And.right (by assumption)) | exact ne_lt3 (And.right (And.right (by assumption))) | exact ne_lt3 (And.right (And.right (And.right (by assumption)))) | fail "no")
theorem BytesAre.get2 : ∀ {vs : List Value} {ws : List (Array UInt8)} {i : Nat} {b : Array UInt8}, BytesAre vs ws → ws[i]? = some b → ∃ t, vs[i]? = some (.bytes b t)
  | [], [], _, _, _, h => by simp at h
  | v :: vs, b :: bs, 0, _, h, e => by
    obtain ⟨t, ht⟩ := h.1
    simp at e
    exact ⟨t, by rw [← e, ht]; rfl⟩
  | v :: vs, b :: bs, i + 1, _, h, e => by
    have := BytesAre.get2 (ws := bs) (i := i) h.2 (by simpa using e)
    simpa using this
  | [], _ :: _, _, _, h, _ => h.elim
  | _ :: _, [], _, _, h, _ => h.elim
theorem neg_last {vs : List Value} {n : Nat} {v : Value} (hl : vs.length = n) (hx : vs[n - 1]? = some v) (h0 : 0 < n) : vs.toArray[((-1 : Int) + vs.toArray.size).toNat]? = some v := by
  have e : ((-1 : Int) + vs.toArray.size).toNat = n - 1 := by simp only [List.size_toArray, hl]; omega
  rw [e]
  simpa using hx
theorem drop_last {vs : List Value} {ws : List (Array UInt8)} (h : BytesAre vs ws) : kms_pick vs none (some (-1)) = vs.take (ws.length - 1) := by
  unfold kms_pick kms_lo kms_hi
  simp [h.length]
local macro_rules | `(tactic| walk_at "getMethod str") => `(tactic| (k_here; (with_reducible show wpAny _ _ (getMethod (Value.str _ _) (Str.ofString "encode") _) _ _ _); k_dflt (refine BL.enc_m ?_)))
local macro_rules | `(tactic| walk_at "call builtin:str.encode") => `(tactic| (k_here; k_dflt (refine' BL.enc_c ?a ?b ?c ?_; (case a => assumption); (case b => assumption); (case c => assumption)); intro _ _))
local macro_rules | `(tactic| walk_at "getMethod bytes") => `(tactic| (k_here; (with_reducible show wpAny _ _ (getMethod (Value.bytes _ _) (Str.ofString "split") _) _ _ _); k_dflt (refine BL.split_m ?_)))
local macro_rules | `(tactic| walk_at "call builtin:bytes.split") => `(tactic| (k_here; k_dflt (refine' BL.split_led ?F ?N ?a ?b ?_; (case F => k_asm); (case N => k_asm); (case a => assumption); (case b => assumption)); intro D' h' tk' vs' F' N' l1 hv'; (try k_lt l1)))
local macro_rules | `(tactic| walk_at "subscriptTail Name Slice ref ref") => `(tactic| (k_here; (with_reducible rename BytesAre _ _ => hvX); (with_reducible rename Fr _ _ _ _ => F'); (with_reducible rename News _ _ _ _ => N'); k_dflt (refine' BL.slice_lst (s := ⟨_, _, _, _, _⟩) F' N' ?m .none (.int _ _) ?z (drop_last hvX) ?_; (case m => k_mem); (case z => (rw [hvX.length]; assumption))); intro D' h' F' N' l1; (try k_lt l1)))
local macro_rules | `(tactic| walk_at "exec For Name Subscript cons nil") => `(tactic| (k_here; k_dflt (refine For_G (by k_asm) (by rfl) (by rfl) ?_)))
theorem idna_ctr (w : World) (ns : List Nat) (u : Tok) (hl : ∀ c ∈ ns, c < 128) (hne : ns ≠ []) (hz : ns.length ≤ 200) (hp1 : ∀ p ∈ BL.pieces (ns.map Nat.toUInt8).toArray, p.size ≤ sizeLine) (hp2 : (BL.pieces (ns.map Nat.toUInt8).toArray).length ≤ sizeLine)
    (hp3 : ∀ p ∈ (BL.pieces (ns.map Nat.toUInt8).toArray).take ((BL.pieces (ns.map Nat.toUInt8).toArray).length - 1), 0 < p.size ∧ p.size < 64) (hp4 : ∃ p, (BL.pieces (ns.map Nat.toUInt8).toArray)[(BL.pieces (ns.map Nat.toUInt8).toArray).length - 1]? = some p ∧ p.size < 64) :
    Ctr w 980 9700 (.ref 21) [.str (strL ns) u] [] (fun r nl => nl = [] ∧ ∃ t, r = .bytes (ns.map Nat.toUInt8).toArray t) := by
  intro mean mg mb gd cn cs a ccd cl outer A₀ base h₀ L m news s Q E hk B F X N T need hret
  obtain ⟨kd, nm, ig, ic, mo⟩ := cs
  obtain rfl : kd = .function := hk
  refine wpAny_call ?_
  k_dflt k_enter
  rename_i gN LN hN FGN FN NN BN XN TN
  have hzs : ns.length ≤ sizeLine := Nat.le_trans hz (by decide)
  k_steps
  rename BytesAre _ _ => hv
  generalize hps : BL.pieces (ns.map Nat.toUInt8).toArray = ps at *
  have hlv := hv.length
  refine ⟨_, _, _, _, _, fun i m nw => nw = _ ∧ m (Str.ofString "labels") = some (.ref _) ∧ m (Str.ofString "result") = some (.bytes _ _), by k_asm, by k_asm, ?S, iter_list rfl (by k_asm) (by k_asm) (.inr ⟨_, .head _, rfl, _, rfl⟩), ⟨rfl, rfl, rfl⟩, ?_, ?_⟩
  case S => exact .inr ⟨_, .head _, rfl, _, rfl⟩
  · rintro i v m₁ nw h tk I oI E' hi hP ⟨rfl, hml, hmr⟩ hS F9 N9 off9
    obtain ⟨p, hp, tp, rfl⟩ := (hv.take (ps.length - 1)).get (by simpa using hP)
    obtain ⟨hp0, hp64⟩ := hp3 p (List.mem_of_getElem? hp)
    dsimp only at F9 N9 ⊢
    replace F9 := fr_know (x := Str.ofString "labels") F9 hml
    replace F9 := fr_know (x := Str.ofString "result") F9 hmr
    k_steps
    refine TurnG.next (by k_asm) (by k_asm) off9 hS ⟨rfl, rfl, rfl⟩
  · rintro m₁ nw h tk ⟨rfl, hml, hmr⟩ F9 N9
    replace F9 := fr_know (x := Str.ofString "labels") F9 hml
    replace F9 := fr_know (x := Str.ofString "result") F9 hmr
    obtain ⟨p, hp, hp64⟩ := hp4
    obtain ⟨tp, hvx⟩ := hv.get2 hp
    have hpos : 0 < ps.length := Nat.lt_of_le_of_lt (Nat.zero_le _) (by have := (List.getElem?_eq_some_iff.mp hp).1; exact this)
    k_steps
    refine' item_neg (v := .bytes p tp) ?N ?m ?a ?b ?c ?x ?_
    case N => k_asm
    case m => k_mem
    case a => decide
    case b => simp only [List.size_toArray]; omega
    case c => decide
    case x => exact neg_last hlv hvx hpos
    k_steps
    refine' hret _ [] _ _ ?hF ?hN nl_nil ⟨rfl, _, rfl⟩
    case hF => k_asm
    case hN => exact News.of_sub (by assumption) (by ((repeat (refine sub_cons (by k_mem) ?_)); (repeat (first | exact sub_here | refine sub_skip ?_))))
end Mine

end
section
open PySem PySem.W PyProof.Rows PySem.Calls
set_option Elab.async false
set_option maxRecDepth 100000
set_option maxHeartbeats 8000000
namespace Mine
example : True := by w_top off; trivial
local macro_rules | `(tactic| walk_at "no such goal") => `(tactic| fail "no")
local macro_rules | `(tactic| walk_at "no such goal") => `(tactic| fail "no")
local macro_rules | `(tactic| walk_at "no such goal") => `(tactic| fail "no")
local macro_rules | `(tactic| walk_at "no such goal") => `(tactic| fail "no")
local macro_rules | `(tactic| walk_at "no such goal") => `(tactic| fail "no")
local macro_rules | `(tactic| walk_at "no such goal") => `(tactic| fail "no")
local macro_rules | `(tactic| walk_at "no such goal") => `(tactic| fail "no")
set_option maxHeartbeats 2000000
open PyProof.Rows.LCg
local macro_rules | `(tactic| k_mem) => `(tactic| first | (with_reducible assumption) | (with_reducible exact List.mem_cons_self) | (with_reducible refine List.mem_cons_of_mem _ ?_; k_mem) | fail "no")
local macro_rules | `(tactic| k_all) => `(tactic| first | exact ne_lt4 (by assumption) | exact ne_lt4 (And.right (by assumption)) | exact ne_lt4 (And.right (And.right (by assumption))) | exact ne_lt1 (by assumption) | exact ne_lt2 (by assumption) | exact ne_lt3 (by assumption) | exact ne_lt3 (And.right (by assumption)) | exact ne_lt3 (And.right (And.right (by assumption))) | exact ne_lt3 (And.right (And.right (And.right (by assumption)))) | fail "no")
local macro_rules | `(tactic| k_all) => `(tactic| first | exact ne_lt5 (by assumption) (by assumption) | exact ne_lt6 (by assumption) (by assumption) | exact ne_lt5 (by assumption) (And.right (by assumption)) | exact ne_lt5 (by assumption) (And.right (And.right (And.right (by assumption)))) | fail "no")
local macro_rules | `(tactic| k_all) => `(tactic| first | exact ne_lt3 (And.right (And.right (And.right (And.right (by assumption))))) | exact ne_lt3 (And.right (And.right (And.right (And.right (And.right (by assumption)))))) | exact ne_lt3 (And.right (And.right (And.right (And.right (And.right (And.right (by assumption))))))) | fail "no")
theorem len16 {vs : List Value} {ws : List (Array UInt8)} (h : BytesAre vs ws) (hz : ws.length ≤ 16384) : vs.length ≤ 16384 := by rw [h.length]; exact hz
def octB (ks : List Int) : Array UInt8 := ((ks.map Int.toNat).map Nat.toUInt8).toArray
local macro_rules | `(tactic| walk_at "call type:tuple") => `(tactic| (k_here; (with_reducible show wpAny _ _ (call (Value.type "tuple") [Value.ref _]) _ _ _); k_dflt (refine' tupOf ?F ?N ?m ?z ?_; (case F => k_asm); (case N => k_asm); (case m => k_mem); (case z => exact len16 (by assumption) (by assumption))); intro D' h' F' N' l1; (try k_lt l1)))
local macro_rules | `(tactic| walk_at "call ref") => `(tactic| (k_here; (with_reducible show wpAny _ _ (call (Value.ref 26) [Value.str _ _]) _ _ _); k_dflt (refine' (unesc_ctr _ _ _ ?ha ?hb).useV ?k1 ?k2 ?k3 ?k4 ?k5 ?kK ?kn ?kd ?ku ?_; (case k1 => k_asm); (case k2 => k_asm); (case k3 => k_asm); (case k4 => k_asm); (case k5 => k_asm); (case kK => exact rfl); (case kd => exact Nat.le_of_ble_eq_true rfl); (case ku => exact Nat.le_of_ble_eq_true rfl); (case kn => exact nil_sub); (case ha => assumption); (case hb => assumption)); intro r9 h9 tk9 F9 N9 e9; obtain ⟨t9, e9⟩ := e9; subst e9; (try dsimp only); (try k_fold)))
local macro_rules | `(tactic| walk_at "call ref") => `(tactic| (k_here; (with_reducible show wpAny _ _ (call (Value.ref 21) [Value.str _ _]) _ _ _); k_dflt (refine' (idna_ctr _ _ _ ?ha ?hb ?hc ?hd ?he ?hf ?hg).useV ?k1 ?k2 ?k3 ?k4 ?k5 ?kK ?kn ?kd ?ku ?_; (case k1 => k_asm); (case k2 => k_asm); (case k3 => k_asm); (case k4 => k_asm); (case k5 => k_asm); (case kK => exact rfl); (case kd => exact Nat.le_of_ble_eq_true rfl); (case ku => exact Nat.le_of_ble_eq_true rfl); (case kn => exact nil_sub); (case ha => assumption); (case hb => assumption); (case hc => assumption); (case hd => assumption); (case he => assumption); (case hf => assumption); (case hg => assumption)); intro r9 h9 tk9 F9 N9 e9; obtain ⟨t9, e9⟩ := e9; subst e9; (try dsimp only); (try k_fold)))
local macro_rules | `(tactic| walk_at "getMethod bytes") => `(tactic| (k_here; (with_reducible show wpAny _ _ (getMethod (Value.bytes _ _) (Str.ofString "split") _) _ _ _); k_dflt (refine BL.split_m ?_)))
local macro_rules | `(tactic| walk_at "getMethod bytes") => `(tactic| (k_here; (with_reducible show wpAny _ _ (getMethod (Value.bytes _ _) (Str.ofString "rstrip") _) _ _ _); k_dflt (refine BL.rstrip_m ?_)))
local macro_rules | `(tactic| walk_at "call builtin:bytes.split") => `(tactic| (k_here; k_dflt (refine' BL.split_led ?F ?N ?a ?b ?_; (case F => k_asm); (case N => k_asm); (case a => assumption); (case b => assumption)); intro D' h' tk' vs' F' N' l1 hv'; (try k_lt l1)))
local macro_rules | `(tactic| walk_at "call builtin:bytes.rstrip") => `(tactic| (k_here; k_dflt (refine' BL.rstrip_c ?a ?_; (case a => assumption)); intro _ _))
local macro_rules | `(tactic| walk_at "truthy str") => `(tactic| (k_here; k_dflt (refine' truth_strL ?a ?b ?_; (case a => assumption); (case b => assumption)); intro _))
local macro_rules | `(tactic| walk_at "compareOp In str ref") => `(tactic| (k_here; (with_reducible show wpAny _ _ (compareOp CmpOp.In (Value.str (strL _) _) (Value.ref _)) _ _ _); k_dflt (refine' in_dots ?N ?m ?e ?_; (case N => k_asm); (case m => k_mem); (case e => assumption))))
theorem new_str (w : World) (ks : List Int) (u : Tok) (ws : List (Array UInt8)) (hk : ∀ k ∈ ks, 0 ≤ k ∧ k < 128 ∧ k ≠ 92) (hz : ks.length ≤ 24) (hl : ∀ c ∈ ks.map Int.toNat, c < 128) (hne : ks.map Int.toNat ≠ []) (hzn : (ks.map Int.toNat).length ≤ 200) (hdot : (Str.ofString "." == strL (encL ks)) = false) (hne2 : encL ks ≠ []) (hz6 : (encL ks).length ≤ 1048576)
    (hp1 : ∀ p ∈ BL.pieces (octB ks), p.size ≤ sizeLine) (hp2 : (BL.pieces (octB ks)).length ≤ sizeLine) (hp3 : ∀ p ∈ (BL.pieces (octB ks)).take ((BL.pieces (octB ks)).length - 1), 0 < p.size ∧ p.size < 64) (hp4 : ∃ p, (BL.pieces (octB ks))[(BL.pieces (octB ks)).length - 1]? = some p ∧ p.size < 64)
    (hr : BL.pieces (BL.rstB (octB ks) #[46]).toArray = ws) (hw : ∀ p ∈ ws, p.size ≤ sizeLine) (hwz : ws.length ≤ 8) : Ctr w 970 9600 (.ref 112) [.str (strL (encL ks)) u] [] (NameR w ws) := by
  intro mean mg mb gd cn cs a ccd cl outer A₀ base h₀ L m news s Q E hk B F X N T need hret
  obtain ⟨kd, nm, ig, ic, mo⟩ := cs
  obtain rfl : kd = .function := hk
  have hob : (octB ks).size ≤ sizeLine := by unfold octB; simp only [List.size_toArray, List.length_map] at hzn ⊢; exact Nat.le_trans hzn (by decide)
  have hq1 : ∀ p ∈ BL.pieces (BL.rstB (octB ks) #[46]).toArray, p.size ≤ sizeLine := hr ▸ hw
  have hq2 : (BL.pieces (BL.rstB (octB ks) #[46]).toArray).length ≤ sizeLine := by rw [hr]; exact Nat.le_trans hwz (by decide)
  have hq3 : (BL.pieces (BL.rstB (octB ks) #[46]).toArray).length ≤ 16384 := by rw [hr]; omega
  k_steps
  rename BytesAre _ _ => hv
  have hv' : BytesAre _ (BL.pieces (BL.rstB (octB ks) #[46]).toArray) := hv
  rw [hr] at hv'
  refine' name_backG hret ?F ?N ?mx ?md ?mt ?sb ?ot ?ox ?od hv'
  case F => k_asm
  case N => k_asm
  case mx => k_mem
  case md => k_mem
  case mt => k_mem
  case sb => ((repeat (refine sub_cons (by k_mem) ?_)); (repeat (first | exact sub_here | refine sub_skip ?_)))
  all_goals k_all
end Mine

end
section
open PySem PySem.W PyProof.Rows PySem.Calls
set_option Elab.async false
set_option maxRecDepth 100000
set_option maxHeartbeats 8000000
namespace Mine
open PyProof.Rows.LCg
def octL (ks : List Int) : List UInt8 := (ks.map Int.toNat).map Nat.toUInt8
def textKs (ws : List (Array UInt8)) : List Int := ws.flatMap fun b => KBw.bInts b ++ [46]
theorem octL_app (a b : List Int) : octL (a ++ b) = octL a ++ octL b := by simp [octL]
theorem octL_ints (b : Array UInt8) : octL (KBw.bInts b) = b.toList := by
  unfold octL KBw.bInts
  rw [List.map_map, List.map_map]
  have : ∀ l : List UInt8, l.map ((Nat.toUInt8 ∘ Int.toNat) ∘ fun c => (c.toNat : Int)) = l := by
    intro l
    induction l with
    | nil => rfl
    | cons c l ih =>
      rw [List.map_cons, ih]
      congr 1
      simp
  exact this _
theorem textL_ks (ws : List (Array UInt8)) : textL ws = encL (textKs ws) := by
  induction ws with
  | nil => rfl
  | cons b ws ih =>
    simp only [textL, textKs, List.flatMap_cons] at ih ⊢
    rw [ih, encL_app, encL_app]
    rfl
theorem glued_cons {w : List UInt8} {r : List (List UInt8)} (h : r ≠ []) : BL.gluedD (w :: r) = w ++ 46 :: BL.gluedD r := by
  cases r with
  | nil => exact absurd rfl h
  | cons a r => rfl
theorem glued_last : ∀ (W : List (List UInt8)), W ≠ [] → BL.gluedD (W ++ [[]]) = BL.gluedD W ++ [46]
  | [], h => absurd rfl h
  | [w], _ => rfl
  | w :: v :: r, _ => by
    rw [List.cons_append, glued_cons (w := w) (r := v :: r ++ [[]]) (by simp), glued_last (v :: r) (by simp), glued_cons (w := w) (r := v :: r) (by simp)]
    simp
theorem oct_text : ∀ (ws : List (Array UInt8)), ws ≠ [] → octL (textKs ws) = BL.gluedD (ws.map Array.toList) ++ [46]
  | [], h => absurd rfl h
  | [b], _ => by
    show octL ((KBw.bInts b ++ [46]) ++ []) = b.toList ++ [46]
    rw [List.append_nil, octL_app, octL_ints]
    rfl
  | b :: c :: r, _ => by
    show octL ((KBw.bInts b ++ [46]) ++ textKs (c :: r)) = _
    rw [octL_app, octL_app, octL_ints, oct_text (c :: r) (by simp)]
    show b.toList ++ [46] ++ _ = BL.gluedD (b.toList :: (c :: r).map Array.toList) ++ [46]
    rw [glued_cons (w := b.toList) (r := (c :: r).map Array.toList) (by simp)]
    simp
theorem textKs_ne {ws : List (Array UInt8)} (h : ws ≠ []) : textKs ws ≠ [] := by
  cases ws with
  | nil => exact absurd rfl h
  | cons b r => simp [textKs]
theorem textKs_last (ws : List (Array UInt8)) (h : ws ≠ []) : ∃ ks, textKs ws = ks ++ [46] ∧ octL ks = BL.gluedD (ws.map Array.toList) := by
  have h1 := oct_text ws h
  obtain ⟨ks, k, hk⟩ : ∃ ks k, textKs ws = ks ++ [k] := ⟨_, _, (List.dropLast_concat_getLast (textKs_ne h)).symm⟩
  have hk46 : k = 46 := by
    have : (textKs ws).getLast? = some 46 := by
      unfold textKs
      obtain ⟨ws', b, rfl⟩ : ∃ ws' b, ws = ws' ++ [b] := ⟨_, _, (List.dropLast_concat_getLast h).symm⟩
      simp [List.flatMap_append]
    rw [hk] at this
    simpa using this
  subst hk46
  refine ⟨ks, hk, ?_⟩
  rw [hk, octL_app] at h1
  have h46 : octL [46] = [46] := rfl
  rw [h46] at h1
  exact List.append_cancel_right h1
theorem word_bytes {b : Array UInt8} (h : WordOk b) : b.toList ≠ [] ∧ b.size ≤ 4 ∧ 0 < b.size ∧ ∀ c ∈ b.toList, c ≠ 46 := by
  obtain ⟨h1, h2, h3⟩ := h
  rw [KBw.ints_length] at h1 h2
  refine ⟨fun q => ?_, h2, h1, fun c hc q => ?_⟩
  · have : b.size = 0 := by rw [← Array.length_toList, q]; rfl
    omega
  · have := h3 (c.toNat : Int) (List.mem_map.mpr ⟨c, hc, rfl⟩)
    subst q
    exact this.2.2.1 rfl
theorem glued_end : ∀ (W : List (List UInt8)), W ≠ [] → (∀ w ∈ W, w ≠ [] ∧ ∀ c ∈ w, c ≠ 46) → ∃ l c, BL.gluedD W = l ++ [c] ∧ c ≠ 46
  | [], h, _ => absurd rfl h
  | [w], _, hw => by
    obtain ⟨h1, h2⟩ := hw w (.head _)
    exact ⟨w.dropLast, w.getLast h1, (List.dropLast_concat_getLast h1).symm, h2 _ (List.getLast_mem h1)⟩
  | w :: v :: r, _, hw => by
    obtain ⟨l, c, e, hc⟩ := glued_end (v :: r) (by simp) fun x hx => hw x (.tail _ hx)
    exact ⟨w ++ 46 :: l, c, by rw [glued_cons (by simp), e]; simp, hc⟩
theorem rst_dot {l : List UInt8} {c : UInt8} (hc : c ≠ 46) : BL.rstB (l ++ [c] ++ [46]).toArray #[46] = l ++ [c] ∧ BL.rstB (l ++ [c]).toArray #[46] = l ++ [c] := by
  unfold BL.rstB
  simp [List.dropWhile, hc]
theorem map_back (ws : List (Array UInt8)) : (ws.map Array.toList).map List.toArray = ws := by
  rw [List.map_map]
  have : (List.toArray ∘ Array.toList : Array UInt8 → Array UInt8) = id := by funext x; simp
  rw [this, List.map_id]
theorem pieces_two {ws : List (Array UInt8)} (h : ws ≠ []) (hw : ∀ b ∈ ws, WordOk b) : BL.pieces (BL.gluedD (ws.map Array.toList)).toArray = ws ∧ BL.pieces (BL.gluedD (ws.map Array.toList) ++ [46]).toArray = ws ++ [#[]] := by
  have hd : ∀ w ∈ ws.map Array.toList, ∀ c ∈ w, c ≠ 46 := by
    intro w hwm
    obtain ⟨b, hb, rfl⟩ := List.mem_map.mp hwm
    exact (word_bytes (hw b hb)).2.2.2
  refine ⟨?_, ?_⟩
  · rw [BL.pieces_glued (by simpa using h) hd, map_back]
  · rw [← glued_last _ (by simpa using h), BL.pieces_glued (by simp) ?_, List.map_append, map_back]
    · rfl
    · intro w hwm
      rcases List.mem_append.mp hwm with q | q
      · exact hd w q
      · rw [List.mem_singleton.mp q]; intro c hc; cases hc
theorem rst_two {ws : List (Array UInt8)} (h : ws ≠ []) (hw : ∀ b ∈ ws, WordOk b) : BL.rstB (BL.gluedD (ws.map Array.toList) ++ [46]).toArray #[46] = BL.gluedD (ws.map Array.toList) ∧ BL.rstB (BL.gluedD (ws.map Array.toList)).toArray #[46] = BL.gluedD (ws.map Array.toList) := by
  obtain ⟨l, c, e, hc⟩ := glued_end (ws.map Array.toList) (by simpa using h) (by
    intro w hwm
    obtain ⟨b, hb, rfl⟩ := List.mem_map.mp hwm
    exact ⟨(word_bytes (hw b hb)).1, (word_bytes (hw b hb)).2.2.2⟩)
  rw [e]
  exact rst_dot hc
theorem textKs_in {ws : List (Array UInt8)} (hw : ∀ b ∈ ws, WordOk b) : ∀ k ∈ textKs ws, 0 ≤ k ∧ k < 128 ∧ k ≠ 92 := by
  intro k hk
  obtain ⟨b, hb, hkb⟩ := List.mem_flatMap.mp hk
  rcases List.mem_append.mp hkb with q | q
  · have := (hw b hb).2.2 k q
    unfold OctOk at this
    omega
  · rw [List.mem_singleton.mp q]; decide
theorem textKs_len : ∀ (ws : List (Array UInt8)), (∀ b ∈ ws, WordOk b) → (textKs ws).length ≤ 5 * ws.length
  | [], _ => by simp [textKs]
  | b :: ws, hw => by
    have h1 := (hw b (.head _)).2.1
    have h2 := textKs_len ws fun c hc => hw c (.tail _ hc)
    simp only [textKs, List.flatMap_cons, List.length_append, List.length_cons, List.length_nil] at h2 ⊢
    omega
theorem textKs_head {ws : List (Array UInt8)} (h : ws ≠ []) (hw : ∀ b ∈ ws, WordOk b) : ∃ k r, textKs ws = k :: r ∧ r ≠ [] ∧ OctOk k := by
  cases ws with
  | nil => exact absurd rfl h
  | cons b ws =>
    obtain ⟨h1, _, h3⟩ := hw b (.head _)
    cases e : KBw.bInts b with
    | nil => rw [e] at h1; simp at h1
    | cons k r =>
      refine ⟨k, r ++ [46] ++ textKs ws, ?_, by simp, h3 k (by rw [e]; exact .head _)⟩
      simp [textKs, e]
theorem dot_not {k : Int} {r : List Int} (hk : OctOk k) : (Str.ofString "." == strL (encL (k :: r))) = false ∧ encL (k :: r) ≠ [] := by
  have hh : ∃ c l, encL (k :: r) = c :: l ∧ c ≠ 46 := by
    have e : encL (k :: r) = encC k ++ encL r := rfl
    unfold OctOk at hk
    rw [e, encC]
    split
    · exact ⟨k.toNat, _, rfl, by omega⟩
    · exact ⟨92, _, rfl, by decide⟩
  obtain ⟨c, l, e, hc⟩ := hh
  rw [e]
  refine ⟨?_, by simp⟩
  rw [dot_is, beq_eq_false_iff_ne, ne_eq, strL_inj]
  intro q
  exact hc (by have := (List.cons.injEq _ _ _ _).mp q; exact this.1.symm)
theorem oct_small {ks : List Int} (h : ∀ k ∈ ks, 0 ≤ k ∧ k < 128 ∧ k ≠ 92) : ∀ c ∈ ks.map Int.toNat, c < 128 := by
  intro c hc
  obtain ⟨k, hk, rfl⟩ := List.mem_map.mp hc
  have := h k hk
  omega
theorem word_size {b : Array UInt8} (h : WordOk b) : 0 < b.size ∧ b.size < 64 := by
  have := word_bytes h
  omega
/-- DNSLabel of a name's text -/
theorem new_text (w : World) (u : Tok) (ws : List (Array UInt8)) (hne : ws ≠ []) (hw : ∀ b ∈ ws, WordOk b) (hz : ws.length ≤ 4) : Ctr w 970 9600 (.ref 112) [.str (strL (textL ws)) u] [] (NameR w ws) := by
  have hk := textKs_in hw
  have hlen := textKs_len ws hw
  have henc := encL_len (textKs ws)
  obtain ⟨k, r, ek, _, hko⟩ := textKs_head hne hw
  have hdot := dot_not (r := r) hko
  rw [← ek] at hdot
  have eo : octB (textKs ws) = (BL.gluedD (ws.map Array.toList) ++ [46]).toArray := congrArg List.toArray (oct_text ws hne)
  have ep : BL.pieces (octB (textKs ws)) = ws ++ [#[]] := by rw [eo]; exact (pieces_two hne hw).2
  rw [textL_ks]
  refine new_str w (textKs ws) u ws hk (by omega) (oct_small hk) (by simpa using textKs_ne hne) (by simp; omega) hdot.1 hdot.2 (by omega) ?_ ?_ ?_ ?_ ?_ (fun p hp => (hw p hp).size) (by omega)
  · rw [ep]
    intro p hp
    rcases List.mem_append.mp hp with q | q
    · exact (hw p q).size
    · rw [List.mem_singleton.mp q]; exact Nat.zero_le _
  · rw [ep, List.length_append]; exact Nat.le_trans (by simp; omega : _ ≤ 5) (by decide)
  · rw [ep]
    intro p hp
    have : p ∈ ws := by simpa using hp
    exact word_size (hw p this)
  · rw [ep]
    exact ⟨#[], by simp, by decide⟩
  · rw [eo, (rst_two hne hw).1]
    exact (pieces_two hne hw).1
/-- DNSLabel of a name's text without its last point -/
theorem new_text0 (w : World) (u : Tok) (ws : List (Array UInt8)) (l : List Nat) (hne : ws ≠ []) (hw : ∀ b ∈ ws, WordOk b) (hz : ws.length ≤ 4) (hl : textL ws = l ++ [46]) : Ctr w 970 9600 (.ref 112) [.str (strL l) u] [] (NameR w ws) := by
  obtain ⟨ks, e1, e2⟩ := textKs_last ws hne
  have el : l = encL ks := by
    rw [textL_ks, e1, encL_app] at hl
    have h46 : encL [46] = [46] := rfl
    rw [h46] at hl
    exact (List.append_cancel_right hl).symm
  have hk0 := textKs_in hw
  have hk : ∀ k ∈ ks, 0 ≤ k ∧ k < 128 ∧ k ≠ 92 := fun k q => hk0 k (by rw [e1]; exact List.mem_append_left _ q)
  have hlen0 := textKs_len ws hw
  have hlen : ks.length ≤ 20 := by rw [e1, List.length_append] at hlen0; omega
  have henc := encL_len ks
  obtain ⟨k, r, ek, hr0, hko⟩ := textKs_head hne hw
  obtain ⟨r', ek'⟩ : ∃ r', ks = k :: r' := by
    cases ks with
    | nil =>
      rw [e1] at ek
      simp at ek
      exact absurd ek.2 hr0
    | cons a r' =>
      rw [e1] at ek
      simp at ek
      exact ⟨r', by rw [ek.1]⟩
  have hdot := dot_not (r := r') hko
  rw [← ek'] at hdot
  have eo : octB ks = (BL.gluedD (ws.map Array.toList)).toArray := congrArg List.toArray e2
  have ep : BL.pieces (octB ks) = ws := by rw [eo]; exact (pieces_two hne hw).1
  rw [el]
  have hpos : 0 < ws.length := List.length_pos_iff.mpr hne
  refine new_str w ks u ws hk (by omega) (oct_small hk) (by rw [ek']; simp) (by simp; omega) hdot.1 hdot.2 (by omega) ?_ ?_ ?_ ?_ ?_ (fun p hp => (hw p hp).size) (by omega)
  · rw [ep]; exact fun p hp => (hw p hp).size
  · rw [ep]; exact Nat.le_trans hz (by decide)
  · rw [ep]
    intro p hp
    exact word_size (hw p (List.mem_of_mem_take hp))
  · rw [ep]
    have hg : ws[ws.length - 1]? = some (ws[ws.length - 1]'(by omega)) := List.getElem?_eq_getElem (by omega)
    exact ⟨_, hg, (word_size (hw _ (List.getElem_mem _))).2⟩
  · rw [eo, (rst_two hne hw).2]
    exact (pieces_two hne hw).1
end Mine

end
section
open PySem PySem.W PyProof.Rows PySem.Calls
set_option Elab.async false
set_option maxRecDepth 100000
set_option maxHeartbeats 8000000
namespace Mine
example : True := by w_top off; trivial
local macro_rules | `(tactic| walk_at "no such goal") => `(tactic| fail "no")
local macro_rules | `(tactic| walk_at "no such goal") => `(tactic| fail "no")
local macro_rules | `(tactic| walk_at "no such goal") => `(tactic| fail "no")
local macro_rules | `(tactic| walk_at "no such goal") => `(tactic| fail "no")
local macro_rules | `(tactic| walk_at "no such goal") => `(tactic| fail "no")
local macro_rules | `(tactic| walk_at "no such goal") => `(tactic| fail "no")
local macro_rules | `(tactic| walk_at "no such goal") => `(tactic| fail "no")
local macro_rules | `(tactic| walk_at "no such goal") => `(tactic| fail "no")
local macro_rules | `(tactic| walk_at "no such goal") => `(tactic| fail "no")
local macro_rules | `(tactic| walk_at "no such goal") => `(tactic| fail "no")
local macro_rules | `(tactic| walk_at "no such goal") => `(tactic| fail "no")
local macro_rules | `(tactic| walk_at "no such goal") => `(tactic| fail "no")
local macro_rules | `(tactic| walk_at "no such goal") => `(tactic| fail "no")
local macro_rules | `(tactic| walk_at "no such goal") => `(tactic| fail "no")
local macro_rules | `(tactic| walk_at "no such goal") => `(tactic| fail "no")
local macro_rules | `(tactic| walk_at "no such goal") => `(tactic| fail "no")
local macro_rules | `(tactic| walk_at "no such goal") => `(tactic| fail "no")
set_option maxHeartbeats 2000000
open PyProof.Rows.LCg
local macro_rules | `(tactic| k_mem) => `(tactic| first | (with_reducible assumption) | (with_reducible exact List.mem_cons_self) | (with_reducible refine List.mem_cons_of_mem _ ?_; k_mem) | fail "no")
local macro_rules | `(tactic| k_all) => `(tactic| first | exact ne_lt4 (by assumption) | exact ne_lt4 (And.right (by assumption)) | exact ne_lt4 (And.right (And.right (by assumption))) | exact ne_lt1 (by assumption) | exact ne_lt2 (by assumption) | exact ne_lt3 (by assumption) | exact ne_lt3 (And.right (by assumption)) | exact ne_lt3 (And.right (And.right (by assumption))) | exact ne_lt3 (And.right (And.right (And.right (by assumption)))) | fail "no")
local macro_rules | `(tactic| walk_at "call ref") => `(tactic| (k_here; (with_reducible show wpAny _ _ (call (Value.ref 102) [Value.ref _, Value.ref _]) _ _ _); k_dflt (refine' (eq_ctr _ _ _ _ _ _ _ _ _ _ _ _ _ ?ha ?hb ?hc ?hd ?he ?hf).useV ?k1 ?k2 ?k3 ?k4 ?k5 ?kK ?kn ?kd ?ku ?_; (case k1 => k_asm); (case k2 => k_asm); (case k3 => k_asm); (case k4 => k_asm); (case k5 => k_asm); (case kK => exact rfl); (case kd => exact Nat.le_of_ble_eq_true rfl); (case ku => exact Nat.le_of_ble_eq_true rfl); (case kn => exact sub_cons (by k_mem) (sub_cons (by k_mem) (sub_cons (by k_mem) (sub_cons (by k_mem) (sub_cons (by k_mem) (sub_cons (by k_mem) nil_sub)))))); (case ha => assumption); (case hb => assumption); (case hc => assumption); (case hd => assumption); (case he => assumption); (case hf => assumption)); intro r9 h9 tk9 F9 N9 e9; subst e9; (try unfold PySem.W.CmpBack); (try dsimp only []); (try k_fold)))
local macro_rules | `(tactic| walk_at "call ref") => `(tactic| (k_here; (with_reducible show wpAny _ _ (call (Value.ref 112) [Value.ref _]) _ _ _); k_dflt (refine' (new_tup _ _ _).useS ?k1 ?k2 ?k3 ?k4 ?k5 ?kK ?kn ?kd ?ku ?_; (case k1 => k_asm); (case k2 => k_asm); (case k3 => k_asm); (case k4 => k_asm); (case k5 => k_asm); (case kK => exact rfl); (case kd => exact Nat.le_of_ble_eq_true rfl); (case ku => exact Nat.le_of_ble_eq_true rfl); (case kn => exact sub_cons (by k_mem) nil_sub)); intro x9 d9 k9 h9 tk9 F9 N9 off9; (try dsimp only); (try k_fold)))
local macro_rules | `(tactic| walk_at "call ref") => `(tactic| (k_here; (with_reducible show wpAny _ _ (call (Value.ref 112) [Value.ref _]) _ _ _); k_dflt (refine' (new_inst _ _ _ _ _ _).useS ?k1 ?k2 ?k3 ?k4 ?k5 ?kK ?kn ?kd ?ku ?_; (case k1 => k_asm); (case k2 => k_asm); (case k3 => k_asm); (case k4 => k_asm); (case k5 => k_asm); (case kK => exact rfl); (case kd => exact Nat.le_of_ble_eq_true rfl); (case ku => exact Nat.le_of_ble_eq_true rfl); (case kn => exact sub_cons (by k_mem) (sub_cons (by k_mem) (sub_cons (by k_mem) nil_sub)))); intro x9 d9 k9 h9 tk9 F9 N9 off9; (try dsimp only); (try k_fold)))
local macro_rules | `(tactic| walk_at "call builtin:len") => `(tactic| (k_here; (with_reducible show wpAny _ _ (call (Value.builtin "len") [Value.ref _]) _ _ _); k_dflt (refine len_tuple (newS (by k_asm) (by k_mem)) (by assumption) ?_)))
local macro_rules | `(tactic| walk_at "subscriptTail") => `(tactic| (k_here; (with_reducible show wpAny _ _ (subscriptTail _ (Expr.Slice (some _) _ _ _) (Value.ref _) (Value.ref _)) _ _ _); (with_reducible rename Fr _ _ _ _ => F'); (with_reducible rename News _ _ _ _ => N'); k_dflt (refine' slice_last (s := ⟨_, _, _, _, _⟩) F' N' ?m ?a ?b ?c ?d ?_; (case m => k_mem); (case c => assumption); (case d => assumption); (case a => assumption); (case b => assumption)); intro t9 h9 F9 N9; (try dsimp only)))
theorem name_ne {w : World} {h₀ h : Heap} {L x d t : Addr} {k : Tok} {vs : List Value} {l : List (Addr × Obj)} (N : PyProof.Rows.News h₀ L h ((x, instObj 112 d) :: (d, labD w k t) :: (t, tup vs) :: l)) : x ≠ d ∧ t ≠ d := by
  have n1 : h.get? x = some (instObj 112 d) := (N _ (.head _)).1
  have n2 : h.get? d = some (labD w k t) := (N _ (.tail _ (.head _))).1
  have n3 : h.get? t = some (tup vs) := (N _ (.tail _ (.tail _ (.head _)))).1
  refine ⟨fun e => ?_, fun e => ?_⟩
  · rw [e, n2] at n1
    have := congrArg Obj.cls (Option.some.inj n1)
    cases this
  · rw [e, n2] at n3
    have := congrArg Obj.cls (Option.some.inj n3)
    simp at this
theorem all_cons {d t : Addr} {o : Obj} {l : List (Addr × Obj)} (h : t ≠ d) (off : LCg.Off1 d l) : ∀ p ∈ (t, o) :: l, p.1 ≠ d := fun p hp => by
  rcases List.mem_cons.mp hp with rfl | hp
  · exact h
  · exact off1_mem off p hp
local macro_rules | `(tactic| k_all) => `(tactic| first | assumption | fail "no")
local macro_rules | `(tactic| walk_at "call ref") => `(tactic| (k_here; (with_reducible show wpAny _ _ (call (Value.ref 112) [Value.str _ _]) _ _ _); k_dflt (refine' (new_text _ _ _ ?ha ?hb ?hc).useN ?k1 ?k2 ?k3 ?k4 ?k5 ?kK ?kn ?kd ?ku ?_; (case k1 => k_asm); (case k2 => k_asm); (case k3 => k_asm); (case k4 => k_asm); (case k5 => k_asm); (case kK => exact rfl); (case kd => exact Nat.le_of_ble_eq_true rfl); (case ku => exact Nat.le_of_ble_eq_true rfl); (case kn => exact nil_sub); (case ha => assumption); (case hb => assumption); (case hc => assumption)); intro x9 d9 t9 k9 vs9 h9 tk9 F9 N9 off9 hv9; (have hn9 := name_ne N9); (obtain ⟨hn8, hn7⟩ := hn9); (have ha9 := all_cons (o := tup vs9) hn7 off9.2.1); (try dsimp only); (try k_fold)))
theorem len_words {prog : Program} {w : World} {A : Around} {E : Value → Shared → Prop} {s : Shared} {h₀ : Heap} {L t : Addr} {news : List (Addr × Obj)} {vs : List Value} {ws : List (Array UInt8)} {Q : Value → Shared → Prop} (N : News h₀ L s.heap news) (hm : (t, tup vs) ∈ news) (hv : BytesAre vs ws) (hz : ws.length ≤ 8) (h : ∀ t tk, Q (.int ((ws.length : Nat) : Int) t) { s with toks := tk }) : wpAny (model prog w) A (call (.builtin "len") [.ref t]) Q E s := by
  refine len_tuple (newS N hm) (by rw [List.size_toArray, hv.length]; omega) ?_
  rw [List.size_toArray, hv.length]
  exact h _ _
theorem truth_words {prog : Program} {w : World} {A : Around} {E : Value → Shared → Prop} {s : Shared} {h₀ : Heap} {L t : Addr} {news : List (Addr × Obj)} {vs : List Value} {ws : List (Array UInt8)} {Q : Bool → Shared → Prop} (N : News h₀ L s.heap news) (hm : (t, tup vs) ∈ news) (hv : BytesAre vs ws) (hz : ws.length ≤ 8) (hne : ws ≠ []) (h : ∀ tk, Q true { s with toks := tk }) : wpAny (model prog w) A (truthy (.ref t)) Q E s := by
  refine truthy_tuple (newS N hm) (by rw [List.size_toArray, hv.length]; omega) ?_
  have e : (!vs.toArray.isEmpty) = true := by
    have := hv.length
    have h2 : ws.length ≠ 0 := fun q => hne (List.length_eq_zero_iff.mp q)
    simp only [Bool.not_eq_true', List.isEmpty_toArray]
    cases vs with
    | nil => simp at this; exact absurd this.symm h2
    | cons _ _ => rfl
  rw [e]
  exact h _
theorem BytesAre.app : ∀ {vs vs2 : List Value} {ws ws2 : List (Array UInt8)}, BytesAre vs ws → BytesAre vs2 ws2 → BytesAre (vs ++ vs2) (ws ++ ws2)
  | [], _, [], _, _, h => h
  | _ :: _, _, _ :: _, _, h, h2 => ⟨h.1, BytesAre.app h.2 h2⟩
  | [], _, _ :: _, _, h, _ => h.elim
  | _ :: _, _, [], _, h, _ => h.elim
local macro_rules | `(tactic| walk_at "call builtin:len") => `(tactic| (k_here; (with_reducible show wpAny _ _ (call (Value.builtin "len") [Value.ref _]) _ _ _); k_dflt (refine' len_words ?N ?m ?v ?z ?_; (case N => k_asm); (case m => k_mem); (case v => assumption); (case z => assumption)); intro _ _))
local macro_rules | `(tactic| walk_at "truthy ref") => `(tactic| (k_here; k_dflt (refine' truth_words ?N ?m ?v ?z ?e ?_; (case N => k_asm); (case m => k_mem); (case v => assumption); (case z => assumption); (case e => assumption)); intro _))
local macro_rules | `(tactic| walk_at "inplaceOp Add ref ref") => `(tactic| (k_here; k_dflt (refine' iadd_words ?F ?N ?m ?n ?v ?u ?a ?b ?c ?d ?_; (case F => k_asm); (case N => k_asm); (case m => k_mem); (case n => k_mem); (case v => assumption); (case u => assumption); (case a => assumption); (case b => assumption); (case c => assumption); (case d => assumption)); intro D' h' F' N' l1; (have m9 := l1); (try k_lt l1)))
theorem eqs_ctr (w : World) (x d t : Addr) (k u : Tok) (vs : List Value) (ws ws2 : List (Array UInt8)) (hv : BytesAre vs ws) (hw : ∀ b ∈ ws, b.size ≤ sizeLine) (hz : ws.length ≤ 8) (hne : ws2 ≠ []) (hw2 : ∀ b ∈ ws2, WordOk b) (hz2 : ws2.length ≤ 4) :
    Ctr w 960 9500 (.ref 102) [.ref x, .str (strL (textL ws2)) u] [(x, instObj 112 d), (d, labD w k t), (t, tup vs)] (fun r nl => nl = [] ∧ r = .bool (decide (ws.map lowL = ws2.map lowL))) := by
  intro mean mg mb gd cn cs a ccd cl outer A₀ base h₀ L m news s Q E hk B F X N T need hret
  obtain ⟨kd, nm, ig, ic, mo⟩ := cs
  obtain rfl : kd = .function := hk
  refine wpAny_call ?_
  k_dflt k_enter
  rename_i gN LN hN FGN FN NN BN XN TN
  replace NN := need_in NN need
  simp only [List.cons_append, List.nil_append] at NN
  have hws2 : ∀ b ∈ ws2, b.size ≤ sizeLine := fun b hb => (hw2 b hb).size
  have hzz : ws2.length ≤ 8 := by omega
  k_steps
  refine' hret _ [] _ _ ?hF ?hN nl_nil ⟨rfl, rfl⟩
  case hF => k_asm
  case hN => exact News.of_sub (by assumption) (by ((repeat (refine sub_cons (by k_mem) ?_)); (repeat (first | exact sub_here | refine sub_skip ?_))))
theorem mss_ctr (w : World) (x d t : Addr) (k u : Tok) (vs : List Value) (ws ws2 : List (Array UInt8)) (hv : BytesAre vs ws) (hw : ∀ b ∈ ws, b.size ≤ sizeLine) (hz : ws.length ≤ 8) (hne : ws2 ≠ []) (hw2 : ∀ b ∈ ws2, WordOk b) (hz2 : ws2.length ≤ 4) (hz3 : ws2.length ≤ ws.length) :
    Ctr w 960 9500 (.ref 61) [.ref x, .str (strL (textL ws2)) u] [(x, instObj 112 d), (d, labD w k t), (t, tup vs)] (fun r nl => nl = [] ∧ r = .bool (decide ((ws.drop (ws.length - ws2.length)).map lowL = ws2.map lowL))) := by
  intro mean mg mb gd cn cs a ccd cl outer A₀ base h₀ L m news s Q E hk B F X N T need hret
  obtain ⟨kd, nm, ig, ic, mo⟩ := cs
  obtain rfl : kd = .function := hk
  refine wpAny_call ?_
  k_dflt k_enter
  rename_i gN LN hN FGN FN NN BN XN TN
  replace NN := need_in NN need
  simp only [List.cons_append, List.nil_append] at NN
  have hlen : vs.length = ws.length := hv.length
  have hws2 : ∀ b ∈ ws2, b.size ≤ sizeLine := fun b hb => (hw2 b hb).size
  have hzz : ws2.length ≤ 8 := by omega
  have hzs : vs.length ≤ sizeLine := by rw [hlen]; exact Nat.le_trans hz (by decide)
  have hj : ws2.length ≤ vs.length := by omega
  have hvd : BytesAre (vs.drop (vs.length - ws2.length)) (ws.drop (ws.length - ws2.length)) := by rw [hlen]; exact hv.drop _
  have hwd : ∀ b ∈ ws.drop (ws.length - ws2.length), b.size ≤ sizeLine := fun b hb => hw b (List.mem_of_mem_drop hb)
  have hzd : (ws.drop (ws.length - ws2.length)).length ≤ 8 := by rw [List.length_drop]; omega
  have h0 : 0 < ws2.length := List.length_pos_iff.mpr hne
  have ek : -((ws2.length : Nat) : Int) = -(ws2.length : Int) := rfl
  k_steps
  refine' hret _ [] _ _ ?hF ?hN nl_nil ⟨rfl, rfl⟩
  case hF => k_asm
  case hN => exact News.of_sub (by assumption) (by ((repeat (refine sub_cons (by k_mem) ?_)); (repeat (first | exact sub_here | refine sub_skip ?_))))
theorem add_ctr (w : World) (x d t : Addr) (k u : Tok) (vs : List Value) (ws ws2 : List (Array UInt8)) (hv : BytesAre vs ws) (hw : ∀ b ∈ ws, b.size ≤ sizeLine) (hz : ws.length ≤ 8) (h0 : ws ≠ []) (hne : ws2 ≠ []) (hw2 : ∀ b ∈ ws2, WordOk b) (hz2 : ws2.length ≤ 4) :
    Ctr w 960 9500 (.ref 47) [.ref x, .str (strL (textL ws2)) u] [(x, instObj 112 d), (d, labD w k t), (t, tup vs)] (NameR w (ws2 ++ ws)) := by
  intro mean mg mb gd cn cs a ccd cl outer A₀ base h₀ L m news s Q E hk B F X N T need hret
  obtain ⟨kd, nm, ig, ic, mo⟩ := cs
  obtain rfl : kd = .function := hk
  refine wpAny_call ?_
  k_dflt k_enter
  rename_i gN LN hN FGN FN NN BN XN TN
  replace NN := need_in NN need
  simp only [List.cons_append, List.nil_append] at NN
  have hzz : ws2.length ≤ 8 := by omega
  k_steps
  refine' name_backG hret ?F ?N ?mx ?md ?mt ?sb ?ot ?ox ?od (BytesAre.app ?h9 hv)
  case F => k_asm
  case N => k_asm
  case mx => k_mem
  case md => k_mem
  case mt => k_mem
  case h9 => assumption
  case sb => ((repeat (refine sub_cons (by k_mem) ?_)); (repeat (first | exact sub_here | refine sub_skip ?_)))
  case ot => exact off1_mem (lt_sub (by assumption) (by ((repeat (refine sub_cons (by k_mem) ?_)); (repeat (first | exact sub_here | refine sub_skip ?_)))))
  case ox => exact off1_mem (off1_sub (And.left (by assumption)) (by ((repeat (refine sub_cons (by k_mem) ?_)); (repeat (first | exact sub_here | refine sub_skip ?_)))))
  case od => exact off1_mem (off1_sub (And.left (And.right (by assumption))) (by ((repeat (refine sub_cons (by k_mem) ?_)); (repeat (first | exact sub_here | refine sub_skip ?_)))))
end Mine

end
section
open PySem PySem.W PyProof.Rows PySem.Calls
set_option Elab.async false
set_option maxRecDepth 100000
set_option maxHeartbeats 8000000
namespace Mine
open PySem.Builtin PySem.Builtin.Bytes
namespace BL
section
variable {prog : Program} {w : World} {A : Around} {E : Value → Shared → Prop} {s : Shared} {b : Array UInt8} {t : Tok}
theorem join_m {M : Model} {pl : Sem Bool} {Q : Value × List Value → Shared → Prop} (h : Q (.builtin "bytes.join", [.bytes b t]) s) : wpAny M A (getMethod (.bytes b t) (Str.ofString "join") pl) Q E s :=
  by with_reducible exact KBd.method_of (.bytes b t) (typeIs_bytes _ _ _) slot_join type_join KBd.noRef h
theorem take_b {id : String} : takeBufferQuiet? id (.bytes b t) 0 = pure (some (b, none)) := by
  have e : ((0 : Int) == fullReadOnly) = false := by decide +kernel
  unfold takeBufferQuiet? takeBuffer?
  rw [KBy.special_eq KBy.look_buffer, KBy.own_buffer]
  simp only [pure_bind, e]
  rw [KBy.buffer_eq]
  rfl
/-- the items joined by a point, as the model's loop makes them -/
theorem joined_go : ∀ (ws : List (Array UInt8)) (k : Nat) (acc : Array UInt8), 0 < k → (ws.zipIdx k).foldl (fun out (x : Array UInt8 × Nat) => (if x.2 > 0 then out ++ #[46] else out) ++ x.1) acc = acc ++ (ws.flatMap fun b => 46 :: b.toList).toArray
  | [], _, acc, _ => by simp
  | b :: ws, k, acc, hk => by
    rw [List.zipIdx_cons, List.foldl_cons, joined_go ws (k + 1) _ (by omega)]
    rw [if_pos (show k > 0 from hk)]
    apply Array.toList_inj.mp
    simp
theorem glued_flat : ∀ (b : Array UInt8) (ws : List (Array UInt8)), gluedD ((b :: ws).map Array.toList) = b.toList ++ ws.flatMap fun b => 46 :: b.toList
  | b, [] => by simp [gluedD]
  | b, c :: ws => by
    rw [List.map_cons, glued_cons (w := b.toList) (r := (c :: ws).map Array.toList) (by simp), glued_flat c ws]
    simp
theorem joined_eq (ws : List (Array UInt8)) : Bytes.joined #[46] ws = (gluedD (ws.map Array.toList)).toArray := by
  cases ws with
  | nil => rfl
  | cons b ws =>
    unfold Bytes.joined
    rw [List.zipIdx_cons, List.foldl_cons, glued_flat]
    have := joined_go ws 1 b (by decide)
    simp only [Nat.zero_add] at this ⊢
    rw [if_neg (by decide)]
    rw [show (#[] ++ b : Array UInt8) = b by simp]
    refine Eq.trans this ?_
    apply Array.toList_inj.mp
    simp
theorem letGo_nil {M : Model} {A : Around} {E : Value → Shared → Prop} {s : Shared} {Q : Unit → Shared → Prop} : ∀ (l : List Value) (keep : List Value), Q () s → wpAny M A (joinLetGo (l.map fun v => (v, none)) keep) Q E s
  | [], _, h => wpAny_pure h
  | v :: l, keep, h => by
    show wpAny _ _ (letGo [v] _ >>= fun _ => joinLetGo (l.map fun v => (v, none)) keep) _ _ _
    exact wpAny_bind (wpAny_letGo (letGo_nil l keep h))
theorem size_sum : ∀ (ws : List (Array UInt8)) (a : Nat), (∀ b ∈ ws, b.size ≤ 4) → ws.foldl (fun x1 x2 => x1 + x2.size) a ≤ a + 4 * ws.length
  | [], a, _ => by simp
  | b :: ws, a, h => by
    have h1 := h b (.head _)
    have h2 := size_sum ws (a + b.size) fun c hc => h c (.tail _ hc)
    simp only [List.foldl_cons, List.length_cons]
    omega
theorem join_c {it : Addr} {vs : List Value} {ws : List (Array UInt8)} {n : Nat} {o : Obj} {T : String} {Q : Value → Shared → Prop} (ho : s.heap.get? it = some o) (hd : o.data = .seq vs.toArray n) (hc : o.cls = .type T) (hT : T = "list" ∨ T = "tuple") (hv : BytesAre vs ws) (hne : ws ≠ []) (hw : ∀ b ∈ ws, b.size ≤ 4) (hl : ws.length ≤ 4)
    (hz : (gluedD (ws.map Array.toList)).length ≤ sizeLine) (h : ∀ t tk, Q (.bytes (gluedD (ws.map Array.toList)).toArray t) { s with toks := tk }) : wpAny (model prog w) A (call (.builtin "bytes.join") [.bytes #[46] t, .ref it]) Q E s := by
  refine call_meets slot_join (typeIs_bytes _ _ _) entry_join (args_join _ _) (S := fun _ R s => s.heap.get? it = some o ∧ ∀ t tk, R (.ok (.ret (.bytes (gluedD (ws.map Array.toList)).toArray t))) { s with toks := tk }) (.of_wp fun prog w A R s hS => ?_) ⟨ho, h⟩
  obtain ⟨ho, hS⟩ := hS
  unfold Builtin.«bytes.join» joinM
  show wpAny _ _ (joinItems (.ref it) >>= _) _ _ _
  refine wpAny_bind ?_
  unfold joinItems
  refine wpAny_bind (wpAny_typeOf (T := T) ⟨o, ho, hc⟩ ?_)
  have hb : (Value.type T == .type "list" || Value.type T == .type "tuple") = true := by
    rcases hT with rfl | rfl <;> decide +kernel
  rw [if_pos hb]
  refine wpAny_pure ?_
  refine wpAny_bind (wpAny_seqItems ho hd ?_)
  have hlen := hv.length
  match vs, ws, hv, hne, hlen with
  | [], [], _, hne, _ => exact absurd rfl hne
  | [v], [b], hv, _, _ =>
    obtain ⟨⟨u, rfl⟩, _⟩ := hv
    show wpAny _ _ (typeOf (.bytes b u) >>= _) _ _ _
    refine wpAny_bind (wpAny_typeOf (typeIs_bytes _ _ _) ?_)
    rw [if_pos (by decide +kernel)]
    refine wpAny_bind (wpAny_rule (wpAny_pure ⟨_, rfl, ?_⟩))
    have := hS u s.toks
    have e : (gluedD ([b].map Array.toList)).toArray = b := by simp [gluedD]
    rw [e] at this
    exact this
  | v1 :: v2 :: vr, w1 :: w2 :: wr, hv, _, hlen =>
    dsimp only
    rw [if_pos (by decide)]
    show wpAny _ _ (forIn [:(v1 :: v2 :: vr).toArray.size] _ _ >>= _) _ _ _
    generalize hvs : v1 :: v2 :: vr = vs at *
    generalize hws : w1 :: w2 :: wr = ws at *
    refine wpAny_bind ?_
    simp only [Std.Legacy.Range.forIn_eq_forIn_range']
    have hn : ([:vs.toArray.size] : Std.Legacy.Range).size = vs.length := by simp [Std.Legacy.Range.size]
    rw [hn]
    refine wpAny_forIn_list _ (fun rest st s' => s' = s ∧ ∃ i, rest = List.range' i (vs.length - i) ∧ i ≤ vs.length ∧ st.1.toList = ws.take i ∧ st.2 = (vs.take i).map fun v => (v, none)) _ ?_ ?_ _ _ ⟨rfl, 0, rfl, Nat.zero_le _, rfl, rfl⟩
    · rintro i0 rest ⟨parts, taken⟩ s' ⟨rfl, i, hr, hi, h1, h2⟩
      have hlt : i < vs.length := by
        rcases Nat.lt_or_ge i vs.length with q | q
        · exact q
        · rw [Nat.sub_eq_zero_of_le q] at hr
          cases hr
      obtain ⟨m, hm⟩ : ∃ m, vs.length - i = m + 1 := ⟨vs.length - i - 1, by omega⟩
      rw [hm, List.range'_succ] at hr
      injection hr with hr1 hr2
      subst hr1
      obtain ⟨b, hb, u, hu⟩ := hv.get (List.getElem?_eq_getElem hlt)
      have hget : vs.toArray.getD i0 Value.none = .bytes b u := by
        simp [Array.getD, hlt, hu]
      have hany : (taken.any fun x => x.1.onHeap) = false := by
        dsimp only at h2
        rw [h2, List.any_map, List.any_eq_false]
        intro v hvm
        obtain ⟨j, hj⟩ := List.getElem?_of_mem (List.mem_of_mem_take hvm)
        obtain ⟨b', _, u', rfl⟩ := hv.get hj
        exact Bool.false_ne_true
      refine wpAny_bind (wpAny_seqItems ho hd ?_)
      dsimp only
      rw [hget, hany]
      rw [if_neg (by decide : ¬ ((Kind.bytes == Kind.bytearray || false) = true))]
      refine wpAny_bind (wpAny_holding ?_)
      rw [take_b]
      refine wpAny_pure ?_
      dsimp only
      refine wpAny_bind (wpAny_seqItems ho hd ?_)
      dsimp only
      rw [if_neg (by simp)]
      refine wpAny_pure ⟨rfl, i0 + 1, ?_, by omega, ?_, ?_⟩
      · rw [hr2, show vs.length - (i0 + 1) = m by omega]
      · dsimp only at h1 ⊢
        rw [Array.toList_push, h1, take_snoc hb]
      · dsimp only at h2 ⊢
        rw [h2, take_snoc (List.getElem?_eq_getElem hlt), hu]
        simp
    · rintro ⟨parts, taken⟩ s' ⟨rfl, i, hr, hi, h1, h2⟩
      have hil : i = vs.length := by
        rcases Nat.lt_or_ge i vs.length with q | q
        · obtain ⟨m, hm⟩ : ∃ m, vs.length - i = m + 1 := ⟨vs.length - i - 1, by omega⟩
          rw [hm, List.range'_succ] at hr
          cases hr
        · omega
      subst hil
      dsimp only at h1 h2
      rw [hlen, List.take_length] at h1
      rw [List.take_length] at h2
      have hp : parts = ws.toArray := by rw [← h1]
      subst hp
      subst h2
      dsimp only
      refine wpAny_bind (wpAny_of_eq (a := #[46]) rfl ?_)
      have hs := size_sum ws (1 * (ws.length - 1)) hw
      have hfold : Array.foldl (fun x1 x2 => x1 + x2.size) ((#[46] : Array UInt8).size * (ws.toArray.size - 1)) ws.toArray = ws.foldl (fun x1 x2 => x1 + x2.size) (1 * (ws.length - 1)) := by simp
      have htl : tooLong (Array.foldl (fun x1 x2 => x1 + x2.size) ((#[46] : Array UInt8).size * (ws.toArray.size - 1)) ws.toArray) = false := by
        refine KBy.tooLong_not ?_
        rw [hfold]
        omega
      rw [htl, if_neg Bool.false_ne_true, joined_eq]
      refine wpAny_bind (wp_mkBytes (by simpa using hz) ?_)
      refine wpAny_bind (wpAny_holding (wpAny_point ?_))
      refine wpAny_bind (letGo_nil _ _ ?_)
      exact wpAny_pure ⟨_, rfl, hS _ _⟩
end
end BL
end Mine

end
section
open PySem PySem.W PyProof.Rows PySem.Calls
set_option Elab.async false
set_option maxRecDepth 100000
set_option maxHeartbeats 8000000
namespace Mine
example : True := by w_top off; trivial
set_option maxHeartbeats 2000000
open PyProof.Rows.LCg
local macro_rules | `(tactic| k_mem) => `(tactic| first | (with_reducible assumption) | (with_reducible exact List.mem_cons_self) | (with_reducible refine List.mem_cons_of_mem _ ?_; k_mem) | fail "no")
local macro_rules | `(tactic| k_all) => `(tactic| first | exact ne_lt4 (by assumption) | exact ne_lt4 (And.right (by assumption)) | exact ne_lt4 (And.right (And.right (by assumption))) | exact ne_lt1 (by assumption) | exact ne_lt2 (by assumption) | exact ne_lt3 (by assumption) | exact ne_lt3 (And.right (by assumption)) | exact ne_lt3 (And.right (And.right (by assumption))) | exact ne_lt3 (And.right (And.right (And.right (by assumption)))) | fail "no")
theorem join_tup {prog : Program} {w : World} {A : Around} {E : Value → Shared → Prop} {s : Shared} {h₀ : Heap} {L it : Addr} {news : List (Addr × Obj)} {u : Tok} {vs : List Value} {ws : List (Array UInt8)} {Q : Value → Shared → Prop} (N : News h₀ L s.heap news) (hm : (it, tup vs) ∈ news) (hv : BytesAre vs ws) (hne : ws ≠ []) (hw : ∀ b ∈ ws, b.size ≤ 4) (hl : ws.length ≤ 4) (hz : (BL.gluedD (ws.map Array.toList)).length ≤ sizeLine)
    (h : ∀ t tk, Q (.bytes (BL.gluedD (ws.map Array.toList)).toArray t) { s with toks := tk }) : wpAny (model prog w) A (call (.builtin "bytes.join") [.bytes #[46] u, .ref it]) Q E s := BL.join_c (N _ hm).1 rfl rfl (.inr rfl) hv hne hw hl hz h
theorem join_lst {prog : Program} {w : World} {A : Around} {E : Value → Shared → Prop} {s : Shared} {h₀ : Heap} {L it : Addr} {news : List (Addr × Obj)} {u : Tok} {vs : List Value} {n : Nat} {ws : List (Array UInt8)} {Q : Value → Shared → Prop} (N : News h₀ L s.heap news) (hm : (it, listOf vs.toArray n) ∈ news) (hv : BytesAre vs ws) (hne : ws ≠ []) (hw : ∀ b ∈ ws, b.size ≤ 4) (hl : ws.length ≤ 4) (hz : (BL.gluedD (ws.map Array.toList)).length ≤ sizeLine)
    (h : ∀ t tk, Q (.bytes (BL.gluedD (ws.map Array.toList)).toArray t) { s with toks := tk }) : wpAny (model prog w) A (call (.builtin "bytes.join") [.bytes #[46] u, .ref it]) Q E s := BL.join_c (N _ hm).1 rfl rfl (.inl rfl) hv hne hw hl hz h
theorem glued_size : ∀ (ws : List (Array UInt8)), (∀ b ∈ ws, b.size ≤ 4) → (BL.gluedD (ws.map Array.toList)).length ≤ 5 * ws.length
  | [], _ => by simp [BL.gluedD]
  | [b], h => by
    have := h b (.head _)
    simp [BL.gluedD]; omega
  | b :: c :: r, h => by
    have h1 := h b (.head _)
    have h2 := glued_size (c :: r) fun d hd => h d (.tail _ hd)
    rw [List.map_cons, glued_cons (w := b.toList) (r := (c :: r).map Array.toList) (by simp)]
    simp only [List.length_append, List.length_cons, Array.length_toList] at h2 ⊢
    omega
theorem len_glued {prog : Program} {w : World} {A : Around} {E : Value → Shared → Prop} {s : Shared} {l : List UInt8} {u : Tok} {Q : Value → Shared → Prop} (hz : l.length ≤ 1000) (h : ∀ t tk, Q (.int ((l.length : Nat) : Int) t) { s with toks := tk }) : wpAny (model prog w) A (call (.builtin "len") [.bytes l.toArray u]) Q E s := by
  refine W.len_bytes (by simp; omega) ?_
  have := fun t tk => h t tk
  simpa using this _ _
local macro_rules | `(tactic| walk_at "getMethod bytes") => `(tactic| (k_here; (with_reducible show wpAny _ _ (getMethod (Value.bytes _ _) (Str.ofString "join") _) _ _ _); k_dflt (refine BL.join_m ?_)))
local macro_rules | `(tactic| walk_at "call builtin:bytes.join") => `(tactic| (k_here; k_dflt (refine' join_tup ?N ?m ?v ?a ?b ?c ?d ?_; (case N => k_asm); (case m => k_mem); (case v => assumption); (case a => assumption); (case b => assumption); (case c => assumption); (case d => assumption)); intro _ _))
local macro_rules | `(tactic| walk_at "call builtin:len") => `(tactic| (k_here; (with_reducible show wpAny _ _ (call (Value.builtin "len") [Value.bytes (List.toArray _) _]) _ _ _); k_dflt (refine' len_glued ?z ?_; (case z => assumption)); intro _ _))
theorem len_ctr (w : World) (x d t : Addr) (k : Tok) (vs : List Value) (ws : List (Array UInt8)) (hv : BytesAre vs ws) (hw : ∀ b ∈ ws, WordOk b) (hz : ws.length ≤ 4) (h0 : ws ≠ []) :
    Ctr w 980 9700 (.ref 109) [.ref x] [(x, instObj 112 d), (d, labD w k t), (t, tup vs)] (fun r nl => nl = [] ∧ ∃ t, r = .int ((BL.gluedD (ws.map Array.toList)).length : Int) t) := by
  intro mean mg mb gd cn cs a ccd cl outer A₀ base h₀ L m news s Q E hk B F X N T need hret
  obtain ⟨kd, nm, ig, ic, mo⟩ := cs
  obtain rfl : kd = .function := hk
  refine wpAny_call ?_
  k_dflt k_enter
  rename_i gN LN hN FGN FN NN BN XN TN
  replace NN := need_in NN need
  simp only [List.cons_append, List.nil_append] at NN
  have hw4 : ∀ b ∈ ws, b.size ≤ 4 := fun b hb => (word_bytes (hw b hb)).2.1
  have hg : (BL.gluedD (ws.map Array.toList)).length ≤ sizeLine := by have := glued_size ws hw4; rw [sizeLine_eq]; omega
  have hg2 : (BL.gluedD (ws.map Array.toList)).length ≤ 1000 := by have := glued_size ws hw4; omega
  k_steps
  refine' hret _ [] _ _ ?hF ?hN nl_nil ⟨rfl, _, rfl⟩
  case hF => k_asm
  case hN => exact News.of_sub (by assumption) (by ((repeat (refine sub_cons (by k_mem) ?_)); (repeat (first | exact sub_here | refine sub_skip ?_))))
end Mine

end
section
open PySem PySem.W PyProof.Rows PySem.Calls
set_option Elab.async false
set_option maxRecDepth 100000
set_option maxHeartbeats 8000000
namespace Mine
example : True := by w_top off; trivial
local macro_rules | `(tactic| walk_at "no such goal") => `(tactic| fail "no")
local macro_rules | `(tactic| walk_at "no such goal") => `(tactic| fail "no")
local macro_rules | `(tactic| walk_at "no such goal") => `(tactic| fail "no")
local macro_rules | `(tactic| walk_at "no such goal") => `(tactic| fail "no")
set_option maxHeartbeats 2000000
open PyProof.Rows.LCg
local macro_rules | `(tactic| k_mem) => `(tactic| first | (with_reducible assumption) | (with_reducible exact List.mem_cons_self) | (with_reducible refine List.mem_cons_of_mem _ ?_; k_mem) | fail "no")
local macro_rules | `(tactic| k_all) => `(tactic| first | exact ne_lt4 (by assumption) | exact ne_lt4 (And.right (by assumption)) | exact ne_lt4 (And.right (And.right (by assumption))) | exact ne_lt1 (by assumption) | exact ne_lt2 (by assumption) | exact ne_lt3 (by assumption) | exact ne_lt3 (And.right (by assumption)) | exact ne_lt3 (And.right (And.right (by assumption))) | exact ne_lt3 (And.right (And.right (And.right (by assumption)))) | fail "no")
theorem first_word {prog : Program} {w : World} {A : Around} {E : Value → Shared → Prop} {s : Shared} {h₀ : Heap} {L l : Addr} {news : List (Addr × Obj)} {u : Tok} {vs : List Value} {p : Array UInt8} {ps : List (Array UInt8)} {Q : Value → Shared → Prop} {value slice : Expr} (N : News h₀ L s.heap news) (hm : (l, tup vs) ∈ news) (hv : BytesAre vs (p :: ps)) (h : ∀ t, Q (.bytes p t) s)
    (hs : subscripted slice false (.ref l) (.int 0 u) = operate [.ref l, .int 0 u] (getItem (.ref l) (.int 0 u)) := by with_unfolding_all rfl) :
    wpAny (model prog w) A (subscriptTail value slice (.ref l) (.int 0 u)) Q E s := by
  cases vs with
  | nil => exact hv.elim
  | cons v vs =>
    obtain ⟨⟨t, rfl⟩, _⟩ := hv
    refine BL.item_v N hm (by decide) (by decide) (j := 0) ?_ rfl (h t) hs
    unfold seqIndex?
    simp
theorem len16a {vs : List Value} {ws : List (Array UInt8)} (h : BytesAre vs ws) (hz : ws.length ≤ 8) : vs.length ≤ 16384 := by rw [h.length]; omega
local macro_rules | `(tactic| walk_at "call builtin:len") => `(tactic| (k_here; (with_reducible show wpAny _ _ (call (Value.builtin "len") [Value.ref _]) _ _ _); k_dflt (refine' len_words ?N ?m ?v ?z ?_; (case N => k_asm); (case m => k_mem); (case v => assumption); (case z => assumption)); intro _ _))
local macro_rules | `(tactic| walk_at "getMethod bytes") => `(tactic| (k_here; (with_reducible show wpAny _ _ (getMethod (Value.bytes _ _) (Str.ofString "lower") _) _ _ _); k_dflt (refine BL.lower_m ?_)))
local macro_rules | `(tactic| walk_at "call builtin:bytes.lower") => `(tactic| (k_here; k_dflt (refine BL.lower_c (by assumption) ?_)))
local macro_rules | `(tactic| walk_at "call type:reversed") => `(tactic| (k_here; (with_reducible show wpAny _ _ (call (Value.type "reversed") [Value.ref _]) _ _ _); k_dflt (refine' BL.rev_led ?F ?N ?m ?z ?_; (case F => k_asm); (case N => k_asm); (case m => k_mem); (case z => exact len16a (by assumption) (by assumption))); intro D' h' tk' F' N' l1; (have m1 := l1); (try k_lt l1)))
local macro_rules | `(tactic| walk_at "exec If") => `(tactic| (k_here; (with_reducible show wpAny _ _ (exec (Stmt.If (Expr.BoolOp _ _ _) _ _ _) _) _ _ _); (with_reducible rename Mark => mk'); clear mk'; refine hold ?_))
local macro_rules | `(tactic| walk_at "exec For Tuple Call cons nil") => `(tactic| (k_here; k_dflt (refine For_turns (m := ?_) (by k_asm) ?_)))
local macro_rules | `(tactic| walk_at "call ref") => `(tactic| (k_here; (with_reducible show wpAny _ _ (call (Value.ref 112) [Value.str _ _]) _ _ _); k_dflt (refine' (new_text _ _ _ ?ha ?hb ?hc).useN ?k1 ?k2 ?k3 ?k4 ?k5 ?kK ?kn ?kd ?ku ?_; (case k1 => k_asm); (case k2 => k_asm); (case k3 => k_asm); (case k4 => k_asm); (case k5 => k_asm); (case kK => exact rfl); (case kd => exact Nat.le_of_ble_eq_true rfl); (case ku => exact Nat.le_of_ble_eq_true rfl); (case kn => exact nil_sub); (case ha => assumption); (case hb => assumption); (case hc => assumption)); intro x9 d9 t9 k9 vs9 h9 tk9 F9 N9 off9 hv9; (have hn9 := name_ne N9); (obtain ⟨hn8, hn7⟩ := hn9); (have ha9 := all_cons (o := tup vs9) hn7 off9.2.1); (try dsimp only); (try k_fold)))
local macro_rules | `(tactic| k_all) => `(tactic| first | assumption | fail "no")
local macro_rules | `(tactic| walk_at "subscriptTail") => `(tactic| (k_here; (with_reducible show wpAny _ _ (subscriptTail _ _ (Value.ref _) (Value.int 0 _)) _ _ _); k_dflt (refine' first_word ?N ?m ?a ?_; (case N => k_asm); (case m => k_mem); (case a => assumption)); intro _))
theorem mws_ctr (w : World) (x d t : Addr) (k u : Tok) (vs : List Value) (ws : List (Array UInt8)) (p0 : Array UInt8) (ps : List (Array UInt8)) (hv : BytesAre vs ws) (hw : ∀ b ∈ ws, b.size ≤ sizeLine) (hw2 : ∀ b ∈ p0 :: ps, WordOk b) (hz : ws.length ≤ 4) (hz2 : (p0 :: ps).length ≤ ws.length) :
    Ctr w 960 9500 (.ref 54) [.ref x, .str (strL (textL (p0 :: ps))) u] [(x, instObj 112 d), (d, labD w k t), (t, tup vs)] (fun r nl => nl = [] ∧ r = .bool (fitsB ws p0 ps)) := by
  intro mean mg mb gd cn cs a ccd cl outer A₀ base h₀ L m news s Q E hk B F X N T need hret
  obtain ⟨kd, nm, ig, ic, mo⟩ := cs
  obtain rfl : kd = .function := hk
  refine wpAny_call ?_
  k_dflt k_enter
  rename_i gN LN hN FGN FN NN BN XN TN
  replace NN := need_in NN need
  simp only [List.cons_append, List.nil_append] at NN
  have hlen : vs.length = ws.length := hv.length
  have hne : p0 :: ps ≠ [] := by simp
  have hz4 : (p0 :: ps).length ≤ 4 := by omega
  have hz8 : (p0 :: ps).length ≤ 8 := by omega
  have hw8 : ws.length ≤ 8 := by omega
  refine wpAny_execs_cons ?_
  have mk : Mark := trivial
  k_steps
  refine held ?_
  rename BytesAre _ (p0 :: ps) => hv2'
  refine cut (by k_asm) (by k_asm) (fun f => (f = .ret (.bool false) ∧ (isStar p0 || ws.length == ps.length + 1) = false) ∨ (f = .next ∧ (isStar p0 || ws.length == ps.length + 1) = true)) ?_ ?_
  · intro E1
    k_steps
    · rename_i h1 h2
      refine CutEnd.intro (by k_asm) (by k_asm) (.inl ⟨rfl, ?_⟩)
      simp only [List.length_cons] at h2
      simp only [isStar, Bool.or_eq_false_iff, beq_eq_false_iff_ne, ne_eq]
      refine ⟨by simpa using (by assumption : (p0.toList != #[42].toList) = true), by omega⟩
    · rename_i h1 h2
      refine CutEnd.intro (by k_asm) (by k_asm) (.inr ⟨rfl, ?_⟩)
      simp only [List.length_cons] at h2
      simp only [isStar, Bool.or_eq_true, beq_iff_eq]
      right
      omega
    · rename_i h1
      refine CutEnd.intro (by k_asm) (by k_asm) (.inr ⟨rfl, ?_⟩)
      simp only [isStar, Bool.or_eq_true, beq_iff_eq]
      left
      simpa using (by assumption : (p0.toList != #[42].toList) = false)
  · rintro f h8 tk8 (⟨rfl, hc⟩ | ⟨rfl, hc⟩) F8 N8
    · dsimp only
      k_steps
      refine' hret _ [] _ _ ?hF ?hN nl_nil ⟨rfl, ?_⟩
      case hF => k_asm
      case hN => exact News.of_sub (by assumption) (by ((repeat (refine sub_cons (by k_mem) ?_)); (repeat (first | exact sub_here | refine sub_skip ?_))))
      unfold fitsB; rw [hc]; rfl
    · dsimp only
      have hz1 := len16a hv hw8
      have hz3 := len16a hv2' hz8
      have hlen2 := hv2'.length
      k_steps
      refine' BL.zip_led rfl rfl rfl rfl ?zF ?zN ?zl1 ?zl2 ?zt1 ?zt2 hz1 hz3 (fun i _ => ((hitsL (p0 :: ps) ws).take i).all id = true) ?z0 ?zs ?zd
      case zF => k_asm
      case zl1 => assumption
      case zl2 => assumption
      case zN => k_asm
      case zt1 => k_mem
      case zt2 => k_mem
      case z0 => rfl
      case zs =>
        intro i xv yv m₁ own h tk hi hx hy hJ F9 N9
        obtain ⟨b, hb, tb, rfl⟩ := hv.get hx
        obtain ⟨p, hp, tp, rfl⟩ := hv2'.get hy
        have hbz : b.size ≤ sizeLine := hw b (List.mem_of_getElem? hb)
        have hpz : p.size ≤ sizeLine := (hw2 p (List.mem_of_getElem? hp)).size
        rw [hlen] at hb
        rw [hlen2] at hp
        have hil : i < min ws.length (ps.length + 1) := by simpa [hlen, hlen2] using hi
        have hit : (hitsL (p0 :: ps) ws)[i]? = some (hitB p b) := by
          unfold hitsL
          rw [List.getElem?_map, List.getElem?_zip_eq_some (z := (p, b)) |>.mpr ⟨?_, ?_⟩]
          rfl
          · rw [List.getElem?_reverse (by simp; omega)]; exact hp
          · rw [List.getElem?_reverse (by omega)]; exact hb
        have hnx : ((hitsL (p0 :: ps) ws).take (i + 1)).all id = hitB p b := by
          rw [take_snoc hit, List.all_append, hJ]
          simp
        k_steps
        · dsimp only [BL.TurnZ]
          k_steps
          refine' hret _ [] _ _ ?hF ?hN nl_nil ⟨rfl, ?_⟩
          case hF => k_asm
          case hN => exact News.of_sub (by assumption) fun p hp => List.mem_append_right _ (.tail _ (.tail _ (.tail _ (.tail _ (.tail _ (.tail _ hp))))))
          rw [hit_no (by assumption) (by assumption)] at hit
          unfold fitsB; rw [all_no hit, Bool.and_false]
        · exact BL.TurnZ.next (by k_asm) (by k_asm) (hnx.trans (hit_low (by assumption)))
        · exact BL.TurnZ.next (by k_asm) (by k_asm) (hnx.trans (hit_star (by assumption)))
      case zd =>
        intro m₁ h tk hJ F9 N9
        k_steps
        refine' hret _ [] _ _ ?hF ?hN nl_nil ⟨rfl, ?_⟩
        case hF => k_asm
        case hN => exact News.of_sub (by assumption) (by ((repeat (refine sub_cons (by k_mem) ?_)); (repeat (first | exact sub_here | refine sub_skip ?_))))
        rw [hlen, hlen2] at hJ
        have hall : ((hitsL (p0 :: ps) ws).take (min ws.length (p0 :: ps).length)) = hitsL (p0 :: ps) ws := List.take_of_length_le (by
          unfold hitsL
          rw [List.length_map, List.length_zip, List.length_reverse, List.length_reverse, List.length_cons]
          omega)
        rw [hall] at hJ
        unfold fitsB; rw [hc, hJ]; rfl
end Mine

end
section
open PySem PySem.W PyProof.Rows PySem.Calls
set_option Elab.async false
set_option maxRecDepth 100000
set_option maxHeartbeats 8000000
namespace Mine
open PySem.Spec
theorem no_decoder {i : String} {args : Args} (h : PySem.Builtin.Bytes.decodersThatHold.contains i = false) : decoder (.builtin i args) = false := h
section
variable {prog : Program} {w : World} {A : Around} {E : Value → Shared → Prop} {s : Shared}
theorem codeN_builtin {id : String} {args : Args} {b : Builtin} {R : Result → Shared → Prop} (hb : entryFor table id = some b)
    (h : wpN (model prog w) (A.under (.builtin id args)) (b args)
      (fun fin s' => match fin with | .done f => R (.ok f) s' | .again c' => c'.quiet = true ∧ decoder c' = false ∧ codeN (model prog w) A c' R s') (fun e s' => R (.error e) s') s) :
    codeN (model prog w) A (.builtin id args) R s := by
  refine codeN_of_tree ?_
  show wpN _ _ (match entryFor table id with | some b => b args | none => unsupported ((withoutEnding? id "#data").getD id)) _ _ s
  rw [hb]; exact h
theorem callN_type {T newId initId : String} {args : List Value} {Q Q₁ : Value → Shared → Prop} (ft : TypeCalled T newId initId)
    (hct : checkTypeCall T ⟨args, []⟩ = pure ())
    (hnew : codeAny (model prog w) A.in1 (.call (.builtin newId) ⟨.type T :: args, []⟩) (wants Q₁ E) s)
    (hnext : ∀ obj s₁, Q₁ obj s₁ → s₁.TypeIs obj T ∧ wpN (model prog w) A.in1 (callSpecial? obj "__init__" args []) (fun r s₂ => r = some .none ∧ Q obj s₂) E s₁) :
    wpN (model prog w) A (call (.type T) args) Q E s := by
  obtain ⟨c, tl, hmro⟩ := ft.mro
  have hmade := ft.made
  have hsub := ft.sub
  refine wpN_call (codeN_of_tree ?_)
  show wpN _ _ (callAny (.type T) _) _ _ _
  refine wpN_pure ⟨Code.quiet_builtin _ (by decide +kernel), no_decoder (by decide +kernel), codeN_builtin F.entry_type_call ?_⟩
  rw [Around.under_plain (weight_type_call_type T args []) rfl]
  have h1 := ft.notType
  have h2 := ft.canCreate
  unfold Builtin.«type.__call__»
  dsimp only
  rw [if_neg (by rw [h1]; exact Bool.false_ne_true)]
  rw [if_neg (by rw [h2]; exact Bool.false_ne_true), hct]
  refine wpN_bind (wpN_pure ?_)
  rw [hmro]
  refine wpN_bind (wpN_pure ?_)
  rw [if_neg (by exact Bool.false_ne_true), hmade]
  refine wpN_bind (wpN_pure ?_)
  dsimp only
  refine wpN_bind (wpN_pure ?_)
  refine wpN_step (wpAny_holding (wpAny_call (codeAny_mono hnew fun r s₁ hr => ?_)))
  cases r with
  | error e => exact hr
  | ok fl =>
    cases fl with
    | ret obj =>
      obtain ⟨hT, hn⟩ := hnext _ _ hr
      dsimp only
      refine wpN_step (wpAny_isInstance hT hsub ?_)
      rw [if_neg (by decide)]
      refine wpN_bind (wpN_holding (wpN_mono hn (fun r s₂ hq => ?_) fun _ _ e => e))
      obtain ⟨rfl, hq⟩ := hq
      dsimp only
      rw [if_neg (by decide)]
      exact wpN_pure hq
    | _ => exact hr.elim
end
end Mine

end
section
open PySem PySem.W PyProof.Rows PySem.Calls
set_option Elab.async false
set_option maxRecDepth 100000
set_option maxHeartbeats 8000000
namespace Mine
open PySem.Spec
namespace BA
theorem mro : mroOf (.type "bytearray") = pure [.type "bytearray", .type "object"] := by rw [mroOf_type]; kernel_rfl
theorem look_new : typeLookup (.type "bytearray") "__new__" = pure (some (.builtin "bytearray.__new__")) := by rw [typeLookup_type, builtinLookup_eq_fast]; kernel_rfl
theorem slot_init : Slot "bytearray" "__init__" "bytearray.__init__" := .of (owner := "bytearray") (n := "__init__") (by rw [typeLookup_type, builtinLookup_eq_fast]; kernel_rfl) (by decide +kernel) (by decide +kernel) (by decide +kernel)
  (by first | exact .inl (by decide +kernel) | exact .inr (by decide +kernel)) (by rw [isSubtype_type]; kernel_rfl)
theorem called : TypeCalled "bytearray" "bytearray.__new__" "bytearray.__init__" :=
  ⟨by decide +kernel, by decide +kernel, ⟨_, _, mro⟩, madeBy_type mro look_new (by decide +kernel), by decide +kernel, by rw [isSubtype_type]; kernel_rfl, slot_init⟩
theorem typeCall (a : Value) : checkTypeCall "bytearray" ⟨[a], []⟩ = pure () := by kernel_rfl
theorem newCall (a : Value) : checkBuiltinCall "bytearray.__new__" ⟨[.type "bytearray", a], []⟩ = pure () := by kernel_rfl
theorem initArgs (o a : Value) : argsOk "bytearray.__init__" ⟨[o, a], []⟩ := by unfold argsOk; kernel_rfl
theorem entry_new : entryFor table "bytearray.__new__" = some Builtin.«list.__new__» := entryFor_alias (id' := "list.__new__") (by kernel_rfl) (by decide +kernel) (by decide +kernel) (by kernel_rfl)
theorem entry_init : entryFor table "bytearray.__init__" = some Builtin.«bytearray.__init__» := by first | exact entryFor_of_fast (by kernel_rfl) | exact entryFor_of_tree (by kernel_rfl)
theorem plain_new : plainId "bytearray.__new__" = true := by decide +kernel
theorem plain_init : plainId "bytearray.__init__" = true := by decide +kernel
theorem sub_self : isSubtype (.type "bytearray") (.type "bytearray") = pure true := by rw [isSubtype_type]; kernel_rfl
theorem look_release : typeLookup (.type "bytearray") "__release_buffer__" = pure (some (.builtin "bytearray.__release_buffer__")) := by rw [typeLookup_type, builtinLookup_eq_fast]; kernel_rfl
theorem look_buffer : typeLookup (.type "bytearray") "__buffer__" = pure (some (.builtin "bytearray.__buffer__")) := by rw [typeLookup_type, builtinLookup_eq_fast]; kernel_rfl
theorem noIndex : typeLookup (.type "bytes") "__index__" = pure none := by rw [typeLookup_type, builtinLookup_eq_fast]; kernel_rfl
set_option maxRecDepth 1000000 in
set_option maxHeartbeats 4000000 in
theorem owner_new : ("bytearray.__new__".splitOn ".__new__").headD "" = "bytearray" := by simp +decide [String.splitOn, String.splitOnAux]
theorem bind (v : Value) : Builtin.Bytes.bindOptional "bytearray.__init__" "bytearray" ["source", "encoding", "errors"] [v] [] = pure [some v, none, none] := by kernel_rfl
section
variable {prog : Program} {w : World} {A : Around} {E : Value → Shared → Prop} {s : Shared}
theorem code_new (a : Value) {Q₁ : Value → Shared → Prop}
    (h : Q₁ (.ref s.heap.objs.size) { s with heap := s.heap.push { cls := .type "bytearray", data := .bytearray #[] } }) :
    codeAny (model prog w) A (.call (.builtin "bytearray.__new__") ⟨[.type "bytearray", a], []⟩) (wants Q₁ E) s := by
  refine codeAny_of_tree ?_
  show wpAny _ A.in1 (do checkBuiltinCall "bytearray.__new__" ⟨[.type "bytearray", a], []⟩; again (.builtin "bytearray.__new__" ⟨[.type "bytearray", a], []⟩)) _ _ s
  refine wpAny_bind (wpAny_of_eq (newCall a) (wpAny_pure ⟨plainId_quiet plain_new _, codeAny_builtin_stack entry_new rfl fun p st => ?_⟩))
  rw [Around.under_plainId plain_new _]
  have hsub := sub_self
  have hown := owner_new
  obtain ⟨hp, g, d, tk, os⟩ := s
  simp only [hown]
  wp_walk
  exact h
theorem wpAny_updBa {M : Model} {a : Addr} {cl : Value} {d : Option Addr} {b : Array UInt8} {n : Nat} {sl} {f : Array UInt8 → Array UInt8} {Q : Unit → Shared → Prop}
    (ho : s.heap.get? a = some ⟨cl, d, .bytearray b n, sl⟩) (hz : (f b).size ≤ sizeLine)
    (h : Q () { s with heap := s.heap.update a (Obj.mapBytearray f) }) : wpAny M A (updateBytearray a f) Q E s := by
  unfold updateBytearray
  refine wpAny_bind (wpAny_load ho ?_)
  dsimp only
  refine wpAny_bind (wpAny_update ho ?_)
  refine wpAny_lookBehind (o := Obj.mapBytearray f ⟨cl, d, .bytearray b n, sl⟩) (Heap.get?_update_self _ ho rfl) ?_ h
  show (if (f b).size > sizeLine then some "bytearray:memory" else none) = none
  exact if_neg (Nat.not_lt.mpr hz)
end
end BA
end Mine

end
section
open PySem PySem.W PyProof.Rows PySem.Calls
set_option Elab.async false
set_option maxRecDepth 100000
set_option maxHeartbeats 8000000
namespace Mine
open PySem.Spec PySem.Builtin
section
variable {M : Model} {A : Around} {E : Value → Shared → Prop} {s : Shared}
theorem callN_slot {self : Value} {T : String} {name : Str} {id : String} {args : List Value} {kw : List (Str × Value)}
    {Q : Option Value → Shared → Prop} (hT : s.TypeIs self T) (h : Slot T name id)
    (hc : wpN M A (call (.builtin id) (self :: args) kw) (fun v => Q (some v)) E s) : wpN M A (callSpecial? self name args kw) Q E s := by
  simp only [callSpecial?]
  refine wpN_step (wpAny_specialOf hT h.lookup ?_)
  simp only [h.bind]
  exact wpN_holding (wpN_bind (wpN_pure (wpN_bind (wpN_mono hc (fun v s' h' => wpN_pure h') fun _ _ h' => h'))))
end
section
variable {prog : Program} {w : World} {A : Around} {E : Value → Shared → Prop} {s : Shared}
theorem callN_entry {T : String} {name : Str} {id : String} {b : Builtin} {self : Value} {rest : List Value} {Q : Value → Shared → Prop} (h : Slot T name id) (hT : s.TypeIs self T)
    (hb : entryFor table id = some b) (hd : PySem.Builtin.Bytes.decodersThatHold.contains id = false)
    (hc : wpN (model prog w) A.in1 (b ⟨self :: rest, []⟩) (fun fin s' => ∃ v, fin = .done (.ret v) ∧ Q v s') E s)
    (ha : argsOk id ⟨self :: rest, []⟩ := by rfl) :
    wpN (model prog w) A (call (.builtin id) (self :: rest)) Q E s := by
  refine wpN_call (codeN_of_tree ?_)
  show wpN _ A.in1 (do checkBuiltinCall id ⟨self :: rest, []⟩; again (.builtin id ⟨self :: rest, []⟩)) _ _ s
  refine wpN_step (h.check _ _ _ _ _ _ _ _ hT ha (wpN_pure ⟨plainId_quiet h.plain _, no_decoder hd, codeN_builtin hb ?_⟩))
  rw [Around.under_plainId h.plain _]
  refine wpN_mono hc (fun fin s' h' => ?_) fun _ _ h' => h'
  obtain ⟨v, rfl, hv⟩ := h'; exact hv
end
namespace BA
section
variable {M : Model} {A : Around} {E : Value → Shared → Prop} {s : Shared}
theorem not_exported {v : Value} {Q : Bool → Shared → Prop} (hg : A.guards = some []) (h : Q false s) : wpN M A (PySem.Builtin.Bytes.exported v) Q E s := by
  unfold PySem.Builtin.Bytes.exported
  refine wpN_stackAny hg ?_ (fun c hc => absurd hc (List.not_mem_nil)) h
  intro c p hgd hd
  cases c <;> try rfl
  rename_i id args
  split
  · rename_i e
    simp only [Prod.mk.injEq, Code.builtin.injEq] at e
    have hgd' : guardIds.contains id = false := hgd
    rw [e.1.1] at hgd'
    exact absurd hgd' (by decide +kernel)
  · rename_i e
    simp only [Prod.mk.injEq, Code.builtin.injEq] at e
    have hgd' : guardIds.contains id = false := hgd
    rw [e.1.1] at hgd'
    exact absurd hgd' (by decide +kernel)
  · rename_i e
    simp only [Prod.mk.injEq, Code.builtin.injEq] at e
    have hgd' : guardIds.contains id = false := hgd
    rw [e.1.1] at hgd'
    exact absurd hgd' (by decide +kernel)
  · rename_i e
    simp only [Prod.mk.injEq, Code.builtin.injEq] at e
    have hgd' : guardIds.contains id = false := hgd
    rw [e.1.1] at hgd'
    exact absurd hgd' (by decide +kernel)
  · rename_i e
    simp only [Prod.mk.injEq, Code.builtin.injEq] at e
    have hgd' : guardIds.contains id = false := hgd
    rw [e.1.1] at hgd'
    exact absurd hgd' (by decide +kernel)
  · rename_i e
    simp only [Prod.mk.injEq, Code.builtin.injEq] at e
    have hd' : PySem.Builtin.Bytes.decodersThatHold.contains id = false := hd
    rw [← e.1.1, hd', Bool.and_false]
  · rfl
theorem not_own {v : Value} {Q : Bool → Shared → Prop} (hT : s.TypeIs v "bytearray") (h : Q false s) : wpAny M A (PySem.Builtin.Bytes.ownRelease v) Q E s := by
  have key : ∀ x : String, x = "bytearray" → wpAny M A (isInstance v (.type x)) (fun b s' => b = true ∧ s' = s) E s := fun x hx => by rw [hx]; exact wpAny_isInstance hT sub_self ⟨rfl, rfl⟩
  unfold PySem.Builtin.Bytes.ownRelease PySem.Builtin.Bytes.slotIsOwn
  refine wpAny_bind (wpAny_bind (wpAny_specialOf hT look_release ?_))
  dsimp only
  split
  · rename_i hx
    exact absurd hx (by decide +kernel)
  · refine wpAny_mono (key _ (by decide +kernel)) ?_ fun _ _ x => x
    rintro b s' ⟨rfl, rfl⟩
    exact wpAny_pure h
theorem buffer_full {id : String} {b : Array UInt8} {t : Tok} : Bytes.buffer? id (.bytes b t) true = pure (some b) := by
  unfold Bytes.buffer?
  rw [KBy.special_eq KBy.look_buffer, KBy.own_buffer, KBy.own_release]
  kernel_rfl
theorem init {prog : Program} {w : World} {x : Addr} {b : Array UInt8} {t : Tok} {Q : Fin → Shared → Prop} (hg : A.guards = some [])
    (hx : s.heap.get? x = some { cls := .type "bytearray", data := .bytearray #[] }) (hb : b.size ≤ sizeLine)
    (h : ∀ h', (∀ y, y ≠ x → h'.get? y = s.heap.get? y) → h'.get? x = some { cls := .type "bytearray", data := .bytearray b } → h' = (s.heap.update x (Obj.mapBytearray fun _ => #[])).update x (Obj.mapBytearray fun _ => b) → Q (.done (.ret .none)) { s with heap := h' }) :
    wpN (model prog w) A («bytearray.__init__» ⟨[.ref x, .bytes b t], []⟩) Q E s := by
  have hT : s.TypeIs (.ref x) "bytearray" := ⟨_, hx, rfl⟩
  unfold «bytearray.__init__»
  dsimp only
  refine wpN_step (not_own hT ?_)
  rw [if_neg (by exact Bool.false_ne_true)]
  rw [bind]
  refine wpN_bind (wpN_pure ?_)
  dsimp only
  refine wpN_bind (wpN_pure ?_)
  refine wpN_bind (wpN_pure ?_)
  refine wpN_bind (wpN_bind (not_exported hg ?_))
  rw [if_neg (by exact Bool.false_ne_true)]
  refine wpN_step (wpAny_bind (wpAny_load hx ?_))
  dsimp only
  refine wpAny_pure (wpN_pure ?_)
  rw [if_neg (by decide)]
  show wpN _ _ (updateBytearray x (fun _ => #[]) >>= fun _ => _) _ _ _
  refine wpN_step (wpAny_updBa hx (Nat.zero_le _) ?_)
  have hx2 : (s.heap.update x (Obj.mapBytearray fun _ => #[])).get? x = some { cls := .type "bytearray", data := .bytearray #[] } := Heap.get?_update_self _ hx rfl
  refine wpN_bind (wpN_pure ?_)
  rw [if_neg (by decide)]
  rw [if_neg (by decide)]
  refine wpN_bind (wpN_pure ?_)
  rw [KBy.special_eq noIndex]
  refine wpN_bind (wpN_pure ?_)
  rw [if_neg (by decide)]
  rw [buffer_full]
  refine wpN_bind (wpN_pure ?_)
  dsimp only
  refine wpN_bind (wpN_of (wpAny_rule ?_))
  show wpN _ _ (updateBytearray x (fun _ => b) >>= fun _ => _) _ _ _
  refine wpN_step (wpAny_updBa hx2 hb ?_)
  refine wpN_pure (h _ (fun y hy => ?_) (Heap.get?_update_self _ hx2 rfl) rfl)
  exact (Heap.get?_update_other _ _ (Ne.symm hy)).trans (Heap.get?_update_other _ _ (Ne.symm hy))
end
end BA
end Mine

end
section
open PySem PySem.W PyProof.Rows PySem.Calls
set_option Elab.async false
set_option maxRecDepth 100000
set_option maxHeartbeats 8000000
namespace Mine
open PySem.Spec PySem.Builtin
namespace BA
def obj (b : Array UInt8) : Obj := { cls := .type "bytearray", data := .bytearray b }
theorem modify_push {α : Type} (xs : Array α) (x : α) (f : α → α) : (xs.push x).modify xs.size f = xs.push (f x) := by
  apply Array.ext
  · simp
  · intro i h1 h2
    rw [Array.getElem_modify]
    rw [Array.getElem_push, Array.getElem_push]
    simp at h1
    split
    · rename_i e; subst e; simp
    · rename_i e; rw [dif_pos (by omega), dif_pos (by omega)]
theorem pushed {h h' : Heap} {b : Array UInt8} (e : h' = (((h.push (obj #[])).update h.objs.size (Obj.mapBytearray fun _ => #[])).update h.objs.size (Obj.mapBytearray fun _ => b))) : h' = h.push (obj b) := by
  subst e
  obtain ⟨objs, l⟩ := h
  show Heap.mk (((objs.push _).modify objs.size _).modify objs.size _) l = ⟨objs.push _, l⟩
  rw [modify_push, modify_push]
  rfl
theorem made {prog : Program} {w : World} {A : Around} {E : Value → Shared → Prop} {s : Shared} {b : Array UInt8} {t : Tok} {Q : Value → Shared → Prop} (hg : A.guards = some []) (hb : b.size ≤ sizeLine)
    (h : Q (.ref s.heap.objs.size) { s with heap := s.heap.push (obj b) }) : wpN (model prog w) A (call (.type "bytearray") [.bytes b t]) Q E s := by
  refine Mine.callN_type called (typeCall _) (code_new _ (Q₁ := fun v s' => v = .ref s.heap.objs.size ∧ s' = { s with heap := s.heap.push (obj #[]) }) ⟨rfl, rfl⟩) ?_
  rintro o s₁ ⟨rfl, rfl⟩
  have hx : (s.heap.push (obj #[])).get? s.heap.objs.size = some (obj #[]) := Heap.get?_push_size _ rfl
  refine ⟨⟨_, hx, rfl⟩, callN_slot ⟨_, hx, rfl⟩ slot_init (callN_entry slot_init ⟨_, hx, rfl⟩ entry_init (by decide +kernel) (init hg hx hb ?_) (initArgs _ _))⟩
  intro h' _ _ e
  exact ⟨_, rfl, rfl, by rw [pushed e]; exact h⟩
end BA
end Mine

end
section
open PySem PySem.W PyProof.Rows PySem.Calls
set_option Elab.async false
set_option maxRecDepth 100000
set_option maxHeartbeats 8000000
namespace Mine
open PySem.Spec PySem.Builtin PyProof.Rows.LCg
namespace BA
theorem slot_next : Slot "bytearray_iterator" "__next__" "bytearray_iterator.__next__" :=
  .of (owner := "bytearray_iterator") (n := "__next__") (by rw [typeLookup_type, builtinLookup_eq_fast]; kernel_rfl) (by decide +kernel) (by decide +kernel) (by decide +kernel)
    (by first | exact .inl (by decide +kernel) | exact .inr (by decide +kernel)) (by rw [isSubtype_type]; kernel_rfl)
theorem slot_self : Slot "bytearray_iterator" "__iter__" "bytearray_iterator.__iter__" :=
  .of (owner := "bytearray_iterator") (n := "__iter__") (by rw [typeLookup_type, builtinLookup_eq_fast]; kernel_rfl) (by decide +kernel) (by decide +kernel) (by decide +kernel)
    (by first | exact .inl (by decide +kernel) | exact .inr (by decide +kernel)) (by rw [isSubtype_type]; kernel_rfl)
theorem slot_iter : Slot "bytearray" "__iter__" "bytearray.__iter__" :=
  .of (owner := "bytearray") (n := "__iter__") (by rw [typeLookup_type, builtinLookup_eq_fast]; kernel_rfl) (by decide +kernel) (by decide +kernel) (by decide +kernel)
    (by first | exact .inl (by decide +kernel) | exact .inr (by decide +kernel)) (by rw [isSubtype_type]; kernel_rfl)
theorem entry_next : entryFor table "bytearray_iterator.__next__" = some Builtin.«bytearray_iterator.__next__» := by first | exact entryFor_of_fast (by kernel_rfl) | exact entryFor_of_tree (by kernel_rfl)
theorem entry_self : entryFor table "bytearray_iterator.__iter__" = some Builtin.«dict_keyiterator.__iter__» := entryFor_alias (id' := "dict_keyiterator.__iter__") (by kernel_rfl) rfl (by decide +kernel) (by kernel_rfl)
theorem entry_iter : entryFor table "bytearray.__iter__" = some Builtin.«bytearray.__iter__» := by first | exact entryFor_of_fast (by kernel_rfl) | exact entryFor_of_tree (by kernel_rfl)
theorem args_next (a : Value) : argsOk "bytearray_iterator.__next__" ⟨[a], []⟩ := by unfold argsOk; kernel_rfl
theorem args_self (a : Value) : argsOk "bytearray_iterator.__iter__" ⟨[a], []⟩ := by unfold argsOk; kernel_rfl
theorem args_iter (a : Value) : argsOk "bytearray.__iter__" ⟨[a], []⟩ := by unfold argsOk; kernel_rfl

def IsBa (h : Heap) (l : Addr) (b : Array UInt8) : Prop := ∃ o, h.get? l = some o ∧ o.cls = .type "bytearray" ∧ ∃ n, o.data = .bytearray b n
def IsIter (h : Heap) (a l : Addr) (i : Nat) : Prop := ∃ o, h.get? a = some o ∧ o.cls = .type "bytearray_iterator" ∧ o.data = .fields #[.ref l, .int i 0]
theorem iter_typeIs {s : Shared} {a l : Addr} {i : Nat} (y : IsIter s.heap a l i) : s.TypeIs (.ref a) "bytearray_iterator" := let ⟨o, ho, hc, _⟩ := y; ⟨o, ho, hc⟩
theorem ba_typeIs {s : Shared} {l : Addr} {b : Array UInt8} (y : IsBa s.heap l b) : s.TypeIs (.ref l) "bytearray" := let ⟨o, ho, hc, _⟩ := y; ⟨o, ho, hc⟩
section
variable {prog : Program} {w : World} {A : Around} {E : Value → Shared → Prop} {s : Shared} {b : Array UInt8}
theorem pyIter_ba {l : Addr} {Q : Value → Shared → Prop} (hl : IsBa s.heap l b) (hQ : Q (.ref s.heap.objs.size) { s with heap := s.heap.push { cls := .type "bytearray_iterator", data := .fields #[.ref l, .int 0 0] } }) : wpAny (model prog w) A (pyIter (.ref l)) Q E s := by
  refine wpAny_pyIter_slot (ba_typeIs hl) slot_iter (wpAny_call_entry slot_iter (ba_typeIs hl) entry_iter ?_ (args_iter _))
  show wpAny _ _ (do ret (← newFields "bytearray_iterator" [.ref l, rawInt 0])) _ _ s
  exact wpAny_bind (wpAny_newObj_type (wpAny_pure ⟨_, rfl, "bytearray_iterator", _, ⟨_, Heap.get?_push_size _ rfl, rfl⟩, slot_next.lookup, hQ⟩))
theorem pyIter_self {it l : Addr} {i : Nat} {Q : Value → Shared → Prop} (hit : IsIter s.heap it l i) (h : Q (.ref it) s) : wpAny (model prog w) A (pyIter (.ref it)) Q E s := by
  refine wpAny_pyIter_slot (iter_typeIs hit) slot_self (wpAny_call_entry slot_self (iter_typeIs hit) entry_self ?_ (args_self _))
  show wpAny _ _ (ret (.ref it)) _ _ s
  exact wpAny_pure ⟨_, rfl, "bytearray_iterator", _, iter_typeIs hit, slot_next.lookup, h⟩
theorem next_item {it l : Addr} {i : Nat} {c : UInt8} {Q : Option Value → Shared → Prop} (hit : IsIter s.heap it l i) (hl : IsBa s.heap l b) (hx : b[i]? = some c)
    (hQ : ∀ h', IsIter h' it l (i + 1) → Heap.SameBut it s.heap h' → Q (some (.int (c.toNat : Int) s.toks)) { s with heap := h', toks := s.toks + 1 }) : wpAny (model prog w) A (pyNext (.ref it)) Q E s := by
  obtain ⟨o, ho, hc, hd⟩ := id hit
  obtain ⟨ol, hol, hcl, nl, hdl⟩ := hl
  unfold pyNext
  refine wpAny_bind (wpAny_attempt (wpAny_callSpecial?_slot (name := PySem.Str.ofString "__next__") (iter_typeIs hit) slot_next
    (wpAny_call_entry slot_next (iter_typeIs hit) entry_next ?_ (args_next _))))
  show wpAny _ _ (field (.ref it) 0 >>= _) _ _ s
  refine wpAny_bind (wpAny_field ho hd (x := .ref l) rfl ?_)
  show wpAny _ _ (load l >>= _) _ _ s
  refine wpAny_bind (wpAny_load hol ?_)
  rw [hdl]
  show wpAny _ _ (field (.ref it) 1 >>= _) _ _ s
  refine wpAny_bind (wpAny_field ho hd (x := .int i 0) rfl ?_)
  simp only [Int.toNat_natCast, hx]
  refine wpAny_bind (wpAny_setField ho hd (by simp) (wpAny_bind (wpAny_mkInt (wpAny_pure ⟨_, rfl, wpAny_pure (hQ _ ?_ (Heap.SameBut.update ..))⟩))))
  exact ⟨_, Heap.get?_update_self _ ho (Obj.isFreed_of_fields (Obj.data_mapFields hd _)), (Obj.cls_mapFields ..).trans hc, by
    rw [Obj.data_mapFields hd]; simp [rawInt]⟩
theorem next_end {it l : Addr} {i : Nat} {Q : Option Value → Shared → Prop} (hh : A.handled = none) (hit : IsIter s.heap it l i) (hl : IsBa s.heap l b) (hx : b[i]? = none)
    (hQ : ∀ h', Heap.ExtBut it s.heap h' → Q none { s with heap := h' }) : wpAny (model prog w) A (pyNext (.ref it)) Q E s := by
  obtain ⟨o, ho, hc, hd⟩ := id hit
  obtain ⟨ol, hol, hcl, nl, hdl⟩ := hl
  unfold pyNext
  refine wpAny_bind (wpAny_attempt (wpAny_callSpecial?_slot (name := PySem.Str.ofString "__next__") (iter_typeIs hit) slot_next
    (wpAny_call_entry slot_next (iter_typeIs hit) entry_next ?_ (args_next _))))
  show wpAny _ _ (field (.ref it) 0 >>= _) _ _ s
  refine wpAny_bind (wpAny_field ho hd (x := .ref l) rfl ?_)
  show wpAny _ _ (load l >>= _) _ _ s
  refine wpAny_bind (wpAny_load hol ?_)
  rw [hdl]
  show wpAny _ _ (field (.ref it) 1 >>= _) _ _ s
  refine wpAny_bind (wpAny_field ho hd (x := .int i 0) rfl ?_)
  simp only [Int.toNat_natCast, hx]
  refine wpAny_bind (wpAny_rule (wpAny_bind (wpAny_setField ho hd (by simp) (wpAny_bind (wpAny_letGo ?_)))))
  show wpAny _ _ (newExc (.type "StopIteration") [] >>= _) _ _ _
  refine wpAny_bind ?_
  simp only [newExc, newTuple]
  refine wpAny_bind (wpAny_newObj_type ?_ (by size_fits))
  refine wpAny_bind (m := firstArgMember _ _) (wpAny_of_eq (a := Value.none) (by first | rfl | (simp only [firstArgMember]; rfl)) ?_)
  refine wpAny_newObj_type ?_ (by size_fits)
  simp only [raiseNew]
  refine wpAny_bind (wpAny_handled ?_)
  rw [show A.in1.handled = none from hh]
  refine wpAny_bind (wpAny_pure (wpAny_throw ?_))
  refine wpAny_bind (wpAny_isInstance (T := "StopIteration") (b := true) ⟨_, Heap.get?_push_size _ rfl, rfl⟩ isSubtype_stop ?_)
  exact wpAny_pure (hQ _ (((Heap.SameBut.update ..).extBut.push _).push _))
end
theorem IsBa.at' {h h' : Heap} {l : Addr} {b : Array UInt8} (y : IsBa h l b) (k : ∀ o, h.get? l = some o → h'.get? l = some o) : IsBa h' l b := let ⟨o, ho, r⟩ := y; ⟨o, k o ho, r⟩
theorem walks {prog : Program} {w : World} {A : Around} (hh : A.handled = none) (I l : Addr) (hne : l ≠ I) (b : Array UInt8) :
    Walks prog w A I [I, l] [I] b.size (fun i v => ∃ c u, b[i]? = some c ∧ v = .int (c.toNat : Int) u) (fun i h => IsIter h I l i ∧ IsBa h l b) where
  sub := fun b hb => by simp at hb; simp [hb]
  frame := fun _ _ _ st hk => ⟨let ⟨o, ho, r⟩ := st.1; ⟨o, hk I (by simp) o ho, r⟩, st.2.at' fun o e => hk l (by simp) o e⟩
  item := fun i s Q E hi st hQ => by
    refine next_item st.1 st.2 (c := b[i]) (by simp [hi]) fun h' hit' hs' => ?_
    exact hQ _ h' (s.toks + 1) ⟨_, _, by simp [hi], rfl⟩ ⟨hit', st.2.at' fun o e => hs'.extBut l o hne e⟩ fun b o hb e => hs'.extBut b o (fun h => hb (by simp [h])) e
  done := fun s Q E st hQ => next_end hh st.1 st.2 (by simp) fun h' he' => hQ h' s.toks fun b o hb e => he' b o (fun h => hb (by simp [h])) e
  self := fun _ _ _ _ st hQ => pyIter_self st.1 hQ
/-- a bytearray of the ledger's -/
theorem iter_ba {prog : Program} {w : World} {A : Around} {s : Shared} {h₀ : Heap} {L : Addr} (hh : A.handled = none) {ax : Addr} {b : Array UInt8} {news : List (Addr × Obj)} (N : News h₀ L s.heap news) (S : (ax, obj b) ∈ news) : IterG prog w A h₀ L (fun nw => (ax, obj b) ∈ nw) b.size (fun i v => ∃ c u, b[i]? = some c ∧ v = .int (c.toNat : Int) u) (.ref ax) s := by
  intro Q E h
  have hl : IsBa s.heap ax b := ⟨_, (N _ S).1, rfl, _, rfl⟩
  have hlt : ax < s.heap.objs.size := Heap.lt_size (N _ S).1
  refine pyIter_ba hl ?_
  refine h _ _ _ _ _ (walks hh s.heap.objs.size ax (Nat.ne_of_lt hlt) b) (fun i h st => by obtain ⟨o, e, _⟩ := st.1; exact ⟨o, e⟩) (fun i h h' o nw st e e' k N S => ⟨by obtain ⟨o', q, r⟩ := st.1; rw [e] at q; cases q; exact ⟨o, e', r⟩, ⟨_, (N _ S).1, rfl, _, rfl⟩⟩) ⟨⟨_, Heap.get?_push_size _ rfl, rfl, rfl⟩, hl.at' fun o e => Heap.get?_push_of_some _ e⟩ (fun b hb => ?_) (fun b hb ne => ?_) (fun b o e => Heap.get?_push_of_some _ e) (Nat.le_refl _)
  · show b < (s.heap.push _).objs.size
    rw [Heap.size_push]
    rcases List.mem_cons.mp hb with rfl | hb
    · exact Nat.lt_succ_self _
    · rw [List.mem_singleton.mp hb]; exact Nat.lt_succ_of_lt hlt
  · rcases List.mem_cons.mp hb with rfl | hb
    · exact absurd rfl ne
    · rw [List.mem_singleton.mp hb]
      exact ⟨_, (N _ S).1⟩
theorem srcG_ba {prog : Program} {w : World} {A : Around} {s : Shared} {h₀ : Heap} {L : Addr} {m : Str → Option Value} {env : Env} {elt : Expr} {x : Str} {scope : Scope} {cl : List (Str × Addr)} {Fin : Shared → List Value → List (Addr × Obj) → Prop} {ax : Addr} {b : Array UInt8} {news : List (Addr × Obj)} (hh : A.handled = none) (F : Fr h₀ L s.heap m) (N : News h₀ L s.heap news) (hm : (ax, obj b) ∈ news) (hz : b.size ≤ sizeLine)
    (h : ∀ g tk, CompRest prog w A h₀ L m env elt x scope cl { s with heap := g, toks := tk } (fun nw => (ax, obj b) ∈ nw) (fun i v => ∃ c u, b[i]? = some c ∧ v = .int (c.toNat : Int) u) (Fin { s with heap := g, toks := tk }) b.size 0 [] news) :
    SrcG prog w A h₀ L m env elt x scope cl Fin (.ref ax) s := ⟨_, _, _, news, F, N, hz, hm, iter_ba hh N hm, by rintro s₂ ⟨g, tk, rfl⟩; exact h g tk⟩
end BA
end Mine

end
section
open PySem PySem.W PyProof.Rows PySem.Calls
set_option Elab.async false
set_option maxRecDepth 100000
set_option maxHeartbeats 8000000
namespace Mine
open PySem.Spec PySem.Builtin PyProof.Rows.LCg
namespace BA
theorem sub_bytes_set : isSubtype (.type "bytes") (.type "set") = pure false := by rw [isSubtype_type]; kernel_rfl
theorem sub_bytes_frozenset : isSubtype (.type "bytes") (.type "frozenset") = pure false := by rw [isSubtype_type]; kernel_rfl
theorem sub_ba_set : isSubtype (.type "bytearray") (.type "set") = pure false := by rw [isSubtype_type]; kernel_rfl
theorem sub_ba_frozenset : isSubtype (.type "bytearray") (.type "frozenset") = pure false := by rw [isSubtype_type]; kernel_rfl
theorem entry_inter_loop : entryFor table "frozenset.intersection.loop" = some Builtin.«frozenset.intersection.loop» := by first | exact entryFor_of_fast (by kernel_rfl) | exact entryFor_of_tree (by kernel_rfl)
theorem plain_inter_loop : plainId "frozenset.intersection.loop" = true := by decide +kernel
theorem entry_issubset : entryFor table "set.issubset" = some Builtin.«frozenset.issubset» :=
  entryFor_alias (id' := "frozenset.issubset") (by kernel_rfl) rfl (by decide +kernel) (by kernel_rfl)
/-- the first i of c that l holds -/
def hitI (l : List Int) (c : Array UInt8) (i : Nat) : List Int := ((KBw.bInts c).take i).filter fun k => l.any (· == k)
theorem hit_succ {l : List Int} {c : Array UInt8} {i : Nat} {x : UInt8} (h : c[i]? = some x) : hitI l c (i + 1) = hitI l c i ++ (if l.any (· == (x.toNat : Int)) then [(x.toNat : Int)] else []) := by
  unfold hitI
  rw [List.take_add_one, KBw.ints_get h, List.filter_append]
  congr 1
  simp only [Option.toList_some, List.filter_cons, List.filter_nil]
theorem not_yet {l : List Int} {c : Array UInt8} {i : Nat} {x : UInt8} (hnd : (KBw.bInts c).Nodup) (h : c[i]? = some x) : ((hitI l c i).any (· == (x.toNat : Int))) = false := by
  rw [List.any_eq_false]
  intro y hy e
  have hy' := (List.mem_filter.mp hy).1
  have e' : y = (x.toNat : Int) := by simpa using e
  subst e'
  obtain ⟨j, hj, hje⟩ := List.getElem_of_mem hy'
  rw [List.length_take] at hj
  have hg := KBw.ints_get h
  have hi : i < (KBw.bInts c).length := (List.getElem?_eq_some_iff.mp hg).1
  rw [List.getElem_take] at hje
  have hg' : (KBw.bInts c)[i] = (x.toNat : Int) := (List.getElem?_eq_some_iff.mp hg).2
  have := (List.getElem_inj hnd).mp (hje.trans hg'.symm)
  omega
section
variable {prog : Program} {w : World} {A : Around} {E : Value → Shared → Prop} {s : Shared}
theorem sizeOf_of {a : Addr} {S : Int → Bool} {n : Nat} {Q : Nat → Shared → Prop} (hS : s.heap.SetOf (intKind prog w) a S n) (h : Q n s) : wpAny (model prog w) A (Frozenset.sizeOf a) Q E s := by
  obtain ⟨o, es, ep, t, ho, _, hd, _, _, _, hf, hn⟩ := hS
  unfold Frozenset.sizeOf
  refine wpAny_bind (wpAny_setEntries_of ho hd hf (wpAny_pure ?_))
  rw [hn]; exact h
theorem SetOf_at {h h' : Heap} {a : Addr} {S : Int → Bool} {n : Nat} (hS : h.SetOf (intKind prog w) a S n) (k : ∀ o, h.get? a = some o → h'.get? a = some o) : h'.SetOf (intKind prog w) a S n := by
  obtain ⟨o, es, ep, t, ho, r⟩ := hS
  exact ⟨o, es, ep, t, k o ho, r⟩
theorem inter_loop {R : Result → Shared → Prop} {I S D : Addr} {c : Array UInt8} {t : Tok} (l : List Int) (hh : A.handled = none) (hIS : S ≠ I) (hID : D ≠ I) (hSD : S ≠ D) (hnd : (KBw.bInts c).Nodup) (hc : c.size + 1 < scanBound) :
    ∀ (k i : Nat) (s : Shared), c.size - i = k → i ≤ c.size → KBw.IsBytesIter s.heap I c t i → s.heap.SetOf (intKind prog w) S (fun k => l.any (· == k)) l.length → s.heap.SetOf (intKind prog w) D (fun k => (hitI l c i).any (· == k)) (hitI l c i).length →
      (∀ h' tk j, j ≤ c.size → (l.length ≤ (hitI l c j).length ∨ j = c.size) → h'.SetOf (intKind prog w) S (fun k => l.any (· == k)) l.length → h'.SetOf (intKind prog w) D (fun k => (hitI l c j).any (· == k)) (hitI l c j).length →
        (∀ b o, b ≠ I → b ≠ D → s.heap.get? b = some o → h'.get? b = some o) → R (.ok (.ret .none)) { s with heap := h', toks := tk }) →
      codeAny (model prog w) A (.builtin "frozenset.intersection.loop" ⟨[.ref S, .ref I, .ref D], []⟩) R s := by
  intro k
  induction k with
  | zero =>
    intro i s hk hi hit hS hD hR
    have hin : i = c.size := by omega
    subst hin
    refine codeAny_builtin entry_inter_loop ?_
    rw [Around.under_plainId plain_inter_loop _]
    show wpAny _ A.in1 (pyNext (.ref I) >>= _) _ _ s
    refine wpAny_bind (KBw.next_end hh hit (by simp) fun h' he => ?_)
    show wpAny _ A.in1 (ret Value.none) _ _ _
    exact wpAny_pure (hR h' s.toks c.size (Nat.le_refl _) (.inr rfl) (SetOf_at hS fun o e => he S o hIS e) (SetOf_at hD fun o e => he D o hID e) fun b o hb _ e => he b o hb e)
  | succ k ih =>
    intro i s hk hi hit hS hD hR
    have hlt : i < c.size := by omega
    have hx : c[i]? = some c[i] := by simp [hlt]
    refine codeAny_builtin entry_inter_loop ?_
    rw [Around.under_plainId plain_inter_loop _]
    show wpAny _ A.in1 (pyNext (.ref I) >>= _) _ _ s
    refine wpAny_bind (KBw.next_item hit hx fun h' hit' hs' => ?_)
    have hS1 : h'.SetOf (intKind prog w) S (fun k => l.any (· == k)) l.length := SetOf_at hS fun o e => hs'.extBut S o hIS e
    have hD1 : h'.SetOf (intKind prog w) D (fun k => (hitI l c i).any (· == k)) (hitI l c i).length := SetOf_at hD fun o e => hs'.extBut D o hID e
    show wpAny _ A.in1 (holding [Value.int (c[i].toNat : Int) s.toks] (pyHash (.int (c[i].toNat : Int) s.toks)) >>= _) _ _ _
    refine wpAny_bind (wpAny_holding ((intKind prog w).pyHash (k := (c[i].toNat : Int)) (intKind_is _ _ _ _) ?_))
    refine wpAny_bind (wpAny_holding (wpAny_setFind_of (knd := intKind prog w) (s := { s with heap := h', toks := s.toks + 1 + 1 }) (k := (c[i].toNat : Int)) (intKind_is _ _ _ _) rfl hS1 fun r hr => ?_))
    rw [hr]
    by_cases hm : (l.any (· == (c[i].toNat : Int))) = true
    · rw [if_pos hm]
      have hny := not_yet (l := l) hnd hx
      have hle : (hitI l c i).length ≤ c.size := by
        refine Nat.le_trans (List.length_filter_le _ _) ?_
        rw [List.length_take, KBw.ints_length]; omega
      refine wpAny_bind (wpAny_holding (wpAny_setAddHashed_of (knd := intKind prog w) (s := { s with heap := h', toks := s.toks + 1 + 1 }) (k := (c[i].toNat : Int)) (intKind_is _ _ _ _) rfl hD1 (by omega) fun h2 hsb hD2 => ?_))
      have es : hitI l c (i + 1) = hitI l c i ++ [(c[i].toNat : Int)] := by rw [hit_succ hx, if_pos hm]
      have hD3 : h2.SetOf (intKind prog w) D (fun k => (hitI l c (i + 1)).any (· == k)) (hitI l c (i + 1)).length := by
        refine SetOf_congr hD2 (fun k' => ?_) ?_
        · rw [es, List.any_append]
          simp only [List.any_cons, List.any_nil, Bool.or_false]
          congr 1
          by_cases e : k' = (c[i].toNat : Int)
          · rw [e]; simp
          · rw [decide_eq_false e]; exact (beq_eq_false_iff_ne.mpr (Ne.symm e)).symm
        · rw [if_neg (by rw [hny]; exact Bool.false_ne_true), es]; simp
      have hS3 : h2.SetOf (intKind prog w) S (fun k => l.any (· == k)) l.length := SetOf_at hS1 fun o e => hsb.extBut S o hSD e
      have hk3 : ∀ b o, b ≠ I → b ≠ D → s.heap.get? b = some o → h2.get? b = some o := fun b o hb hd e => hsb.extBut b o hd (hs'.extBut b o hb e)
      refine wpAny_bind (sizeOf_of hD3 ?_)
      refine wpAny_bind (sizeOf_of hS3 ?_)
      by_cases hge : l.length ≤ (hitI l c (i + 1)).length
      · rw [if_pos hge]
        refine wpAny_bind (wpAny_rule ?_)
        show wpAny _ A.in1 (ret Value.none) _ _ _
        exact wpAny_pure (hR h2 _ (i + 1) hlt (.inl hge) hS3 hD3 hk3)
      · rw [if_neg hge]
        refine wpAny_pure ⟨plainId_quiet plain_inter_loop _, ih (i + 1) _ (by omega) hlt ?_ hS3 hD3 fun h4 tk4 j hj hjj hS4 hD4 hk4 => ?_⟩
        · obtain ⟨o, ho, r⟩ := hit'
          exact ⟨o, hsb.extBut I o (Ne.symm hID) ho, r⟩
        · exact hR h4 tk4 j hj hjj hS4 hD4 fun b o hb hd e => hk4 b o hb hd (hk3 b o hb hd e)
    · rw [if_neg hm]
      have es : hitI l c (i + 1) = hitI l c i := by rw [hit_succ hx, if_neg hm]; simp
      refine wpAny_pure ⟨plainId_quiet plain_inter_loop _, ih (i + 1) _ (by omega) hlt hit' hS1 (by rw [es]; exact hD1) fun h4 tk4 j hj hjj hS4 hD4 hk4 => ?_⟩
      exact hR h4 tk4 j hj hjj hS4 hD4 fun b o hb hd e => hk4 b o hb hd (hs'.extBut b o hb e)
end
end BA
end Mine

end
section
open PySem PySem.W PyProof.Rows PySem.Calls
set_option Elab.async false
set_option maxRecDepth 100000
set_option maxHeartbeats 8000000
namespace Mine
open PySem.Spec PySem.Builtin PyProof.Rows.LCg
namespace BA
/-- what set(b) holds, once each -/
def onceI (b : Array UInt8) : List Int := firstMet (fun i => (KBw.bInts b).getD i 0) b.size
section
variable {prog : Program} {w : World} {A : Around} {E : Value → Shared → Prop} {s : Shared}
theorem call_set_ba {l : Addr} {b : Array UInt8} {Q : Value → Shared → Prop}
    (hh : A.handled = none) (hl : IsBa s.heap l b) (hb : b.size + 1 < scanBound)
    (h : ∀ (h' : Heap) (tk : Nat), h'.SetOf (intKind prog w) s.heap.objs.size (fun k' => (onceI b).any (· == k')) (onceI b).length →
      (∀ b o, b < s.heap.objs.size → s.heap.get? b = some o → h'.get? b = some o) → Q (.ref s.heap.objs.size) { s with heap := h', toks := tk }) :
    wpAny (model prog w) A (call (.type "set") [.ref l]) Q E s := by
  obtain ⟨c, tl, hmro⟩ := F.called_set.mro
  have hmade := F.called_set.made
  have hsub := F.called_set.sub
  refine wpAny_call (codeAny_of_tree ?_)
  show wpAny _ _ (callAny (.type "set") _) _ _ _
  refine wpAny_pure ⟨Code.quiet_builtin _ (by decide +kernel), codeAny_builtin F.entry_type_call ?_⟩
  rw [Around.under_plain (weight_type_call_type "set" [.ref l] []) rfl]
  have h1 := F.called_set.notType
  have h2 := F.called_set.canCreate
  have hct := F.typeCall_set_1 (.ref l)
  repeat (any_goals (first | assumption | wp_step))
  refine codeAny_mono (code_set_new_1 (.ref l) (E := E) (Q₁ := fun obj s₁ => ∃ led : Bool, obj = .ref s.heap.objs.size ∧ s₁ = { s with heap := s.heap.push { cls := .type "set", dict := none, data := .set #[] 0 (.fresh 0 0 led) } }) fun led => ⟨led, rfl, rfl⟩) fun r s₁ hr => ?_
  cases r with
  | error e => exact hr
  | ok fl =>
    cases fl with
    | ret ob =>
      obtain ⟨led, rfl, rfl⟩ := hr
      have hS : (s.heap.push { cls := .type "set", dict := none, data := .set #[] 0 (.fresh 0 0 led) }).get? s.heap.objs.size = some { cls := .type "set", dict := none, data := .set #[] 0 (.fresh 0 0 led) } := Heap.get?_push_size _ rfl
      have hT : Shared.TypeIs { s with heap := s.heap.push { cls := .type "set", dict := none, data := .set #[] 0 (.fresh 0 0 led) } } (.ref s.heap.objs.size) "set" := ⟨_, hS, rfl⟩
      have hli := F.called_set.init.lookup
      have hbi := F.called_set.init.bind (.ref s.heap.objs.size)
      repeat (any_goals (first | assumption | wp_step))
      refine codeAny_mono (codeAny_call_builtin (R := wants (fun r s₂ => r = .none ∧ ∃ h' tk, s₂ = { s with heap := h', toks := tk } ∧
          h'.SetOf (intKind prog w) s.heap.objs.size (fun k' => (onceI b).any (· == k')) (onceI b).length ∧
          (∀ b o, b < s.heap.objs.size → s.heap.get? b = some o → h'.get? b = some o)) E) F.called_set.init.plain F.entry_set_init (check_set_init_1 hT ?_)) fun r₂ s₂ hr₂ => ?_
      · have hl1 : IsBa (s.heap.push { cls := .type "set", dict := none, data := .set #[] 0 (.fresh 0 0 led) }) l b := hl.at' fun o e => Heap.get?_push_of_some _ e
        obtain ⟨ol, hol, hcl, nl, hdl⟩ := hl
        obtain ⟨ocls, odict, odata, oslots⟩ := ol
        simp only at hcl hdl
        subst hcl; subst hdl
        have hol' : (s.heap.push { cls := .type "set", dict := none, data := .set #[] 0 (.fresh 0 0 led) }).get? l = some { cls := .type "bytearray", dict := odict, data := .bytearray b nl, slots := oslots } := Heap.get?_push_of_some _ hol
        have hsls := sub_ba_set
        have hslf := sub_ba_frozenset
        have hne : (Value.type "bytearray" == Value.type "dict") = false := by decide
        unfold Builtin.«set.__init__» noKeywords Builtin.Frozenset.updateFrom
        generalize hPI : pyIter = PI
        wp_walk
        subst hPI
        refine pyIter_ba hl1 ?_
        refine wpAny_bind (wpAny_runValue ?_)
        have hlS : l < s.heap.objs.size := Heap.lt_size hol
        have hh3 : A.in1.in1.in1.handled = none := by simp [hh]
        have hneI : l ≠ (s.heap.push { cls := .type "set", dict := none, data := .set #[] 0 (.fresh 0 0 led) }).objs.size := by
          rw [Heap.size_push]; exact Nat.ne_of_lt (Nat.lt_succ_of_lt hlS)
        have hSf : s.heap.objs.size ∉ [(s.heap.push { cls := .type "set", dict := none, data := .set #[] 0 (.fresh 0 0 led) }).objs.size, l] := by
          rw [Heap.size_push]; simp only [List.mem_cons, List.mem_singleton, List.not_mem_nil, or_false, not_or]
          exact ⟨Nat.ne_of_lt (Nat.lt_succ_self _), Nat.ne_of_gt hlS⟩
        have hval : ∀ (i : Nat) (v : Value), (∃ c u, b[i]? = some c ∧ v = .int (c.toNat : Int) u) → ∃ t, v = .int ((fun i => (KBw.bInts b).getD i 0) i) t := by
          rintro i v ⟨c, u, hc, rfl⟩
          refine ⟨u, ?_⟩
          show Value.int _ _ = Value.int ((KBw.bInts b).getD i 0) u
          rw [List.getD_eq_getElem?_getD, KBw.ints_get hc]; rfl
        refine PyProof.Rows.codeAny_set_update_loopS ((walks hh3 _ l hneI b).toS) s.heap.objs.size
          hSf (fun i => (KBw.bInts b).getD i 0) hval hb (b.size - 0) 0 _ (by omega) (Nat.zero_le _)
          ⟨⟨_, Heap.get?_push_size _ rfl, rfl, rfl⟩, (hl1.at' fun o e => Heap.get?_push_of_some _ e)⟩ ?hS0 ?hR
        case hS0 =>
          have hget : ((s.heap.push { cls := .type "set", dict := none, data := .set #[] 0 (.fresh 0 0 led) }).push { cls := .type "bytearray_iterator", data := .fields #[.ref l, .int 0 0] }).get? s.heap.objs.size
              = some { cls := .type "set", dict := none, data := .set #[] 0 (.fresh 0 0 led) } := Heap.get?_push_of_some _ hS
          exact PyProof.Rows.SetOf_congr ((PyProof.Rows.setObjOf_fresh (knd := intKind prog w) led).setOf hget (by unfold scanBound; omega)) (fun _ => rfl) rfl
        case hR =>
          intro s' hm hS'
          obtain ⟨h', g', d', tk', os'⟩ := s'
          have eg : g' = s.gens := hm.gens
          have ed : d' = s.drawn := hm.drawn
          have eo : os' = s.os := hm.os
          subst eg; subst ed; subst eo
          show wpAny _ _ _ _ _ _
          refine wpAny_pure ?_
          show wpAny _ _ (ret Value.none) _ _ _
          refine wpAny_pure ⟨rfl, h', tk', rfl, hS', fun b o hb e => ?_⟩
          have hb1 : b ≠ s.heap.objs.size := Nat.ne_of_lt hb
          have hb2 : b ≠ (s.heap.push { cls := .type "set", dict := none, data := .set #[] 0 (.fresh 0 0 led) }).objs.size := by
            rw [Heap.size_push]; exact Nat.ne_of_lt (Nat.lt_succ_of_lt hb)
          exact hm.heap b o (by simp only [List.mem_cons, List.mem_singleton, List.not_mem_nil, or_false, not_or]; exact ⟨hb1, hb2⟩) (Heap.get?_push_of_some _ (Heap.get?_push_of_some _ e))
      · cases r₂ with
        | error e => exact hr₂
        | ok fl₂ =>
          cases fl₂ with
          | ret r =>
            obtain ⟨rfl, h', tk, rfl, hS', hk'⟩ := hr₂
            repeat (any_goals (first | assumption | wp_step))
            exact h _ _ hS' hk'
          | _ => exact hr₂.elim
    | _ => exact hr.elim
theorem once_mem {b : Array UInt8} {k : Int} : (onceI b).any (· == k) = (KBw.bInts b).any (· == k) := by
  unfold onceI
  rw [firstMet_any]
  congr 1
  apply List.ext_getElem?
  intro i
  rw [List.getElem?_map]
  by_cases hi : i < b.size
  · have hi' : i < (KBw.bInts b).length := by rw [KBw.ints_length]; exact hi
    rw [List.getElem?_range hi]
    simp [List.getD_eq_getElem?_getD, hi']
  · have hi' : ¬ i < (KBw.bInts b).length := by rw [KBw.ints_length]; exact hi
    rw [List.getElem?_eq_none (by simpa using hi), List.getElem?_eq_none (by omega)]
    rfl
theorem firstMet_nodup (val : Nat → Int) : ∀ i, (firstMet val i).Nodup
  | 0 => by rw [firstMet_zero]; exact List.nodup_nil
  | i + 1 => by
    rw [firstMet_succ]; unfold step_dedup
    have ih := firstMet_nodup val i
    split
    · exact ih
    · rename_i h
      rw [List.nodup_append]
      refine ⟨ih, by simp, fun a ha c hc e => h ?_⟩
      rw [List.mem_singleton.mp hc] at e
      exact List.any_eq_true.mpr ⟨a, ha, by simp [e]⟩
theorem call_set_led {h₀ : Heap} {L : Addr} {m : Str → Option Value} {news : List (Addr × Obj)} {l : Addr} {b : Array UInt8} {Q : Value → Shared → Prop} (F : Fr h₀ L s.heap m) (N : News h₀ L s.heap news)
    (hh : A.handled = none) (hl : (l, obj b) ∈ news) (hb : b.size + 1 < scanBound)
    (h : ∀ D o h' (tk : Nat), Fr h₀ L h' m → News h₀ L h' ((D, o) :: news) → (∀ p ∈ news, p.1 < D) →
      o.SetObjOf (intKind prog w) (fun k' => (onceI b).any (· == k')) (onceI b).length → Q (.ref D) { s with heap := h', toks := tk }) :
    wpAny (model prog w) A (call (.type "set") [.ref l]) Q E s := by
  refine call_set_ba hh ⟨_, (N _ hl).1, rfl, _, rfl⟩ hb fun h' tk hS hk => ?_
  obtain ⟨o, ho, hso⟩ := hS.objOf
  obtain ⟨oL, _, _, hL, _⟩ := F.ns
  have hLlt : L < s.heap.objs.size := Heap.lt_size hL
  refine h _ o h' tk ⟨F.ns.at' fun o' e => hk L o' hLlt e, fun b o' e => hk b o' (Heap.lt_size (F.keep b o' e)) (F.keep b o' e), F.above⟩ (fun p hp => ?_) (fun p hp => Heap.lt_size (N p hp).1) hso
  rcases List.mem_cons.mp hp with rfl | hp
  · refine ⟨ho, Nat.ne_of_gt hLlt, ?_⟩
    cases hq : h₀.get? s.heap.objs.size with
    | none => rfl
    | some o' => exact absurd (Heap.lt_size (F.keep _ _ hq)) (Nat.lt_irrefl _)
  · exact ⟨hk _ _ (Heap.lt_size (N p hp).1) (N p hp).1, (N p hp).2.1, (N p hp).2.2⟩
end
end BA
end Mine

end
section
open PySem PySem.W PyProof.Rows PySem.Calls
set_option Elab.async false
set_option maxRecDepth 100000
set_option maxHeartbeats 8000000
namespace Mine
open PySem.Spec PySem.Builtin PyProof.Rows.LCg
namespace BA
section
variable {prog : Program} {w : World} {A : Around} {E : Value → Shared → Prop} {s : Shared}
theorem anySet_no {T : String} {v : Value} {Q : Bool → Shared → Prop} (hT : s.TypeIs v T) (h1 : isSubtype (.type T) (.type "set") = pure false) (h2 : isSubtype (.type T) (.type "frozenset") = pure false) (h : Q false s) : wpAny (model prog w) A (Frozenset.isAnySet v) Q E s := by
  unfold Frozenset.isAnySet
  refine wpAny_bind (wpAny_isInstance hT h1 ?_)
  exact wpAny_isInstance hT h2 h
theorem issubset_m {S : Int → Bool} {n : Nat} {a : Addr} {pl : Sem Bool} {Q : Value × List Value → Shared → Prop} (hS : s.heap.SetOf (intKind prog w) a S n) (h : Q (.builtin "set.issubset", [.ref a]) s) :
    wpAny (model prog w) A (getMethod (.ref a) "issubset" pl) Q E s :=
  getMethod_builtin hS.typeIs F.plainAttrs_set F.slot_set_issubset F.type_set_issubset hS.noDict h
theorem len_le_of : ∀ {l1 l2 : List Int}, l1.Nodup → (∀ k ∈ l1, k ∈ l2) → l1.length ≤ l2.length
  | [], _, _, _ => Nat.zero_le _
  | a :: r, l2, hn, hs => by
    have h1 := hs a (.head _)
    have hn' := List.nodup_cons.mp hn
    have ih := len_le_of (l1 := r) (l2 := l2.erase a) hn'.2 fun k hk => (List.mem_erase_of_ne (a := k) (b := a) (fun e => hn'.1 (by rw [← e]; exact hk))).mpr (hs k (.tail _ hk))
    rw [List.length_erase_of_mem h1] at ih
    have := List.length_pos_of_mem h1
    simp only [List.length_cons]; omega
theorem mem_of_len {l1 l2 : List Int} (hn : l1.Nodup) (hs : ∀ k ∈ l1, k ∈ l2) (e : l1.length = l2.length) : ∀ k ∈ l2, k ∈ l1 := fun k hk => Classical.byContradiction fun hk1 => by
  have := len_le_of (l1 := k :: l1) (l2 := l2) (List.nodup_cons.mpr ⟨hk1, hn⟩) fun x hx => by
    rcases List.mem_cons.mp hx with rfl | hx
    · exact hk
    · exact hs x hx
  simp only [List.length_cons] at this; omega
/-- does c hold all of l? by the number of those that are in both -/
theorem hits_len {l : List Int} {c : Array UInt8} {j : Nat} (hl : l.Nodup) (hnd : (KBw.bInts c).Nodup) (hj : l.length ≤ (hitI l c j).length ∨ j = c.size) :
    ((hitI l c j).length == l.length) = decide (∀ k ∈ l, k ∈ KBw.bInts c) := by
  have hn : (hitI l c j).Nodup := List.Nodup.sublist (List.filter_sublist.trans (List.take_sublist _ _)) hnd
  have hsub : ∀ k ∈ hitI l c j, k ∈ l := fun k hk => by
    have := (List.mem_filter.mp hk).2
    obtain ⟨y, hy, e⟩ := List.any_eq_true.mp this
    have e' : y = k := by simpa using e
    exact e' ▸ hy
  have hle : (hitI l c j).length ≤ l.length := len_le_of hn hsub
  rw [Bool.eq_iff_iff, beq_iff_eq, decide_eq_true_eq]
  constructor
  · intro e k hk
    have := mem_of_len hn hsub e k hk
    exact List.mem_of_mem_take (List.mem_filter.mp this).1
  · intro hall
    rcases hj with hj | rfl
    · omega
    · have hs2 : ∀ k ∈ l, k ∈ hitI l c c.size := fun k hk => by
        refine List.mem_filter.mpr ⟨?_, List.any_eq_true.mpr ⟨k, hk, by simp⟩⟩
        rw [List.take_of_length_le (by rw [KBw.ints_length]; exact Nat.le_refl _)]
        exact hall k hk
      have := len_le_of hl hs2
      omega
theorem call_issubset {h₀ : Heap} {L : Addr} {m : Str → Option Value} {news : List (Addr × Obj)} {l : List Int} {a : Addr} {o : Obj} {c : Array UInt8} {t : Tok} {Q : Value → Shared → Prop} (F₀ : Fr h₀ L s.heap m) (N : News h₀ L s.heap news)
    (hh : A.handled = none) (hm : (a, o) ∈ news) (ho : o.SetObjOf (intKind prog w) (fun k => l.any (· == k)) l.length) (hl : l.Nodup) (hz : l.length < scanBound) (hnd : (KBw.bInts c).Nodup) (hc : c.size + 1 < scanBound)
    (h : ∀ h' (tk : Nat), Fr h₀ L h' m → News h₀ L h' news → Q (.bool (decide (∀ k ∈ l, k ∈ KBw.bInts c))) { s with heap := h', toks := tk }) :
    wpAny (model prog w) A (call (.builtin "set.issubset") [.ref a, .bytes c t]) Q E s := by
  have hS : s.heap.SetOf (intKind prog w) a (fun k => l.any (· == k)) l.length := ho.setOf (N _ hm).1 hz
  refine wpAny_call_entry F.slot_set_issubset hS.typeIs entry_issubset ?_ (F.args_set_issubset_2 _ _)
  unfold Builtin.«frozenset.issubset» Frozenset.oneOther
  simp only [List.isEmpty_nil, bind_assoc]
  unfold Frozenset.addrOf
  refine wpAny_bind (wpAny_pure ?_)
  (try dsimp only)
  refine wpAny_bind (wpAny_pure ?_)
  (try dsimp only)
  refine wpAny_bind (anySet_no (typeIs_bytes _ _ _) sub_bytes_set sub_bytes_frozenset ?_)
  rw [if_neg Bool.false_ne_true]
  refine wpAny_bind (wpAny_rule ?_)
  unfold Frozenset.intersection
  refine wpAny_bind ?_
  rw [if_neg (by show ¬ ((Value.bytes c t == Value.ref a) = true); exact Bool.false_ne_true)]
  unfold Frozenset.baseOf
  refine wpAny_bind (wpAny_bind (wpAny_isInstance hS.typeIs sub_set_self (wpAny_pure ?_)))
  rw [if_pos rfl]
  refine wpAny_bind (wpAny_newSet_of (knd := intKind prog w) fun led hD => ?_)
  unfold Frozenset.addrOf
  refine wpAny_bind (wpAny_pure ?_)
  refine wpAny_bind (wpAny_holding ?_)
  refine wpAny_bind (anySet_no (typeIs_bytes _ _ _) sub_bytes_set sub_bytes_frozenset ?_)
  rw [if_neg Bool.false_ne_true]
  have ha : a < s.heap.objs.size := Heap.lt_size (N _ hm).1
  refine wpAny_bind (KBw.pyIter_bytes ?_)
  refine wpAny_bind (wpAny_runValue ?_)
  have key : ∀ (h' : Heap), (∀ b o, b ≠ (s.heap.push { cls := .type "set", dict := none, data := .set #[] 0 (.fresh 0 0 led) }).objs.size → b ≠ s.heap.objs.size → ((s.heap.push { cls := .type "set", dict := none, data := .set #[] 0 (.fresh 0 0 led) }).push { cls := .type "bytes_iterator", data := .fields #[.bytes c t, .int 0 0] }).get? b = some o → h'.get? b = some o) →
      ∀ b o, s.heap.get? b = some o → h'.get? b = some o := fun h' k b o e => by
    have hlt := Heap.lt_size e
    refine k b o ?_ (Nat.ne_of_lt hlt) (Heap.get?_push_of_some _ (Heap.get?_push_of_some _ e))
    rw [Heap.size_push]; exact Nat.ne_of_lt (Nat.lt_succ_of_lt hlt)
  refine inter_loop l (by simp [hh]) (I := (s.heap.push { cls := .type "set", dict := none, data := .set #[] 0 (.fresh 0 0 led) }).objs.size) (D := s.heap.objs.size) ?_ ?_ (Nat.ne_of_lt ha) hnd hc (c.size - 0) 0 _ rfl (Nat.zero_le _) ⟨_, Heap.get?_push_size _ rfl, rfl, rfl⟩ ?_ ?_ ?_
  · rw [Heap.size_push]; exact Nat.ne_of_lt (Nat.lt_succ_of_lt ha)
  · rw [Heap.size_push]; exact Nat.ne_of_lt (Nat.lt_succ_self _)
  · exact SetOf_at hS fun o e => Heap.get?_push_of_some _ (Heap.get?_push_of_some _ e)
  · exact SetOf_congr (SetOf_at hD fun o e => Heap.get?_push_of_some _ e) (fun _ => rfl) rfl
  · intro h' tk j hj hjj hS' hD' hk
    have kk := key h' hk
    refine wpAny_pure (wpAny_pure ?_)
    refine wpAny_bind (wpAny_pure ?_)
    refine wpAny_bind (sizeOf_of hD' ?_)
    refine wpAny_bind (sizeOf_of hS' ?_)
    rw [hits_len hl hnd hjj]
    exact wpAny_pure ⟨_, rfl, h h' tk (F₀.keeps kk) (N.grown kk)⟩
end
end BA
end Mine

end
section
open PySem PySem.W PyProof.Rows PySem.Calls
set_option Elab.async false
set_option maxRecDepth 100000
set_option maxHeartbeats 8000000
namespace Mine
open PySem.Spec PySem.Builtin PyProof.Rows.LCg
namespace BA
theorem slot_decode : Slot "bytearray" "decode" "bytearray.decode" :=
  .of (owner := "bytearray") (n := "decode") (by rw [typeLookup_type, builtinLookup_eq_fast]; kernel_rfl) (by decide +kernel) (by decide +kernel) (by decide +kernel)
    (by first | exact .inl (by decide +kernel) | exact .inr (by decide +kernel)) (by rw [isSubtype_type]; kernel_rfl)
theorem type_decode : typeOf (.builtin "bytearray.decode") = pure (.type "method_descriptor") := by show builtinType _ = _; rw [builtinType_eq_fast]; kernel_rfl
theorem entry_decode : entryFor table "bytearray.decode" = some Builtin.«bytearray.decode» := by first | exact entryFor_of_fast (by kernel_rfl) | exact entryFor_of_tree (by kernel_rfl)
theorem plainAttrs_ba : PlainAttrs "bytearray" :=
  ⟨⟨"bytearray.__getattribute__", by rw [typeLookup_type, builtinLookup_eq_fast]; kernel_rfl, by decide +kernel⟩, by rw [typeLookup_type, builtinLookup_eq_fast]; kernel_rfl⟩
theorem args_decode (a : Value) : argsOk "bytearray.decode" ⟨[a], []⟩ := by unfold argsOk; kernel_rfl
theorem bind_decode : Bytes.bindOptional "bytearray.decode" "decode" ["encoding", "errors"] [] [] = pure [none, none] := by kernel_rfl
section
variable {M : Model} {A : Around} {E : Value → Shared → Prop} {s : Shared}
theorem own_buffer {v : Value} {Q : Bool → Shared → Prop} (hT : s.TypeIs v "bytearray") (h : Q true s) : wpAny M A (Bytes.slotIsOwn v "__buffer__") Q E s := by
  have key : ∀ x : String, x = "bytearray" → wpAny M A (isInstance v (.type x)) Q E s := fun x hx => by rw [hx]; exact wpAny_isInstance hT sub_self h
  unfold Bytes.slotIsOwn
  refine wpAny_bind (wpAny_specialOf hT look_buffer ?_)
  dsimp only
  split
  · rename_i hx
    exact absurd hx (by decide +kernel)
  · exact key _ (by decide +kernel)
theorem payload_ba {l : Addr} {b : Array UInt8} {Q : Array UInt8 → Shared → Prop} (hl : IsBa s.heap l b) (h : Q b s) : wpAny M A (Bytes.payload (.ref l)) Q E s := by
  obtain ⟨o, ho, hc, n, hd⟩ := hl
  unfold Bytes.payload Bytes.payload?
  refine wpAny_bind (wpAny_bind (wpAny_load ho ?_))
  rw [hd]
  exact wpAny_pure (wpAny_pure h)
theorem buffer_ba {l : Addr} {b : Array UInt8} {id : String} {Q : Option (Array UInt8) → Shared → Prop} (hl : IsBa s.heap l b) (h : Q (some b) s) : wpAny M A (Bytes.buffer? id (.ref l)) Q E s := by
  have hT := ba_typeIs hl
  unfold Bytes.buffer?
  refine wpAny_bind (wpAny_specialOf hT look_buffer ?_)
  dsimp only
  refine wpAny_bind (own_buffer hT ?_)
  rw [if_neg (by decide)]
  refine wpAny_bind (wpAny_specialOf hT look_buffer ?_)
  refine wpAny_bind (not_own hT ?_)
  rw [if_neg (by decide)]
  exact wpAny_bind (payload_ba hl (wpAny_pure h))
theorem like_ba {l : Addr} {b : Array UInt8} {id : String} {Q : Array UInt8 → Shared → Prop} (hl : IsBa s.heap l b) (h : Q b s) : wpAny M A (Bytes.bytesLike id (.ref l)) Q E s := by
  unfold Bytes.bytesLike
  exact wpAny_bind (buffer_ba hl (wpAny_pure h))
theorem held_ba {l : Addr} {b : Array UInt8} {id : String} {Q : List Value → Shared → Prop} (hl : IsBa s.heap l b) (h : Q [.ref l] s) : wpAny M A (_codecs.dataHeld id (.ref l)) Q E s := by
  unfold _codecs.dataHeld
  exact wpAny_bind (like_ba hl (wpAny_pure h))
theorem decode_m {l : Addr} {b : Array UInt8} {pl : Sem Bool} {Q : Value × List Value → Shared → Prop} (hl : IsBa s.heap l b) (hd : ∀ o, s.heap.get? l = some o → o.dict = none) (h : Q (.builtin "bytearray.decode", [.ref l]) s) :
    wpAny M A (getMethod (.ref l) "decode" pl) Q E s :=
  getMethod_builtin (ba_typeIs hl) plainAttrs_ba slot_decode type_decode (fun a e => by obtain ⟨o, ho, _⟩ := hl; cases e; exact ⟨o, ho, hd o ho⟩) h
end
theorem road_ba {id : String} {b : Array UInt8} {hs : List Value} : _codecs.decodeRoad id b (PySem.Str.ofString "utf-8") none hs = (_codecs.runDecoder id _codecs.utf8Decoder none true b 0 hs >>= fun r => mkStr ⟨r.1⟩) := by kernel_rfl
section
variable {prog : Program} {w : World} {A : Around} {E : Value → Shared → Prop} {s : Shared}
theorem decode_c {l : Addr} {b : Array UInt8} {x : Str} {n : Nat} {Q : Value → Shared → Prop} (hl : IsBa s.heap l b) (hne : b.isEmpty = false) (hz : x.length ≤ sizeLine)
    (hd : ∀ id hs, _codecs.runDecoder id _codecs.utf8Decoder none true b 0 hs = pure (x.cps, n)) (h : ∀ t k, Q (.str x t) { s with toks := k }) :
    wpAny (model prog w) A (call (.builtin "bytearray.decode") [.ref l]) Q E s := by
  have hT := ba_typeIs hl
  refine wpAny_call_entry slot_decode hT entry_decode ?_ (args_decode _)
  unfold «bytearray.decode» Bytes.decodeM
  dsimp only
  refine wpAny_bind (wpAny_of_eq bind_decode ?_)
  dsimp only
  refine wpAny_bind (wpAny_pure ?_)
  refine wpAny_bind (wpAny_pure ?_)
  rw [if_pos (by decide)]
  refine wpAny_bind (not_own hT ?_)
  rw [if_neg (by decide)]
  refine wpAny_bind (wpAny_specialOf hT look_buffer ?_)
  dsimp only
  refine wpAny_bind (own_buffer hT ?_)
  rw [if_neg (by decide)]
  unfold Bytes.thenGiveBack
  dsimp only
  refine wpAny_bind (payload_ba hl ?_)
  rw [if_neg (by rw [hne]; decide)]
  refine wpAny_bind (wpAny_mkStr ?_ (by decide))
  refine wpAny_bind (wpAny_pure ?_)
  refine wpAny_bind (wpAny_pure ?_)
  refine wpAny_bind (wpAny_mkStr ?_ (by decide))
  refine wpAny_bind (call_function_entry KBd.kind_text KBd.plain_text KBd.entry_text (KBd.args_text _ _ _ _) ?_)
  unfold «_codecs.decode.text»
  dsimp only
  refine wpAny_bind (wpAny_pure ?_)
  refine wpAny_bind (like_ba hl ?_)
  refine wpAny_bind (held_ba hl ?_)
  rw [show ("utf-8" : Str) = PySem.Str.ofString "utf-8" from rfl, road_ba, hd]
  refine wpAny_bind (wpAny_bind (wpAny_pure ?_))
  exact wpAny_mkStr (wpAny_pure ⟨_, rfl, wpAny_pure ⟨_, rfl, h _ _⟩⟩) hz
end
theorem utf8_step {b : Array UInt8} {p : Nat} {c : UInt8} (h : b[p]? = some c) (hc : c.toNat < 128) : Bytes.utf8At b p = (.char c.toNat, p + 1) := by
  unfold Bytes.utf8At
  have e : (b.getD p 0) = c := by rw [Array.getD_eq_getD_getElem?, h]; rfl
  rw [e]
  exact if_pos hc
theorem map_take {b : Array UInt8} {p : Nat} {c : UInt8} (h : b[p]? = some c) : ((b.toList.take p).map (·.toNat)).toArray ++ [c.toNat].toArray = ((b.toList.take (p + 1)).map (·.toNat)).toArray := by
  have h' : b.toList[p]? = some c := by rw [Array.getElem?_toList]; exact h
  rw [List.take_add_one, h']
  simp
theorem forIn_ind {α σ : Type} (f : α → σ → Sem (ForInStep σ)) (g : Nat → σ) : ∀ (xs : List α) (p : Nat), (∀ x i, p ≤ i → i < p + xs.length → f x (g i) = pure (.yield (g (i + 1)))) → forIn xs (g p) f = (pure (g (p + xs.length)) : Sem σ)
  | [], p, _ => rfl
  | x :: r, p, h => by
    rw [List.forIn_cons, h x p (Nat.le_refl _) (by simp only [List.length_cons]; omega)]
    show forIn r (g (p + 1)) f = _
    rw [forIn_ind f g r (p + 1) fun y i h1 h2 => h y i (by omega) (by simp only [List.length_cons]; omega)]
    have e : p + 1 + r.length = p + (x :: r).length := by simp only [List.length_cons]; omega
    rw [e]
theorem run_ascii {id : String} {hs : List Value} {b : Array UInt8} (hb : ∀ c ∈ b, c.toNat < 128) (hz : b.size ≤ sizeLine) : _codecs.runDecoder id _codecs.utf8Decoder none true b 0 hs = pure (b.map (·.toNat), b.size) := by
  have hall : ((b.toList.take b.size).map (·.toNat)).toArray = b.map (·.toNat) := by
    rw [List.take_of_length_le (by rw [Array.length_toList]; exact Nat.le_refl _), ← List.map_toArray, Array.toArray_toList]
  unfold _codecs.runDecoder
  dsimp only
  rw [Std.Legacy.Range.forIn_eq_forIn_range']
  have e0 : ((0 : Nat), (#[] : Array Nat), ({ held := hs } : _codecs.Faults)) = (fun p => (p, ((b.toList.take p).map (·.toNat)).toArray, ({ held := hs } : _codecs.Faults))) 0 := rfl
  rw [e0, forIn_ind _ (fun p => (p, ((b.toList.take p).map (·.toNat)).toArray, ({ held := hs } : _codecs.Faults)))]
  · rw [List.length_range', Std.Legacy.Range.size]
    have en : 0 + ([:b.size].stop - [:b.size].start + [:b.size].step - 1) / [:b.size].step = b.size := by
      show 0 + (b.size - 0 + 1 - 1) / 1 = b.size
      omega
    rw [en]
    show (pure (((b.toList.take b.size).map (·.toNat)).toArray, b.size) : Sem (Array Nat × Nat)) = _
    rw [hall]
  · intro x i _ hi
    rw [List.length_range'] at hi
    have hi' : i < b.size := by simpa [Std.Legacy.Range.size] using hi
    have hx : b[i]? = some b[i] := by simp [hi']
    have hn : ((b.toList.take i).map (·.toNat)).toArray.size ≤ sizeLine := by simp; omega
    simp only
    rw [if_neg (by omega), if_neg (by omega)]
    have hf : _codecs.utf8Decoder.find true b i = .text [b[i].toNat] (i + 1) := by
      show (match Bytes.utf8At b i with | (.char c, nx) => _codecs.Found.char c nx | (.bad _ stop reason, _) => _) = _
      rw [utf8_step hx (hb _ (Array.getElem_mem hi'))]
      rfl
    rw [hf]
    show (pure (ForInStep.yield (i + 1, _, _)) : Sem (ForInStep (Nat × Array Nat × _codecs.Faults))) = _
    rw [map_take hx]
end BA
end Mine

end
section
open PySem PySem.W PyProof.Rows PySem.Calls
set_option Elab.async false
set_option maxRecDepth 100000
set_option maxHeartbeats 8000000
namespace Mine
open PyProof.Rows.LCg
open PySem.Builtin PySem.Builtin.Str
abbrev pcF : Percent := { zero := true, width := some 3, type := 100 }
abbrev pcT (n : Nat) : List Nat := percentInt pcF (decide ((n : Int) < 0)) (Str.ofString (toString (((n : Int).natAbs : Nat) : Int))).cps.toList
theorem pc_fact : ∀ n : Nat, n < 128 → (percentField pcF true (pcT n) = none ∧ pcT n = [48 + n / 100, 48 + n / 10 % 10, 48 + n % 10]) ∨ percentField pcF true (pcT n) = some [48 + n / 100, 48 + n / 10 % 10, 48 + n % 10] := by decide +kernel
theorem mod03 {prog : Program} {w : World} {A : Around} {E : Value → Shared → Prop} {s : Shared} {n : Nat} {t u : Tok} {Q : Value → Shared → Prop} (hn : n < 128) (h : ∀ t' k, Q (.str (strL ([92] ++ [48 + n / 100, 48 + n / 10 % 10, 48 + n % 10])) t') { s with toks := k }) :
    wpAny (model prog w) A (binaryOp .Mod (.str (Str.ofString "\\%03d") t) (.int (n : Int) u)) Q E s := by
  refine KPc.mod_lit (X' := ⟨#[92, 37, 48, 51, 100]⟩) (by decide +kernel) (shown (N := 2 ^ 1920) (by omega) (by omega) (Int.le_refl _)) ?_ h
  intro _ _
  apply KPc.meets_of
  intro _ _ _ _ _ _ _
  rw [KPc.entry_is]
  unfold Builtin.Str.percentFormat
  refine wpAny_bind (wpAny_isInstance (typeIs_int _ _ _) F.sub_int_tuple ?_)
  refine wpAny_bind (wpAny_of_eq (a := none) rfl ?_)
  refine wpAny_bind (wpAny_of_eq (KPc.fills _ _) ?_)
  kpc_if
  refine wpAny_bind (wpAny_pure ?_)
  refine wpAny_bind ?_
  rw [KPc.range_list]
  refine KPc.start ?_
  intro _ _
  refine KPc.turn ?_; kpc_check; (repeat kpc_if)
  refine wpAny_pure ?_; kpc_piece
  refine KPc.turn ?_; kpc_check; (repeat kpc_if)
  refine wpAny_bind ?_; refine wpAny_holding ?_; (repeat kpc_if)
  refine wpAny_bind (wpAny_of_eq (a := _) rfl ?_); (repeat kpc_if)
  refine wpAny_bind (wpAny_mkInt ?_)
  refine wpAny_bind (call_gives F.slot_int_repr (typeIs_int _ _ _) F.entry_int_repr (F.args_int_repr_1 _) (gives_int_repr _ _ (by with_reducible assumption)) ⟨int_text_fits (by with_reducible assumption), ?_⟩)
  refine wpAny_bind (wpAny_of_eq (a := some _) rfl ?_)
  refine wpAny_pure ?_
  dsimp only
  show wpAny _ _ (match percentField pcF true (pcT n) with | none => _ | some laid => _) _ _ _
  refine (pc_fact n hn).elim (fun e => ?_) (fun e1 => ?_)
  · have e1 := e.1
    have e2 := e.2
    simp only [e1]
    refine wpAny_pure ?_
    refine KPc.after_add (y := strL [48 + n / 100, 48 + n / 10 % 10, 48 + n % 10]) (by kpc_g) (congrArg (fun l : List Nat => Str.mk l.toArray) e2) (by kpc_obj) ?_
    intro _ _
    refine KPc.turn ?_; (refine wpAny_ite (KPc.ite_no (KPc.short_good (by kpc_g) (by rw [strL_len]; exact Nat.le_of_ble_eq_true rfl)) ?_)); (repeat kpc_if)
    refine wpAny_pure ?_; kpc_if
    refine KPc.finish_ok (by kpc_g) (by rw [strL_len]; exact Nat.le_of_ble_eq_true rfl) (T' := strL ([92] ++ [48 + n / 100, 48 + n / 10 % 10, 48 + n % 10])) ?_ (by assumption)
    rw [bs_is, strL_app]
  · simp only [e1]
    refine wpAny_pure ?_
    refine KPc.after_add (y := strL [48 + n / 100, 48 + n / 10 % 10, 48 + n % 10]) (by kpc_g) rfl (by kpc_obj) ?_
    intro _ _
    refine KPc.turn ?_; (refine wpAny_ite (KPc.ite_no (KPc.short_good (by kpc_g) (by rw [strL_len]; exact Nat.le_of_ble_eq_true rfl)) ?_)); (repeat kpc_if)
    refine wpAny_pure ?_; kpc_if
    refine KPc.finish_ok (by kpc_g) (by rw [strL_len]; exact Nat.le_of_ble_eq_true rfl) (T' := strL ([92] ++ [48 + n / 100, 48 + n / 10 % 10, 48 + n % 10])) ?_ (by assumption)
    rw [bs_is, strL_app]
end Mine

end
section
open PySem PySem.W PyProof.Rows PySem.Calls
set_option Elab.async false
set_option maxRecDepth 100000
set_option maxHeartbeats 8000000
namespace Mine
open PyProof.Rows.LCg
open PySem.Builtin
theorem index_int {prog : Program} {w : World} {A : Around} {E : Value → Shared → Prop} {s : Shared} {n : Int} {t : Tok} {Q : Int → Shared → Prop} (h : Q n s) : wpAny (model prog w) A (asIndex (.int n t)) Q E s :=
  wpAny_of_eq (rfl : asIndex (.int n t) = pure n) h
theorem in_bytes {prog : Program} {w : World} {A : Around} {E : Value → Shared → Prop} {s : Shared} {n : Int} {b : Array UInt8} {t u : Tok} {c : Bool} {Q : Value → Shared → Prop} (h0 : 0 ≤ n) (h1 : n < 256) (e : b.contains n.toNat.toUInt8 = c) (h : Q (.bool c) s) :
    wpAny (model prog w) A (compareOp .In (.int n t) (.bytes b u)) Q E s := by
  show wpAny _ _ (do return .bool (← contains (.bytes b u) (.int n t))) Q E s
  refine wpAny_bind ?_
  unfold contains
  try with_reducible refine wpAny_holding ?_
  have hT : s.TypeIs (.bytes b u) "bytes" := typeIs_bytes _ _ _
  refine wpAny_bind (wpAny_specialOf hT FB.slot_bytes_contains.lookup ?_)
  show wpAny _ _ (if (some (Value.builtin "bytes.__contains__") == some Value.none) = true then _ else _) _ E s
  rw [if_neg (by rw [beq_builtin_none]; exact Bool.false_ne_true)]
  refine wpAny_bind (wpAny_callSpecialUnlessNone?_slot (name := Str.ofString "__contains__") hT FB.slot_bytes_contains
    (wpAny_call_entry FB.slot_bytes_contains hT FB.entry_bytes_contains ?_ (FB.args_bytes_contains_2 _ _)))
  show wpAny _ _ (Bytes.containsIn "bytes.__contains__" (.bytes b u) (.int n t) >>= fun r => ret (.bool r)) _ _ _
  unfold Bytes.containsIn
  refine wpAny_bind (wpAny_bind (wpAny_attempt (index_int ?_)))
  refine wpAny_bind (wpAny_of_eq KBy.buffer_eq ?_)
  dsimp only
  rw [if_neg (by simp only [Bool.or_eq_true, decide_eq_true_eq]; omega), e]
  exact wpAny_pure (wpAny_pure ⟨_, rfl, wpAny_truthy_bool (wpAny_pure h)⟩)
end Mine

end
section
open PySem PySem.W PyProof.Rows PySem.Calls
set_option Elab.async false
set_option maxRecDepth 100000
set_option maxHeartbeats 8000000
namespace Mine
example : True := by w_top off; trivial
local macro_rules | `(tactic| walk_at "no such goal") => `(tactic| fail "no")
local macro_rules | `(tactic| walk_at "no such goal") => `(tactic| fail "no")
local macro_rules | `(tactic| walk_at "no such goal") => `(tactic| fail "no")
local macro_rules | `(tactic| walk_at "no such goal") => `(tactic| fail "no")
local macro_rules | `(tactic| walk_at "no such goal") => `(tactic| fail "no")
local macro_rules | `(tactic| walk_at "no such goal") => `(tactic| fail "no")
local macro_rules | `(tactic| walk_at "no such goal") => `(tactic| fail "no")
local macro_rules | `(tactic| walk_at "no such goal") => `(tactic| fail "no")
local macro_rules | `(tactic| walk_at "no such goal") => `(tactic| fail "no")
local macro_rules | `(tactic| walk_at "no such goal") => `(tactic| fail "no")
local macro_rules | `(tactic| walk_at "no such goal") => `(tactic| fail "no")
local macro_rules | `(tactic| walk_at "no such goal") => `(tactic| fail "no")
local macro_rules | `(tactic| walk_at "no such goal") => `(tactic| fail "no")
set_option maxHeartbeats 2000000
open PyProof.Rows.LCg
local macro_rules | `(tactic| k_mem) => `(tactic| first | (with_reducible assumption) | (with_reducible exact List.mem_cons_self) | (with_reducible refine List.mem_cons_of_mem _ ?_; k_mem) | fail "no")
local macro_rules | `(tactic| k_all) => `(tactic| first | exact ne_lt4 (by assumption) | exact ne_lt4 (And.right (by assumption)) | exact ne_lt4 (And.right (And.right (by assumption))) | exact ne_lt1 (by assumption) | exact ne_lt2 (by assumption) | exact ne_lt3 (by assumption) | exact ne_lt3 (And.right (by assumption)) | exact ne_lt3 (And.right (And.right (by assumption))) | exact ne_lt3 (And.right (And.right (And.right (by assumption)))) | fail "no")
section
variable {prog : Program} {w : World} {A : Around} {E : Value → Shared → Prop} {s : Shared} {h₀ : Heap} {L a : Addr} {m : Str → Option Value} {news : List (Addr × Obj)} {l : List Int} {o : Obj} {b c : Array UInt8} {t : Tok}
theorem issub_m {pl : Sem Bool} {Q : Value × List Value → Shared → Prop} (N : News h₀ L s.heap news) (hm : (a, o) ∈ news) (ho : o.SetObjOf (intKind prog w) (fun k => (BA.onceI b).any (· == k)) (BA.onceI b).length) (hz : (BA.onceI b).length < scanBound) (h : Q (.builtin "set.issubset", [.ref a]) s) :
    wpAny (model prog w) A (getMethod (.ref a) "issubset" pl) Q E s := BA.issubset_m (ho.setOf (N _ hm).1 hz) h
theorem issub_c {Q : Value → Shared → Prop} (F : Fr h₀ L s.heap m) (N : News h₀ L s.heap news) (hh : A.handled = none) (hm : (a, o) ∈ news) (ho : o.SetObjOf (intKind prog w) (fun k => (BA.onceI b).any (· == k)) (BA.onceI b).length) (hz : (BA.onceI b).length < scanBound) (hnd : (KBw.bInts c).Nodup) (hc : c.size + 1 < scanBound)
    (h : ∀ h' (tk : Nat), Fr h₀ L h' m → News h₀ L h' news → Q (.bool (decide (∀ k ∈ BA.onceI b, k ∈ KBw.bInts c))) { s with heap := h', toks := tk }) :
    wpAny (model prog w) A (call (.builtin "set.issubset") [.ref a, .bytes c t]) Q E s :=
  BA.call_issubset F N hh hm ho (BA.firstMet_nodup _ _) hz hnd hc h
theorem dec_m {pl : Sem Bool} {Q : Value × List Value → Shared → Prop} (N : News h₀ L s.heap news) (hm : (a, BA.obj b) ∈ news) (h : Q (.builtin "bytearray.decode", [.ref a]) s) : wpAny (model prog w) A (getMethod (.ref a) "decode" pl) Q E s :=
  BA.decode_m ⟨_, (N _ hm).1, rfl, _, rfl⟩ (fun o e => by rw [(N _ hm).1] at e; cases e; rfl) h
abbrev ldhA : Array UInt8 := #[33, 34, 35, 36, 37, 38, 39, 40, 41, 42, 43, 44, 45, 46, 47, 48, 49, 50, 51, 52, 53, 54, 55, 56, 57, 58, 59, 60, 61, 62, 63, 64, 65, 66, 67, 68, 69, 70, 71, 72, 73, 74, 75, 76, 77, 78, 79, 80, 81, 82, 83, 84, 85, 86, 87, 88, 89, 90, 91, 92, 93, 94, 95, 96, 97, 98, 99, 100, 101, 102, 103, 104, 105, 106, 107, 108, 109, 110, 111, 112, 113, 114, 115, 116, 117, 118, 119, 120, 121, 122, 123, 124, 125, 126]
theorem ldh_nodup : (KBw.bInts ldhA).Nodup := by decide +kernel
theorem ldh_mem0 : ∀ n : Nat, n < 256 → (((n : Int) ∈ KBw.bInts ldhA) ↔ (32 < (n : Int) ∧ (n : Int) < 127)) := by decide +kernel
theorem ldh_has0 : ∀ n : Nat, n < 256 → ldhA.contains n.toUInt8 = decide (32 < (n : Int) ∧ (n : Int) < 127) := by decide +kernel
theorem ldh_mem {k : Int} (h0 : 0 ≤ k) (h1 : k < 256) : (k ∈ KBw.bInts ldhA) ↔ (32 < k ∧ k < 127) := by
  obtain ⟨n, rfl⟩ := Int.eq_ofNat_of_zero_le h0
  exact ldh_mem0 n (by omega)
theorem issub_ldh {Q : Value → Shared → Prop} (F : Fr h₀ L s.heap m) (N : News h₀ L s.heap news) (hh : A.handled = none) (hm : (a, o) ∈ news) (ho : o.SetObjOf (intKind prog w) (fun k => (BA.onceI b).any (· == k)) (BA.onceI b).length) (hz : (BA.onceI b).length < scanBound)
    (h : ∀ h' (tk : Nat), Fr h₀ L h' m → News h₀ L h' news → Q (.bool (decide (∀ k ∈ KBw.bInts b, 32 < k ∧ k < 127))) { s with heap := h', toks := tk }) :
    wpAny (model prog w) A (call (.builtin "set.issubset") [.ref a, .bytes ldhA t]) Q E s := by
  refine issub_c F N hh hm ho hz ldh_nodup (Nat.le_of_ble_eq_true rfl) fun h' tk F' N' => ?_
  have e : decide (∀ k ∈ BA.onceI b, k ∈ KBw.bInts ldhA) = decide (∀ k ∈ KBw.bInts b, 32 < k ∧ k < 127) := by
    have hmem : ∀ k, k ∈ BA.onceI b ↔ k ∈ KBw.bInts b := fun k => by
      have := BA.once_mem (b := b) (k := k)
      rw [Bool.eq_iff_iff, List.any_eq_true, List.any_eq_true] at this
      simpa using this
    refine decide_eq_decide.mpr ⟨fun g k hk => ?_, fun g k hk => ?_⟩
    · have hr := KBw.ints_in hk
      exact (ldh_mem hr.1 hr.2).mp (g k ((hmem k).mpr hk))
    · have hk' := (hmem k).mp hk
      have hr := KBw.ints_in hk'
      exact (ldh_mem hr.1 hr.2).mpr (g k hk')
  rw [e]
  exact h h' tk F' N'
theorem in_ldh {n : Nat} {u : Tok} {Q : Value → Shared → Prop} (hn : n < 128) (h : Q (.bool (decide (32 < (n : Int) ∧ (n : Int) < 127))) s) : wpAny (model prog w) A (compareOp .In (.int (n : Int) u) (.bytes ldhA t)) Q E s :=
  in_bytes (by omega) (by omega) (ldh_has0 n (by omega)) h
theorem str_ex {a b : List Nat} {t : Tok} (e : a = b) : ∃ t', Value.str (strL a) t = .str (strL b) t' := ⟨t, by rw [e]⟩
theorem strsAre_of : ∀ {vs : List Value} {xs : List Str}, vs.length = xs.length → (∀ (i : Nat) (v : Value), vs[i]? = some v → ∃ x, xs[i]? = some x ∧ ∃ t, v = Value.str x t) → StrsAre vs xs
  | [], [], _, _ => .nil
  | [], _ :: _, h, _ => nomatch h
  | _ :: _, [], h, _ => nomatch h
  | v :: vs, x :: xs, h, g => by
    obtain ⟨x', e, t, rfl⟩ := g 0 v rfl
    cases e
    exact .cons _ _ (strsAre_of (Nat.succ.inj h) fun i u hu => g (i + 1) u hu)
theorem encL_plain {ks : List Int} (h : ∀ k ∈ ks, 32 < k ∧ k < 127) : encL ks = ks.map Int.toNat := by
  induction ks with
  | nil => rfl
  | cons k ks ih =>
    have := h k (.head _)
    show encC k ++ encL ks = _
    rw [ih fun x hx => h x (.tail _ hx), encC, if_pos this]
    rfl
theorem dec_c {Q : Value → Shared → Prop} (N : News h₀ L s.heap news) (hm : (a, BA.obj b) ∈ news) (h1 : 0 < b.size) (h4 : b.size ≤ 4) (hp : ∀ k ∈ KBw.bInts b, 32 < k ∧ k < 127) (h : ∀ t k, Q (.str (strL (encL (KBw.bInts b))) t) { s with toks := k }) :
    wpAny (model prog w) A (call (.builtin "bytearray.decode") [.ref a]) Q E s := by
  have e : (strL (encL (KBw.bInts b))).cps = b.map (·.toNat) := by
    rw [encL_plain hp]
    unfold strL KBw.bInts
    rw [List.map_map]
    show (b.toList.map fun c => c.toNat).toArray = _
    rw [← List.map_toArray, Array.toArray_toList]
  refine BA.decode_c (x := strL (encL (KBw.bInts b))) (n := b.size) ⟨_, (N _ hm).1, rfl, _, rfl⟩ ?_ ?_ (fun id hs => ?_) h
  · rw [Array.isEmpty_eq_false_iff_exists_mem]; exact ⟨b[0], Array.getElem_mem h1⟩
  · rw [strL_len, encL_plain hp, List.length_map, KBw.ints_length]; exact Nat.le_trans h4 (by decide)
  · rw [e]
    refine BA.run_ascii (fun c hc => ?_) (Nat.le_trans h4 (by decide))
    have : (c.toNat : Int) ∈ KBw.bInts b := List.mem_map.mpr ⟨c, Array.mem_toList_iff.mpr hc, rfl⟩
    have := hp _ this
    omega
end
local macro_rules | `(tactic| walk_at "call type:set") => `(tactic| (k_here; k_dflt (refine' BA.call_set_led ?F ?N ?h ?m ?z ?_; (case F => k_asm); (case N => k_asm); (case h => exact rfl); (case m => k_mem); (case z => assumption)); intro D' o' h' tk' F' N' l1 ho'; (have m9 := l1); (try k_lt l1)))
local macro_rules | `(tactic| walk_at "getMethod ref") => `(tactic| (k_here; (with_reducible show wpAny _ _ (getMethod (Value.ref _) (Str.ofString "issubset") _) _ _ _); k_dflt (refine' issub_m ?N ?m ?o ?z ?_; (case N => k_asm); (case m => k_mem); (case o => assumption); (case z => assumption))))
local macro_rules | `(tactic| walk_at "getMethod ref") => `(tactic| (k_here; (with_reducible show wpAny _ _ (getMethod (Value.ref _) (Str.ofString "decode") _) _ _ _); k_dflt (refine' dec_m ?N ?m ?_; (case N => k_asm); (case m => k_mem))))
local macro_rules | `(tactic| walk_at "call builtin:set.issubset") => `(tactic| (k_here; k_dflt (refine' issub_ldh ?F ?N ?h ?m ?o ?z ?_; (case F => k_asm); (case N => k_asm); (case h => exact rfl); (case m => k_mem); (case o => assumption); (case z => assumption)); intro h' tk' F' N'))
local macro_rules | `(tactic| walk_at "call builtin:bytearray.decode") => `(tactic| (k_here; k_dflt (refine' dec_c ?N ?m ?x ?y ?z ?_; (case N => k_asm); (case m => k_mem); (case x => assumption); (case y => assumption); (case z => first | assumption | exact of_decide_eq_true (by assumption))); intro _ _))
local macro_rules | `(tactic| walk_at "eval ListComp") => `(tactic| (k_here; k_dflt (refine ListComp_G (F₀ := by k_asm) (by rfl) (by decide) (by rfl) (by decide) (by rfl) ?_)))
local macro_rules | `(tactic| walk_at "call builtin:chr") => `(tactic| (k_here; k_dflt (refine' chrL ?z ?_; (case z => assumption)); intro _ _))
local macro_rules | `(tactic| walk_at "compareOp In int bytes") => `(tactic| (k_here; k_dflt (refine' in_ldh ?z ?_; (case z => assumption))))
local macro_rules | `(tactic| walk_at "binaryOp Mod str int") => `(tactic| (k_here; k_dflt (refine' mod03 ?z ?_; (case z => assumption)); intro _ _))
theorem dec_ctr (w : World) (x a : Addr) (b : Array UInt8) (hw : WordOk b) :
    Ctr w 970 9600 (.ref 73) [.ref x, .ref a] [(a, BA.obj b)] (fun r nl => nl = [] ∧ ∃ t, r = .str (strL (encL (KBw.bInts b))) t) := by
  intro mean mg mb gd cn cs a ccd cl outer A₀ base h₀ L m news s Q E hk B F X N T need hret
  obtain ⟨kd, nm, ig, ic, mo⟩ := cs
  obtain rfl : kd = .function := hk
  refine wpAny_call ?_
  k_dflt k_enter
  rename_i gN LN hN FGN FN NN BN XN TN
  replace NN := need_in NN need
  simp only [List.cons_append, List.nil_append] at NN
  have hbz : b.size ≤ 4 := by have := hw.2.1; rw [KBw.ints_length] at this; exact this
  have hb1 : b.size + 1 < scanBound := Nat.lt_of_le_of_lt (Nat.add_le_add_right hbz 1) (by decide)
  have hon : (BA.onceI b).length < scanBound := Nat.lt_of_le_of_lt (Nat.le_trans (firstMet_length_le _ _) hbz) (by decide)
  have hb0 : 0 < b.size := by have := hw.1; rw [KBw.ints_length] at this; exact this
  k_steps
  · refine' hret _ [] _ _ ?hF ?hN nl_nil ⟨rfl, _, rfl⟩
    case hF => k_asm
    case hN => exact News.of_sub (by assumption) (by ((repeat (refine sub_cons (by k_mem) ?_)); (repeat (first | exact sub_here | refine sub_skip ?_))))
  · refine BA.srcG_ba (b := b) rfl (by k_asm) (by k_asm) (by k_mem) (Nat.le_trans hbz (by decide)) ?_
    intro g tk3
    refine rest_quiet (fun i v => ∃ c, b[i]? = some c ∧ ∃ t, v = .str (strL (encC (c.toNat : Int))) t) (by k_mem) ?_ ?_
    · rintro j v I oI C oC D ys m₂ h2 tk4 E2 hj ⟨c, uc, hcj, rfl⟩ hC hx F8 N8 off8 ne8
      have hck := bytes_get hcj
      have hco : OctOk c.toNat := hw.2.2 _ (List.mem_of_getElem? hck)
      have hc8 : c.toNat < 128 := by unfold OctOk at hco; omega
      k_steps
      · refine end_quiet (by k_asm) (by k_asm) (by k_asm) (by k_mem) ⟨c, hcj, str_ex ?_⟩
        have hh : 32 < (c.toNat : Int) ∧ (c.toNat : Int) < 127 := by assumption
        rw [encC, if_pos hh]; rfl
      · refine end_quiet (by k_asm) (by k_asm) (by k_asm) (by k_mem) ⟨c, hcj, str_ex ?_⟩
        have hh : ¬ (32 < (c.toNat : Int) ∧ (c.toNat : Int) < 127) := by assumption
        rw [encC, if_neg hh]; rfl
    · intro ys hl hg
      have hS : StrsAre ys (((KBw.bInts b).map encC).map strL) := by
        refine strsAre_of (by rw [hl, List.length_map, List.length_map, KBw.ints_length]) fun i v hv => ?_
        obtain ⟨c, hc, t, rfl⟩ := hg i v hv
        exact ⟨_, by rw [List.getElem?_map, List.getElem?_map, bytes_get hc]; rfl, t, rfl⟩
      have hfl : ((KBw.bInts b).map encC).flatten = encL (KBw.bInts b) := by unfold encL; rw [List.flatMap_def]
      have hel := encL_len (KBw.bInts b)
      k_steps
      refine joinE (ls := (KBw.bInts b).map encC) (by k_asm) (by k_mem) hS ?_ ?_
      · rw [hfl, List.length_map]
        have := hw.2.1
        omega
      · intro t' k'
        rw [hfl]
        k_steps
        refine' hret _ [] _ _ ?hF ?hN nl_nil ⟨rfl, _, rfl⟩
        case hF => k_asm
        case hN => exact News.of_sub (by assumption) (by ((repeat (refine sub_cons (by k_mem) ?_)); (repeat (first | exact sub_here | refine sub_skip ?_))))
end Mine

end
section
open PySem PySem.W PyProof.Rows PySem.Calls
set_option Elab.async false
set_option maxRecDepth 100000
set_option maxHeartbeats 8000000
namespace Mine
open PySem.Spec PySem.Builtin
section
variable {α β : Type} {M : Model} {A : Around} {E : Value → Shared → Prop} {s : Shared} {env : Env}
abbrev noE : Value → Shared → Prop := fun _ _ => False
theorem wpN_noE {t : Sem α} {Q : α → Shared → Prop} (h : wpN M A t Q noE s) : wpN M A t Q E s := wpN_mono h (fun _ _ q => q) fun _ _ f => f.elim
theorem wpN_onRaise0 {m : Sem α} {k : Value → Sem Unit} {Q : α → Shared → Prop} (h : wpN M A m Q noE s) : wpN M A (m.onRaise k) Q E s := wpN_onRaise (wpN_mono h (fun _ _ q => q) fun _ _ f => f.elim)
theorem wpN_operate {vs : List Value} {m : Sem Value} {Q : Value → Shared → Prop} (h : wpN M A m Q E s) : wpN M A (operate vs m) Q E s := fun Γ p hΓ hc => by rw [Sem.wp_operate]; exact h Γ p hΓ hc
/-- m first; what m gives is handed on -/
theorem wpN_then {m : Sem α} {f : α → Sem β} {Q : β → Shared → Prop} (h : wpN M A m (fun a s' => wpN M A (f a) Q E s') E s) : wpN M A (m >>= f) Q E s := wpN_bind h
theorem wpN_execs_cons {st rest} {Q : Flow → Shared → Prop}
    (h : wpN M A (exec st env) (fun f s' => match f with | .next => wpN M A (execs rest env) Q E s' | f => Q f s') E s) :
    wpN M A (execs (st :: rest) env) Q E s := by
  rw [execs_cons]
  refine wpN_bind (wpN_mono h (fun f s' h' => ?_) fun _ _ e => e)
  cases f <;> first | exact h' | exact wpN_pure h'
/-- a statement by wpAny, the others by wpN -/
theorem wpN_execs_step {st rest} {Q : Flow → Shared → Prop}
    (h : wpAny M A (exec st env) (fun f s' => match f with | .next => wpN M A (execs rest env) Q E s' | f => Q f s') E s) :
    wpN M A (execs (st :: rest) env) Q E s := wpN_execs_cons (wpN_of h)
theorem wpN_Assign_Name {x pos' value pos} {Q : Flow → Shared → Prop}
    (h : wpN M A (eval value env) (fun v s₁ => wpAny M A (storeName env x v) (fun _ => Q .next) E s₁) E s)
    (hs : swapsWith value (some (.Name x pos')) pos.line env = pure false := by rfl) :
    wpN M A (exec (.Assign [.Name x pos'] value pos) env) Q E s := by
  rw [exec_Assign_Name env x pos' value pos hs]
  refine wpN_step (wpAny_standAt (wpN_bind (wpN_mono h (fun v s₁ h₁ => ?_) fun _ _ e => e)))
  exact wpN_of (wpAny_bind (wpAny_standAt (wpAny_bind (wpAny_bindName (wpAny_mono h₁ (fun _ _ q => wpAny_pure q) fun _ _ e => e)))))
theorem wpN_And {x y : Expr} {rest : List Expr} {pos : Pos} {Q : Value → Shared → Prop}
    (h : wpN M A (eval x env) (fun v s₁ => wpAny M A (truthy v) (fun b s₂ => if b = true then wpN M A (eval (.BoolOp .And (y :: rest) pos) env) Q E s₂ else Q v s₂) E s₁) E s) :
    wpN M A (eval (.BoolOp .And (x :: y :: rest) pos) env) Q E s := by
  show wpN M A (boolOp pos .And (eval x env :: eval y env :: evalEach rest env)) Q E s
  unfold boolOp
  refine wpN_bind (wpN_mono h (fun v s₁ h₁ => ?_) fun _ _ e => e)
  refine wpN_step (wpAny_standAt (wpN_step (wpAny_holding (wpAny_mono h₁ (fun b s₂ h₂ => ?_) fun _ _ e => e))))
  cases b with
  | true => exact h₂
  | false => exact wpN_pure h₂
theorem wpN_Compare1 {l op r pos} {Q : Value → Shared → Prop}
    (h : wpN M A (eval l env) (fun a s₁ => wpAny M A (eval r env) (fun b s₂ => wpAny M A (compareOp op a b) Q E s₂) E s₁) E s)
    (hm : behindInMarks op r = false := by with_unfolding_all rfl) :
    wpN M A (eval (.Compare l [op] [r] pos) env) Q E s := by
  rw [eval_Compare1, markedBehindIn_of_false hm]
  refine wpN_bind (wpN_mono h (fun a s₁ h₁ => ?_) fun _ _ e => e)
  exact wpN_of (wpAny_bind (wpAny_holding (wpAny_mono h₁ (fun b s₂ h₂ => wpAny_bind (wpAny_standAt (wpAny_operateT h₂))) fun _ _ e => e)))
theorem wpN_BinOp {l op r pos} {Q : Value → Shared → Prop}
    (h : wpN M A (eval l env) (fun a s₁ => wpAny M A (eval r env) (fun b s₂ => wpAny M A (binaryOp op a b) Q E s₂) E s₁) E s) :
    wpN M A (eval (.BinOp l op r pos) env) Q E s := by
  rw [eval_BinOp]
  refine wpN_bind (wpN_mono h (fun a s₁ h₁ => ?_) fun _ _ e => e)
  exact wpN_of (wpAny_bind (wpAny_holding (wpAny_mono h₁ (fun b s₂ h₂ => wpAny_bind (wpAny_standAt (wpAny_operateT h₂))) fun _ _ e => e)))
theorem wpN_Return {e pos} {Q : Flow → Shared → Prop} (h : wpN M A (eval e env) (fun v s₁ => Q (.ret v) s₁) E s) : wpN M A (exec (.Return (some e) pos) env) Q E s := by
  rw [exec_Return_some]
  exact wpN_step (wpAny_standAt (wpN_bind (wpN_mono h (fun _ _ q => wpN_pure q) fun _ _ e => e)))
theorem wpN_evalArgs1 {f : Value} {x : Sem Value} {Q : Args → Shared → Prop} (h : wpN M A x (fun v s' => Q ⟨[v], []⟩ s') E s) : wpN M A (evalArgs f true [(false, x)] []) Q E s := by
  unfold evalArgs
  show wpN M A (spliced [(false, x)] >>= _) Q E s
  refine wpN_bind ?_
  rw [spliced]
  refine wpN_bind (wpN_mono h (fun v s₁ h₁ => ?_) fun _ _ e => e)
  simp only [Bool.false_eq_true, if_false]
  refine wpN_bind (wpN_pure (wpN_bind (wpN_holding ?_)))
  refine wpN_pure (wpN_pure ?_)
  refine wpN_holding ?_
  exact wpN_bind (wpN_pure (wpN_bind (wpN_pure (wpN_pure h₁))))
theorem wpN_tail {t : Sem Value} {Q : Value → Shared → Prop} (h : wpN M A t Q E s) : wpN M A (t >>= fun r => holding [r] point >>= fun _ => pure r) Q E s :=
  wpN_bind (wpN_mono h (fun _ _ hr => wpN_step (wpAny_holding (wpAny_point (wpN_pure hr)))) fun _ _ x => x)
/-- one argument, what is called is no def -/
theorem wpN_callWith1 {pos : Pos} {f : Value} {first : List Value} {x : Sem Value} {Q : Value → Shared → Prop} (hk : keeperOf f = pure .machine) (h : wpN M A x (fun v s₁ => wpN M A (call f (first ++ [v])) Q E s₁) E s) :
    wpN M A (callWith pos f first [(false, x)] []) Q E s := by
  unfold callWith
  refine wpN_bind (wpN_holding (wpN_evalArgs1 (wpN_mono h (fun v s₁ h₁ => wpN_step (wpAny_standAt ?_)) fun _ _ e => e)))
  simp only [List.any_cons, List.any_nil, Bool.or_false, hk]
  refine wpN_bind (wpN_pure ?_)
  exact wpN_tail h₁
/-- one argument, a def is called -/
theorem wpN_callWithF {pos : Pos} {a : Addr} {first : List Value} {x : Sem Value} {Q : Value → Shared → Prop} (h : wpN M A x (fun v s₁ => (∃ o fd, s₁.heap.get? a = some o ∧ o.data = .func fd) ∧ wpAny M A (call (.ref a) (first ++ [v])) Q E s₁) E s) :
    wpN M A (callWith pos (.ref a) first [(false, x)] []) Q E s := by
  unfold callWith
  refine wpN_bind (wpN_holding (wpN_evalArgs1 (wpN_mono h (fun v s₁ h₁ => wpN_step (wpAny_standAt ?_)) fun _ _ e => e)))
  simp only [List.any_cons, List.any_nil, Bool.or_false]
  refine wpN_step (m := keeperOf (.ref a)) ?_
  unfold keeperOf
  obtain ⟨⟨o, fd, ho, hd⟩, h₁⟩ := h₁
  refine wpAny_bind (wpAny_load ho ?_)
  rw [hd]
  refine wpAny_pure ?_
  refine wpN_tail (wpN_of ?_)
  unfold callMarked
  exact Calls.wpAny_keep h₁
theorem wpN_Call_Name {id : Str} {p pos : Pos} {args : List Expr} {keywords : List Keyword} {Q : Value → Shared → Prop}
    (h : wpAny M A (eval (.Name id p) env) (fun f s₁ => wpN M A (callWith pos f [] (backTo pos (starEach args env)) (backToKw pos (keywordEach keywords env))) Q E s₁) E s) :
    wpN M A (eval (.Call (.Name id p) args keywords pos) env) Q E s := by
  rw [arm_eval_Call_Name']
  exact wpN_step h
theorem wpN_methodCall {o : Expr} {name : Str} {apos pos : Pos} {args : List Expr} {kws : List Keyword} {pl : Sem Bool} {Q : Value → Shared → Prop}
    (h : wpAny M A (eval o env) (fun ov s₁ => wpAny M A (getMethod ov name pl) (fun fx s₂ => wpN M A (callWith pos fx.1 fx.2 (backTo pos (starEach args env)) (backToKw pos (keywordEach kws env))) Q E s₂) E s₁) E s)
    (he : eval (.Call (.Attribute o name apos) args kws pos) env = (do
      let ov ← eval o env
      standAt apos.atName
      let (f, first) ← holding [ov] (getMethod ov name pl)
      callWith pos f first (backTo pos (starEach args env)) (backToKw pos (keywordEach kws env))) := by rfl) :
    wpN M A (eval (.Call (.Attribute o name apos) args kws pos) env) Q E s := by
  rw [he]
  refine wpN_step (wpAny_mono h (fun ov s₁ h₁ => wpN_step (wpAny_standAt (wpN_step (wpAny_holding (wpAny_mono h₁ (fun fx s₂ h₂ => ?_) fun _ _ x => x))))) fun _ _ x => x)
  exact h₂
end
section
variable {prog : Program} {w : World} {A : Around} {s : Shared} {R : Result → Shared → Prop}
theorem codeN_func {body : List Stmt} {env : Env}
    (h : wpN (model prog w) (A.deeper env) (execs body env) (fun f s' => R (.ok (.ret (match f with | .ret v => v | _ => .none))) s') noE s) :
    codeN (model prog w) A (.func body env) R s := by
  refine codeN_of_tree ?_
  show wpN _ (A.deeper env) (do point; match ← (execs body env).onRaise (leaving env) with | .ret v => ret v | _ => ret .none) _ _ s
  refine wpN_step (wpAny_point (wpN_bind (wpN_onRaise0 (wpN_mono h (fun f s' h' => ?_) fun _ _ h' => h'))))
  cases f <;> exact wpN_pure h'
theorem codeN_call_function {a : Addr} {args : Args} {o : Obj} {fd : FuncData} {body : List Stmt} (hroom : A.depth < recursionLimit)
    (ho : s.heap.get? a = some o)
    (hd' : o.data = .func fd) (hco : fd.scope.isCoroutine = false) (hgen : fd.scope.isGenerator = false) (hbody : fd.body = .stmts body) (hcd : s.heap.CodeRec fd.code fd.qualname)
    (h : wpAny (model prog w) A.in1 (bindArgs fd args) (fun binds s₁ =>
      wpAny (model prog w) A.in1 (newFunctionEnv fd.scope fd.globals fd.closure binds (fd.qualname ++ ".<locals>.") (some a) fd.code none fd.builtins)
        (fun env s₂ => s₂.heap.NoLimit ∧ codeN (model prog w) A (.func body env) R s₂) (fun e s' => R (.error e) s') s₁) (fun e s' => R (.error e) s') s) :
    codeN (model prog w) A (.call (.ref a) args) R s := by
  refine codeN_of_tree ?_
  show wpN _ A.in1 (callAny (.ref a) args) _ _ s
  simp only [callAny]
  refine wpN_step (wpAny_load ho ?_)
  obtain ⟨c, oc, vs, tq, hc, hoc, hdc, hq⟩ := hcd
  simp only [hd', callFunction, hco, hgen, hbody, hc]
  rw [hc] at h
  refine wpN_step (m := field (.ref c) 1) (wpAny_field hoc hdc hq (wpN_bind (wpN_pure ?_)))
  exact wpN_step (wpAny_mono h (fun binds s₁ h₁ => wpN_step (wpAny_mono h₁ (fun env s₂ h₂ => wpN_step (wpAny_enterFrame h₂.1 hroom
    (wpN_pure (And.intro rfl (And.intro rfl h₂.2))))) fun _ _ h' => h')) fun _ _ h' => h')
theorem codeN_def {A₀ : Around} {base h₀ : Heap} {outer : List Env} {L : Addr} {m : Str → Option Value} {env : Env} {news : List (Addr × Obj)} {K : Frag} {p : Program} {loose : List Str} {mean : ExcName → Option Value} {mg mb : Str → Option Value}
    {name qual : Str} {params : Arguments} {body : List Stmt} {scope : Scope} {dV kV doc pm cdv ct oc : Value} {an od : Option Addr} {osl : Array (Option Value)} {f : Addr} {args : Args} {binds : List (Str × Value)}
    (B : Below A₀ base outer h₀) (F : Fr h₀ L s.heap m) (X₀ : K.In h₀) (N : News h₀ L s.heap news) (T : Top p loose mean mg mb h₀) (hA : A.frames = some (env :: outer)) (hf : env.frame = some L) (hke : env.scope.kind = .function)
    (ho : K.lookup f = some ⟨oc, od, .func (fnOf name qual params body scope dV kV doc pm an cdv ct), osl⟩) (hcd : codeIn K cdv qual = true) (hroom : A.depth < recursionLimit)
    (hbind : BindsTo s (fnOf name qual params body scope dV kV doc pm an cdv ct) args binds) (hloc : ∀ y ∈ binds, scope.names.lookup y.1 = some .local)
    (h : ∀ g L' h₁, Fr h₀ L g m → Fr g L' h₁ (fun y => binds.reverse.lookup y) → News g L' h₁ news → Below A base (env :: outer) g → K.In g → Top p loose mean mg mb g →
      wpN (model prog w) (A.deeper (envOf qual scope L' f cdv)) (execs body (envOf qual scope L' f cdv))
        (fun fl s' => LeaveK h₀ L m g R (match fl with | .ret v => v | _ => .none) s') noE
        { s with heap := h₁, toks := s.toks + binds.length })
    (hco : scope.isCoroutine = false) (hgen : scope.isGenerator = false) (hk : scope.kind = .function)
    (hcell : ∀ x ∈ scope.names, x.2 ≠ .cell) : codeN (model prog w) A (.call (.ref f) args) R s := by
  obtain ⟨FG, BG, st, lv⟩ := groundX (R := R) B F N hA hf hke
  refine codeN_call_function hroom ((X₀.keeps F.keep) _ _ ho) rfl hco hgen rfl (codeRec_of (X₀.keeps F.keep) hcd) (hbind _ _ _ _ ?_)
  refine wpAny_newFunctionEnv hcell hloc (fun h₁ hns₁ hsb₁ => ⟨(T.nolimit.keeps F.keep).fresh _ hsb₁, codeN_func ?_⟩) hk
  have hk₁ : ∀ b o, s.heap.get? b = some o → h₁.get? b = some o := fun b o e => hsb₁.extBut b o (Nat.ne_of_lt (Heap.lt_size e)) (Heap.get?_push_of_some _ e)
  exact wpN_mono (h _ s.heap.objs.size h₁ FG ⟨hns₁, fun b o e => hk₁ b o (of_hideAll _ e), Nat.le_of_eq (hideAll_size _ _)⟩
    (fun p hp => ⟨hk₁ _ _ (N p hp).1, Nat.ne_of_lt (Heap.lt_size (N p hp).1), hideAll_none _ (List.mem_map_of_mem hp)⟩) BG (X₀.keeps st) (T.keeps st)) (fun fl s' hl => lv _ _ hl) fun _ _ f => f.elim
end
end Mine

end
section
open PySem PySem.W PyProof.Rows PySem.Calls
set_option Elab.async false
set_option maxRecDepth 100000
set_option maxHeartbeats 8000000
namespace Mine
open PySem.Spec PySem.Builtin PyProof.Rows.LCg
section
variable {M : Model} {A : Around} {s : Shared}
theorem codeN_loop {c : Code} {R : Result → Shared → Prop} (hq : c.quiet = true) (hd : decoder c = false) (I : Nat → Shared → Prop)
    (turn : ∀ n s, I n s → wpN M (A.under c) (M.den c)
      (fun fin s' => match fin with | .done f => R (.ok f) s' | .again c' => c' = c ∧ ∃ m, m < n ∧ I m s') noE s)
    (n : Nat) (h : I n s) : codeN M A c R s := by
  induction n using Nat.strongRecOn generalizing s with
  | ind n ih =>
    refine codeN_of_tree (wpN_mono (turn n s h) (fun fin s' hf => ?_) fun _ _ f => f.elim)
    cases fin with
    | done f => exact hf
    | again c' => obtain ⟨rfl, m, hm, hI⟩ := hf; exact ⟨hq, hd, ih m hm hI⟩
end
section
variable {prog : Program} {w : World} {A : Around} {s : Shared} {R : Result → Shared → Prop} {E : Value → Shared → Prop} {h₀ : Heap} {L : Addr} {m : Str → Option Value} {env : Env}
theorem codeN_compLoop {elt target iter : Expr} {scope : Scope} {pos : Pos} {it acc : Value} {env : Env} (I : Nat → Shared → Prop)
    (turn : ∀ n s, I n s → wpAny (model prog w) A (pyNext it) (fun r s₁ => match r with
      | none => R (.ok .next) s₁
      | some v => wpAny (model prog w) A (assign target env v) (fun _ s₂ => wpN (model prog w) A (eval elt env) (fun x s₃ =>
          wpAny (model prog w) A (call (.builtin "list.append") [acc, x]) (fun _ s₄ => ∃ m, m < n ∧ I m s₄) noE s₃) noE s₂) noE s₁) noE s)
    (n : Nat) (h : I n s) (ht : ∀ v, letOwnedTupleGo target it v = pure () := by intro _; rfl) :
    codeN (model prog w) A (.compLoop (.ListComp elt [⟨target, iter, [], 0⟩] scope pos) 0 it acc env) R s := by
  refine codeN_loop rfl rfl I (fun n s hI => ?_) n h
  show wpN _ A ((compTurn (.ListComp elt [⟨target, iter, [], 0⟩] scope pos) 0 it acc env).onRaise (fun x => do noteFrame x env; theTreesLotGoes x)) _ _ s
  refine wpN_onRaise0 ?_
  rw [compTurn_list1]
  refine wpN_step (wpAny_standAt (wpN_step (wpAny_mono (turn n s hI) (fun r s₁ h₁ => ?_) fun _ _ h' => h')))
  cases r with
  | none => exact wpN_pure h₁
  | some v =>
    refine wpN_step (wpAny_of_eq (ht v) ?_)
    refine wpN_step (wpAny_mono h₁ (fun _ s₂ h₂ => ?_) fun _ _ h' => h')
    refine wpN_bind (wpN_bind (wpN_mono h₂ (fun x s₃ h₃ => ?_) fun _ _ h' => h'))
    exact wpN_step (wpAny_mono h₃ (fun _ s₄ h₄ => wpN_pure (wpN_pure ⟨rfl, h₄⟩)) fun _ _ h' => h')
theorem codeN_compStart {elt target iter ifs rest scope pos it acc env}
    (h0 : codeN (model prog w) A (.compLoop (.ListComp elt (⟨target, iter, ifs, 0⟩ :: rest) scope pos) 0 it acc env) R s)
    (h : wpAny (model prog w) A (pyIter it) (fun it' s' => codeN (model prog w) A (.compLoop (.ListComp elt (⟨target, iter, ifs, 0⟩ :: rest) scope pos) 0 it' acc env) R s') noE s) :
    codeN (model prog w) A (.compStart (.ListComp elt (⟨target, iter, ifs, 0⟩ :: rest) scope pos) 0 it acc env) R s := by
  refine codeN_of_tree ?_
  show wpN _ A ((compStart (.ListComp elt (⟨target, iter, ifs, 0⟩ :: rest) scope pos) 0 it acc env).onRaise (fun x => do noteFrame x env; standAt theWindowsPlace)) _ _ s
  refine wpN_onRaise0 ?_
  unfold compStart
  show wpN _ _ (ask >>= _) _ _ s
  refine wpN_step (wpAny_askSetting ?_)
  split
  · exact wpN_pure (And.intro rfl (And.intro rfl h0))
  · refine wpN_step (wpAny_rule ?_)
    show wpN _ _ (standAt iter.pos >>= _) _ _ s
    exact wpN_step (wpAny_standAt (wpN_step (wpAny_mono h (fun it' s' h' => wpN_pure (And.intro rfl (And.intro rfl h'))) fun _ _ x => x)))
def postN (Q : Value → Shared → Prop) (acc : Value) (C : Addr) (r : Result) (s' : Shared) : Prop := match r with | .ok _ => ∃ m, s'.heap.Ns C m ∧ ∀ h', Heap.SameBut C s'.heap h' → Q acc { s' with heap := h' } | .error _ => False
theorem wpN_comprehension {e : Expr} {scope : Scope} {pos : Pos} {newAcc first : Sem Value} {g : Comprehension} {gs : List Comprehension} {cl : List (Str × Addr)}
    {Q : Value → Shared → Prop}
    (hcl : clausesOf e = g :: gs) (hs : ∀ x, foldedSetIterable g.iter env x = pure x) (hclos : closureFor scope env = pure cl)
    (hkind : scope.kind = .function) (hnames : ∀ x ∈ scope.names, x.2 = .local → scope.names.lookup x.1 = some .local)
    (hd : ∀ it acc cenv, decoder (.compStart e 0 it acc cenv) = false)
    (h : wpAny (model prog w) A first (fun x s₁ => wpAny (model prog w) A (pyIter x) (fun it s₂ => wpAny (model prog w) A newAcc (fun acc s₃ =>
      wpAny (model prog w) A (newFunctionEnv scope env.globals cl [] env.qual none .none (some env)) (fun cenv s₄ =>
        codeN (model prog w) A (.compStart e 0 it acc { cenv with scope := relabel scope env }) (postN Q acc cenv.locals) s₄) E s₃) E s₂) E s₁) E s) :
    wpN (model prog w) A (comprehension e scope env pos newAcc false first none) Q E s := by
  unfold comprehension
  rw [hclos, hcl]
  refine wpN_step (wpAny_mono h (fun x s₁ h₁ => wpN_step (wpAny_standAt (wpN_step (wpAny_of_eq (hs x) (wpN_step (wpAny_holding (wpAny_mono h₁ (fun it s₂ h₂ => ?_) fun _ _ h' => h'))))))) fun _ _ h' => h')
  rw [if_neg (by decide)]
  refine wpN_step (wpAny_mono h₂ (fun acc s₃ h₃ => wpN_bind (wpN_pure (wpN_step (wpAny_mono h₃ (fun cenv s₄ h₄ => ?_) fun _ _ h' => h')))) fun _ _ h' => h')
  dsimp only
  have hv : ∀ x ∈ (scope.names.filter fun x => (x.2 == .local || x.2 == .cell) && x.1 != (".0" : Str)).reverse, x.2 = .local →
      Env.kindOf { cenv with scope := relabel scope env } x.1 = some .local := fun x hx hl => lookup_relabel_local (hnames x (List.mem_filter.mp (List.mem_reverse.mp hx)).1 hl)
  refine wpN_holding (wpN_bind (wpN_attempt (wpN_holding (wpN_run (hd _ _ _) (codeN_mono h₄ fun r s' hr => ?_)))))
  cases r with
  | ok f =>
    obtain ⟨m, hn, hr⟩ := hr
    exact wpN_of (wpAny_bind (wpAny_holding (wpAny_comp_letGo (cenv := { cenv with scope := relabel scope env }) hkind _ s' m hv hn fun h' m' _ hs' => wpAny_pure (hr h' hs'))))
  | error x => exact hr.elim
end
end Mine

end
section
open PySem PySem.W PyProof.Rows PySem.Calls
set_option Elab.async false
set_option maxRecDepth 100000
set_option maxHeartbeats 8000000
namespace Mine
open PySem.Spec PySem.Builtin PyProof.Rows.LCg
section
variable {prog : Program} {w : World} {A : Around} {s : Shared} {E : Value → Shared → Prop} {h₀ : Heap} {L : Addr} {m : Str → Option Value} {env : Env}
/-- one turn of a list comprehension, by wpN -/
def TurnN (prog : Program) (w : World) (A : Around) (h₀ : Heap) (L : Addr) (m : Str → Option Value) (env : Env) (elt : Expr) (x : Str) (scope : Scope) (cl : List (Str × Addr)) (s₁ : Shared) (S : List (Addr × Obj) → Prop) (P : Nat → Value → Prop) (n : Nat) (J : Nat → List Value → List (Addr × Obj) → Prop) : Prop :=
  ∀ i ys nw v I oI C oC D m₂ h tk, i < n → J i ys nw → S nw → P i v → NsObj oC m₂ → m₂ x = some v → Fr h₀ L h m → News h₀ L h ((I, oI) :: (C, oC) :: (D, lst ys) :: nw) → Off3 I C D nw → ((@Ne Nat I C) ∧ (@Ne Nat I D) ∧ (@Ne Nat C D)) →
    wpN (model prog w) A (eval elt (compEnvC scope cl C env)) (CompEnd h₀ L m { s₁ with heap := h, toks := tk } I oI C oC D (lst ys) S (fun y nw' => J (i + 1) (ys ++ [y]) nw')) noE { s₁ with heap := h, toks := tk }
theorem block_N {elt iter : Expr} {x : Str} {px : Pos} {scope : Scope} {cl : List (Str × Addr)} {pos : Pos} {s₂ : Shared} {I : Addr} {fp : List Addr} {n : Nat} {P : Nat → Value → Prop} {St : Nat → Heap → Prop} {S : List (Addr × Obj) → Prop} {news : List (Addr × Obj)}
    (J : Nat → List Value → List (Addr × Obj) → Prop) {RR : Value → Addr → Result → Shared → Prop}
    (W : Walks prog w A I fp [I] n P St) (hsz : n ≤ sizeLine) (hIo : ∀ i h, St i h → ∃ o, h.get? I = some o)
    (hSt : ∀ i h h' o nw, St i h → h.get? I = some o → h'.get? I = some o → (∀ b o, h₀.get? b = some o → h'.get? b = some o) → News h₀ L h' nw → S nw → St i h')
    (hcell : ∀ y ∈ scope.names, y.2 ≠ .cell) (hkind : scope.kind = .function) (hx : scope.names.lookup x = some .local) (hst : St 0 s₂.heap) (hfp : ∀ b ∈ fp, b < s₂.heap.objs.size)
    (F : Fr h₀ L s₂.heap m) (N : News h₀ L s₂.heap news) (hIL : L ≠ I) (hI₀ : h₀.get? I = none) (off : ∀ p ∈ news, p.1 ≠ I) (hS : S news) (hJ : J 0 [] news)
    (R : TurnN prog w A h₀ L m env elt x scope cl s₂ S P n J)
    (hRR : ∀ D C h tk m' ys news', Fr h₀ L h m → News h₀ L h ((D, lst ys) :: news') → Off1 D news' → h.Ns C m' → h₀.get? C = none → h₀.get? D = none → C ≠ L → D ≠ L → C ≠ D → (∀ p ∈ news', p.1 ≠ C) → J n ys news' → RR (.ref D) C (.ok .next) { s₂ with heap := h, toks := tk }) :
    wpAny (model prog w) A (newList []) (fun acc s₃ => wpAny (model prog w) A (newFunctionEnv scope env.globals cl [] env.qual none .none (some env)) (fun cenv s₄ =>
      codeN (model prog w) A (.compStart (.ListComp elt [⟨.Name x px, iter, [], 0⟩] scope pos) 0 (.ref I) acc { cenv with scope := relabel scope env }) (RR acc cenv.locals) s₄) E s₃) E s₂ := by
  refine wpAny_newObj_type (wpAny_newFunctionEnv hcell (by intro y hy; simp at hy) (fun h₁ hns₁ hsb₁ => ?_) hkind)
  dsimp only at hns₁ hsb₁ ⊢
  generalize hH2 : s₂.heap.push { cls := .type "list", dict := none, data := .seq ([] : List Value).toArray } = H2 at hns₁ hsb₁ ⊢
  have hC : H2.objs.size = s₂.heap.objs.size + 1 := by rw [← hH2, Heap.size_push]
  have hDC : s₂.heap.objs.size ≠ H2.objs.size := by rw [hC]; exact Nat.ne_of_lt (Nat.lt_succ_self _)
  have below : ∀ b, b < s₂.heap.objs.size → b ≠ H2.objs.size ∧ b ≠ s₂.heap.objs.size := fun b hb => ⟨by rw [hC]; exact Nat.ne_of_lt (Nat.lt_succ_of_lt hb), Nat.ne_of_lt hb⟩
  have hDf : s₂.heap.objs.size ∉ fp := fun hm => Nat.lt_irrefl _ (hfp _ hm)
  have hCf : H2.objs.size ∉ fp := fun hm => by have := hfp _ hm; rw [hC] at this; exact Nat.lt_irrefl _ (Nat.lt_of_succ_lt this)
  have hIf : I ∈ fp := W.sub I (List.mem_singleton.mpr rfl)
  have hIlt : I < s₂.heap.objs.size := hfp I hIf
  have old : ∀ b o, s₂.heap.get? b = some o → h₁.get? b = some o := fun b o e => hsb₁.extBut b o (below b (Heap.lt_size e)).1 (Heap.get?_push_of_some _ (hH2 ▸ Heap.get?_push_of_some _ e))
  have hacc : h₁.get? s₂.heap.objs.size = some (lst []) := hsb₁.extBut _ _ hDC (Heap.get?_push_of_some _ (hH2 ▸ Heap.get?_push_size _ rfl))
  have hst₁ : St 0 h₁ := W.frame _ _ _ hst fun b _ o e => old b o e
  have fresh₀ : ∀ a, s₂.heap.objs.size ≤ a → h₀.get? a = none := fun a ha => base_none F ha
  have hD₀ : h₀.get? s₂.heap.objs.size = none := fresh₀ _ (Nat.le_refl _)
  have hC₀ : h₀.get? H2.objs.size = none := fresh₀ _ (by rw [hC]; exact Nat.le_succ _)
  have hLlt : L < s₂.heap.objs.size := F.ns.lt
  have hDL : s₂.heap.objs.size ≠ L := Ne.symm (below L hLlt).2
  have hCL : H2.objs.size ≠ L := Ne.symm (below L hLlt).1
  have hCI : I ≠ H2.objs.size := (below I hIlt).1
  have hDI : I ≠ s₂.heap.objs.size := (below I hIlt).2
  have off₀ : Off3 I H2.objs.size s₂.heap.objs.size news := Off3.of fun p hp => ⟨off p hp, (below _ (Heap.lt_size (N p hp).1)).1, (below _ (Heap.lt_size (N p hp).1)).2⟩
  have loop : ∀ s₃ : Shared, s₃ = { s₂ with heap := h₁, toks := s₂.toks + ([] : List (Str × Value)).length } →
      codeN (model prog w) A (.compLoop (.ListComp elt [⟨.Name x px, iter, [], 0⟩] scope pos) 0 (.ref I) (.ref s₂.heap.objs.size) (compEnvC scope cl H2.objs.size env))
        (RR (.ref s₂.heap.objs.size) H2.objs.size) s₃ := by
    rintro s₃ rfl
    refine codeN_compLoop
      (fun k s' => ∃ h' tk i ys m' nw, s' = { s₂ with heap := h', toks := tk } ∧ i ≤ n ∧ k = n + 1 - i ∧ ys.length = i ∧ St i h' ∧ Fr h₀ L h' m ∧ h'.Ns H2.objs.size m' ∧ News h₀ L h' ((s₂.heap.objs.size, lst ys) :: nw) ∧
        Off3 I H2.objs.size s₂.heap.objs.size nw ∧ S nw ∧ J i ys nw) ?_ (n + 1)
      ⟨h₁, _, 0, [], _, news, rfl, Nat.zero_le _, rfl, rfl, hst₁, F.keeps old, hns₁, fun p hp => ?_, off₀, hS, hJ⟩
    · rintro k s' ⟨h', tk, i, ys, m', nw, rfl, hi, rfl, hyl, hst', F', hn', N', off', hS', hJ'⟩
      have off3 := off'.mem
      have offI : ∀ p ∈ (s₂.heap.objs.size, lst ys) :: nw, p.1 ≠ I := fun p hp => by
        rcases List.mem_cons.mp hp with rfl | hp
        · exact Ne.symm hDI
        · exact (off3 p hp).1
      by_cases hlt : i < n
      · refine W.item i _ _ _ hlt hst' fun v h₂ tk₂ hPv hst₂ hk₂ => ?_
        refine wpAny_assign_Name (wpAny_storeName_local (lookup_relabel_local hx) (hn'.at' fun o e => hk₂ _ o (by simpa using Ne.symm hCI) e) (fun h₃ hn₃ hs₃ => ?_) (by simp [compEnvC, relabel, hkind]))
        have hst₃ : St (i + 1) h₃ := W.frame _ _ _ hst₂ fun b hb o e => hs₃.extBut b o (fun q => hCf (by have q' : b = H2.objs.size := q; rw [← q']; exact hb)) e
        obtain ⟨oI, heI⟩ := hIo _ _ hst₃
        obtain ⟨oC, heC, hoC⟩ := ns_obj hn₃
        have F₃ : Fr h₀ L h₃ m := (fr_but F' hk₂ hIL hI₀).change hs₃ hCL hC₀
        have N₂ : News h₀ L h₂ ((s₂.heap.objs.size, lst ys) :: nw) := news_but N' hk₂ offI
        have N₃ : News h₀ L h₃ ((I, oI) :: (H2.objs.size, oC) :: (s₂.heap.objs.size, lst ys) :: nw) := fun p hp => by
          rcases List.mem_cons.mp hp with rfl | hp
          · exact ⟨heI, Ne.symm hIL, hI₀⟩
          · rcases List.mem_cons.mp hp with rfl | hp
            · exact ⟨heC, hCL, hC₀⟩
            · have z := N₂ p hp
              refine ⟨hs₃.extBut _ _ ?_ z.1, z.2⟩
              rcases List.mem_cons.mp hp with rfl | hp
              · exact hDC
              · exact (off3 p hp).2.1
        refine wpN_mono (R i ys nw v I oI H2.objs.size oC s₂.heap.objs.size _ h₃ _ hlt hJ' hS' hPv hoC (by simp) F₃ N₃ off' ⟨hCI, hDI, Ne.symm hDC⟩) (fun y s₄ h₄ => ?_) fun _ _ e => e
        obtain ⟨h₄, tk₄, news₄, rfl, F₄, N₄, off₄, hS₄, R₄⟩ := h₄
        have zI := (N₄ (I, oI) List.mem_cons_self).1
        have zC := (N₄ (H2.objs.size, oC) (List.mem_cons_of_mem _ List.mem_cons_self)).1
        have zD := (N₄ (s₂.heap.objs.size, lst ys) (List.mem_cons_of_mem _ (List.mem_cons_of_mem _ List.mem_cons_self))).1
        have N₄' : News h₀ L h₄ news₄ := fun p hp => N₄ p (List.mem_cons_of_mem _ (List.mem_cons_of_mem _ (List.mem_cons_of_mem _ hp)))
        have hst₄ : St (i + 1) h₄ := hSt _ _ _ _ _ hst₃ heI zI F₄.keep N₄' hS₄
        refine append_at (hsz := by show ys.toArray.size ≤ sizeLine; rw [List.size_toArray, hyl]; exact Nat.le_trans hi hsz) zD fun h₅ hs₅ hD₅ => ?_
        have off4 := off₄.mem
        refine ⟨n + 1 - (i + 1), by omega, h₅, tk₄, i + 1, ys ++ [y], _, news₄, rfl, hlt, rfl, by rw [List.length_append, List.length_singleton, hyl], W.frame _ _ _ hst₄ fun b hb o e => hs₅.extBut b o (fun q => hDf (q ▸ hb)) e, F₄.change hs₅ hDL hD₀,
          (hoC.ns zC).sameBut hs₅ (Ne.symm hDC), fun p hp => ?_, off₄, hS₄, R₄⟩
        rcases List.mem_cons.mp hp with rfl | hp
        · exact ⟨hD₅.trans (congrArg some (lst_snoc ys y)), hDL, hD₀⟩
        · exact ⟨hs₅.extBut _ _ (off4 p hp).2.2 (N₄' p hp).1, (N₄' p hp).2⟩
      · obtain rfl : i = n := Nat.le_antisymm hi (Nat.not_lt.mp hlt)
        refine W.done _ _ _ hst' fun h₂ tk₂ hk₂ => ?_
        exact hRR _ _ h₂ tk₂ _ ys nw (fr_but F' hk₂ hIL hI₀) (news_but N' hk₂ offI) off'.one (hn'.at' fun o e => hk₂ _ o (by simpa using Ne.symm hCI) e) hC₀ hD₀ hCL hDL (Ne.symm hDC) (fun p hp => (off3 p hp).2.1) hJ'
    · rcases List.mem_cons.mp hp with rfl | hp
      · exact ⟨hacc, hDL, hD₀⟩
      · exact ⟨old _ _ (N p hp).1, (N p hp).2⟩
  exact codeN_compStart (loop _ rfl) (W.self 0 _ _ _ hst₁ (loop _ rfl))
/-- where the comprehension's source stands -/
def SrcN (prog : Program) (w : World) (A : Around) (h₀ : Heap) (L : Addr) (m : Str → Option Value) (env : Env) (elt : Expr) (x : Str) (scope : Scope) (cl : List (Str × Addr)) (Q : Value → Shared → Prop) (xv : Value) (s₁ : Shared) : Prop :=
  ∃ S n P news J, Fr h₀ L s₁.heap m ∧ News h₀ L s₁.heap news ∧ n ≤ sizeLine ∧ S news ∧ IterG prog w A h₀ L S n P xv s₁ ∧ J 0 [] news ∧
    (∀ g tk, TurnN prog w A h₀ L m env elt x scope cl { s₁ with heap := g, toks := tk } S P n J) ∧
    ∀ ys nw h tk D, J n ys nw → Fr h₀ L h m → News h₀ L h ((D, lst ys) :: nw) → Off1 D nw → Q (.ref D) { s₁ with heap := h, toks := tk }
theorem ListComp_N {elt iter : Expr} {x : Str} {px : Pos} {scope : Scope} {cl : List (Str × Addr)} {pos : Pos} {Q : Value → Shared → Prop} (F₀ : Fr h₀ L s.heap m)
    (hclos : closureFor scope env = pure cl) (hcell : ∀ y ∈ scope.names, y.2 ≠ .cell) (hkind : scope.kind = .function)
    (hnames : ∀ y ∈ scope.names, y.2 = .local → scope.names.lookup y.1 = some .local) (hx : scope.names.lookup x = some .local)
    (h : wpAny (model prog w) A (eval iter env) (SrcN prog w A h₀ L m env elt x scope cl Q) E s)
    (hs : ∀ x, foldedSetIterable iter env x = pure x := by intro _; rfl) :
    wpN (model prog w) A (eval (.ListComp elt [⟨.Name x px, iter, [], 0⟩] scope pos) env) Q E s := by
  rw [eval_ListComp]
  refine wpN_comprehension rfl hs hclos hkind hnames (fun _ _ _ => rfl) (wpAny_mono h (fun xv s₁ h₁ => ?_) fun _ _ e => e)
  obtain ⟨S, n, P, news, J, F, N, hsz, hS, hit, hJ, R, fin⟩ := h₁
  refine hit _ _ fun I fp St h' tk W hIo hSt hst hfp hfp2 hk hI => ?_
  have F' : Fr h₀ L h' m := F.keeps hk
  have N' : News h₀ L h' news := N.grown hk
  refine block_N (s₂ := { s₁ with heap := h', toks := tk }) J (RR := postN Q) W hsz hIo hSt hcell hkind hx hst hfp F' N' (Nat.ne_of_lt (Nat.lt_of_lt_of_le F.ns.lt hI)) (base_none F hI) (fun p hp => Nat.ne_of_lt (Nat.lt_of_lt_of_le (Heap.lt_size (N p hp).1) hI)) hS hJ (R h' tk) ?_
  intro D C h' tk m' ys news' F' N' o1 hn hC₀ hD₀ hCL hDL hCD offC hJ'
  refine ⟨m', hn, fun h'' hs'' => fin ys news' h'' tk D hJ' (F'.change hs'' hCL hC₀) (fun p hp => ?_) o1⟩
  refine ⟨hs''.extBut _ _ ?_ (N' p hp).1, (N' p hp).2⟩
  rcases List.mem_cons.mp hp with rfl | hp
  · exact Ne.symm hCD
  · exact offC p hp
end
end Mine

end
section
open PySem PySem.W PyProof.Rows PySem.Calls
set_option Elab.async false
set_option maxRecDepth 100000
set_option maxHeartbeats 8000000
namespace Mine
open PySem.Spec PySem.Builtin PyProof.Rows.LCg
set_option maxHeartbeats 400000
section
variable {prog : Program} {w : World} {A : Around} {E : Value → Shared → Prop} {s : Shared}
/-- a type's call whose making is by wpN -/
theorem callN_type2 {T newId initId : String} {args : List Value} {Q Q₁ : Value → Shared → Prop} (ft : TypeCalled T newId initId)
    (hct : checkTypeCall T ⟨args, []⟩ = pure ())
    (hnew : codeN (model prog w) A.in1 (.call (.builtin newId) ⟨.type T :: args, []⟩) (wants Q₁ E) s)
    (hnext : ∀ obj s₁, Q₁ obj s₁ → s₁.TypeIs obj T ∧ wpN (model prog w) A.in1 (callSpecial? obj "__init__" args []) (fun r s₂ => r = some .none ∧ Q obj s₂) E s₁) :
    wpN (model prog w) A (call (.type T) args) Q E s := by
  obtain ⟨c, tl, hmro⟩ := ft.mro
  have hmade := ft.made
  have hsub := ft.sub
  refine wpN_call (codeN_of_tree ?_)
  show wpN _ _ (callAny (.type T) _) _ _ _
  refine wpN_pure ⟨Code.quiet_builtin _ (by decide +kernel), no_decoder (by decide +kernel), codeN_builtin F.entry_type_call ?_⟩
  rw [Around.under_plain (weight_type_call_type T args []) rfl]
  have h1 := ft.notType
  have h2 := ft.canCreate
  unfold Builtin.«type.__call__»
  dsimp only
  rw [if_neg (by rw [h1]; exact Bool.false_ne_true)]
  rw [if_neg (by rw [h2]; exact Bool.false_ne_true), hct]
  refine wpN_bind (wpN_pure ?_)
  rw [hmro]
  refine wpN_bind (wpN_pure ?_)
  rw [if_neg (by exact Bool.false_ne_true), hmade]
  refine wpN_bind (wpN_pure ?_)
  dsimp only
  refine wpN_bind (wpN_pure ?_)
  refine wpN_bind (wpN_holding (wpN_call (codeN_mono hnew fun r s₁ hr => ?_)))
  cases r with
  | error e => exact hr
  | ok fl =>
    cases fl with
    | ret obj =>
      obtain ⟨hT, hn⟩ := hnext _ _ hr
      dsimp only
      refine wpN_step (wpAny_isInstance hT hsub ?_)
      rw [if_neg (by decide)]
      refine wpN_bind (wpN_holding (wpN_mono hn (fun r s₂ hq => ?_) fun _ _ e => e))
      obtain ⟨rfl, hq⟩ := hq
      dsimp only
      rw [if_neg (by decide)]
      exact wpN_pure hq
    | _ => exact hr.elim
theorem special_fnN {K : Frag} {x C : Addr} {ox : Obj} {od : Option Obj} {name : Str} {f : Addr} {args : List Value} {Q : Option Value → Shared → Prop} (X : K.In s.heap) (I : InstAt s.heap x ox C od)
    (hs : findIn K (.ref C) name = some (some (.ref f))) (hf : typeIn K (.ref f) = some (.type "function")) (h : wpN (model prog w) A (call (.ref f) (.ref x :: args)) (fun v => Q (some v)) E s) :
    wpN (model prog w) A (callSpecial? (.ref x) name args) Q E s := by
  unfold callSpecial?
  refine wpN_step (wpAny_bind (I.type.here ((looks_findIn X hs).here ?_)))
  exact wpN_holding (wpN_step ((bind_fn X _ hf).here (wpN_bind (wpN_mono h (fun _ _ z => wpN_pure z) fun _ _ z => z))))
theorem strOfN {K : Frag} {x C : Addr} {ox : Obj} {od : Option Obj} {f : Addr} {Q : Value → Shared → Prop} (hu : A.units < cLine) (X : K.In s.heap) (I : InstAt s.heap x ox C od) (hs : findIn K (.ref C) "__str__" = some (some (.ref f))) (hf : isFn K (.ref f) = true)
    (h : wpN (model prog w) A (call (.ref f) [.ref x]) (StrBack Q) E s) : wpN (model prog w) A (PySem.Builtin.Str.strOf (.ref x)) Q E s := by
  unfold PySem.Builtin.Str.strOf
  rw [show Str.isExactStr (.ref x) = false from rfl]
  refine wpN_step (m := cRoomFor _ _) (wpAny_cRoomFor hu ?_)
  refine wpN_bind (m := callSpecial? (.ref x) (Str.ofString "__str__")) (special_fnN X I hs (beq_iff_eq.mp hf) (wpN_mono h (fun r s' hr => ?_) fun _ _ y => y))
  cases r <;> first | exact hr.elim | exact wpN_pure hr
/-- str(x) of an own class's object with its own __str__ -/
theorem strN {K : Frag} {x C : Addr} {ox : Obj} {od : Option Obj} {f : Addr} {Q : Value → Shared → Prop} (hu : A.in1.in1.units < cLine) (X : K.In s.heap) (I : InstAt s.heap x ox C od) (hs : findIn K (.ref C) "__str__" = some (some (.ref f))) (hf : isFn K (.ref f) = true)
    (h : wpN (model prog w) A.in1.in1 (call (.ref f) [.ref x]) (StrBack Q) E s) : wpN (model prog w) A (call (.type "str") [.ref x]) Q E s := by
  refine callN_type2 (T := "str") (Q₁ := fun r s₁ => ∃ y u, r = .str y u ∧ Q r s₁) PySem.F.called_str (PySem.F.typeCall_str_1 _) ?_ ?_
  · refine codeN_of_tree ?_
    show wpN _ A.in1.in1 (do checkBuiltinCall "str.__new__" ⟨[.type "str", .ref x], []⟩; again (.builtin "str.__new__" ⟨[.type "str", .ref x], []⟩)) _ _ s
    refine wpN_step (wpAny_of_eq (PySem.F.newCall_str_1 _) (wpN_pure ⟨plainId_quiet (by decide +kernel) _, no_decoder (by decide +kernel), codeN_builtin PySem.F.entry_str_new ?_⟩))
    rw [Around.under_plainId (by decide +kernel) _]
    rw [str_new_tree]
    refine wpN_bind (wpN_pure ?_)
    refine wpN_step (wpAny_of_eq isSubtype_str_str ?_)
    refine wpN_bind (wpN_mono (strOfN hu X I hs hf (Q := fun r s₁ => ∃ y u, r = .str y u ∧ Q r s₁) (wpN_mono h (fun r s₁ hr => ?_) fun _ _ y => y)) (fun r s₁ hr => wpN_pure hr) fun _ _ y => y)
    cases r <;> first | exact hr.elim | exact ⟨_, _, rfl, hr⟩
  · rintro obj s₁ ⟨y, u, rfl, hq⟩
    have hT : s₁.TypeIs (.str y u) "str" := typeIs_str _ _ _
    refine ⟨hT, callN_slot (T := "str") (name := Str.ofString "__init__") (id := "object.__init__") hT PySem.F.called_str.init (wpN_of ?_)⟩
    exact call_meets PySem.F.called_str.init (typeIs_str _ _ _) PySem.F.entry_object_init (PySem.F.args_object_init_2 _ _) (object_init_meets PySem.F.called_str.init.lookup PySem.F.called_str.made (by decide)) ⟨typeIs_str _ _ _, rfl, hq⟩
theorem codeN_defC {R : Result → Shared → Prop} {A₀ : Around} {base h₀ : Heap} {outer : List Env} {L : Addr} {m : Str → Option Value} {env : Env} {news : List (Addr × Obj)} {K : Frag} {p : Program} {loose : List Str} {mean : ExcName → Option Value} {mg mb : Str → Option Value}
    {name qual : Str} {params : Arguments} {body : List Stmt} {scope : Scope} {dV kV doc pm cdv ct oc : Value} {an od : Option Addr} {osl : Array (Option Value)} {f : Addr} {args : Args} {binds : List (Str × Value)}
    (B : Below A₀ base outer h₀) (F : Fr h₀ L s.heap m) (X₀ : K.In h₀) (N : News h₀ L s.heap news) (T : Top p loose mean mg mb h₀) (hA : A.frames = some (env :: outer)) (hf : env.frame = some L) (hke : env.scope.kind = .function)
    (ho : K.lookup f = some ⟨oc, od, .func (fnOf name qual params body scope dV kV doc pm an cdv ct), osl⟩) (hcd : codeIn K cdv qual = true) (hroom : A.depth < recursionLimit)
    (hbind : BindsTo s (fnOf name qual params body scope dV kV doc pm an cdv ct) args binds) (hkind : (binds.all fun y => scope.names.lookup y.1 == some .local || scope.names.lookup y.1 == some .cell) = true)
    (hnd : ((cellsFrom 0 scope.names []).map (·.1)).Nodup)
    (h : ∀ g L' h₁ tk cells, Fr h₀ L g m → Fr g L' h₁ (bindL (envOfC qual scope L' f cdv).kindOf binds fun _ => none) → News g L' h₁ (cells ++ news) →
      CellsAre (bindC (envOfC qual scope L' f cdv).kindOf binds fun _ => none) (cellsFrom (L' + 1) scope.names []) cells → Below A base (env :: outer) g → K.In g → Top p loose mean mg mb g → (∀ p ∈ news, p.1 < L') →
      wpN (model prog w) (A.deeper (envOfC qual scope L' f cdv)) (execs body (envOfC qual scope L' f cdv))
        (fun fl s' => LeaveK h₀ L m g R (match fl with | .ret v => v | _ => .none) s') noE
        { s with heap := h₁, toks := tk })
    (hco : scope.isCoroutine = false) (hgen : scope.isGenerator = false) (hk : scope.kind = .function) : codeN (model prog w) A (.call (.ref f) args) R s := by
  obtain ⟨FG, BG, st, lv⟩ := groundX (R := R) B F N hA hf hke
  refine codeN_call_function hroom ((X₀.keeps F.keep) _ _ ho) rfl hco hgen rfl (codeRec_of (X₀.keeps F.keep) hcd) (hbind _ _ _ _ ?_)
  refine wpAny_newFunctionEnv_cells hk (kindsX hkind _) fun env' he s' x => ?_
  subst he
  refine ⟨(T.nolimit.keeps F.keep).keeps x.toInCall.keep, codeN_func ?_⟩
  obtain ⟨h₁, tk, rfl, _⟩ := x.done
  have hk₁ := x.toInCall.keep
  obtain ⟨cells, NC, Y⟩ := Cl.news (h₀ := s.heap) (Nat.le_refl _) fun n c hm => ⟨x.cell n c (lookup_of_mem_nodup (cellsFrom_names scope.names 0 (s.heap.objs.size + 1) [] [] rfl ▸ hnd) hm), x.above n c hm⟩
  refine wpN_mono (h _ s.heap.objs.size h₁ tk cells FG ⟨x.toInCall.ns, fun b o e => hk₁ b o (of_hideAll _ e), Nat.le_of_eq (hideAll_size _ _)⟩ (fun p hp => ?_) Y BG (X₀.keeps st) (T.keeps st) (fun p hp => Heap.lt_size (N p hp).1)) (fun fl s' hl => lv _ _ hl) fun _ _ f => f.elim
  rcases List.mem_append.mp hp with hp | hp
  · refine ⟨(NC p hp).1, (NC p hp).2.1, ?_⟩
    cases q : (hideAll s.heap (news.map (·.1))).get? p.1 with
    | none => rfl
    | some o => have := of_hideAll _ q; rw [(NC p hp).2.2] at this; cases this
  · exact ⟨hk₁ _ _ (N p hp).1, Nat.ne_of_lt (Heap.lt_size (N p hp).1), hideAll_none _ (List.mem_map_of_mem hp)⟩
end
end Mine

end
section
open PySem PySem.W PyProof.Rows PySem.Calls
set_option Elab.async false
set_option maxRecDepth 100000
set_option maxHeartbeats 8000000
namespace Mine
example : True := by w_top off; trivial
set_option maxHeartbeats 2000000
open PyProof.Rows.LCg
local macro_rules | `(tactic| k_mem) => `(tactic| first | (with_reducible assumption) | (with_reducible exact List.mem_cons_self) | (with_reducible refine List.mem_cons_of_mem _ ?_; k_mem) | fail "no")
local macro_rules | `(tactic| k_all) => `(tactic| first | exact ne_lt4 (by assumption) | exact ne_lt4 (And.right (by assumption)) | exact ne_lt4 (And.right (And.right (by assumption))) | exact ne_lt1 (by assumption) | exact ne_lt2 (by assumption) | exact ne_lt3 (by assumption) | exact ne_lt3 (And.right (by assumption)) | exact ne_lt3 (And.right (And.right (by assumption))) | exact ne_lt3 (And.right (And.right (And.right (by assumption)))) | fail "no")
/-- a contract by wpN -/
def CtrN (w : World) (dp un : Nat) (f : Value) (vs : List Value) (need : List (Addr × Obj)) (R : Value → List (Addr × Obj) → Prop) : Prop :=
  ∀ (mean : ExcName → Option Value) (mg mb : Str → Option Value) (cn : Str) (cs : Scope) (a : Addr) (ccd : Value) (cl : List (Str × Addr)) (outer : List Env) (A₀ : Around) (base h₀ : Heap) (L : Addr) (m : Str → Option Value) (news : List (Addr × Obj)) (s : Shared)
    (Q : Value → Shared → Prop), cs.kind = .function →
    Below A₀ base outer h₀ → Fr h₀ L s.heap m → (Mine.hd.heap_39 w.params).In h₀ → News h₀ L s.heap news → Top Mine.hd.view_39 (looseW Mine.hd.view_39 []) mean mg mb h₀ →
    (∀ p ∈ need, p ∈ news) →
    (∀ r nl h' tk', Fr h₀ L h' m → News h₀ L h' (nl ++ news) → (∀ p ∈ news, ∀ q ∈ nl, p.1 ≠ q.1) → R r nl → Q r { s with heap := h', toks := tk' }) →
    wpN (model pg w) (ktrTop dp un (some []) cn cs L a ccd cl outer) (call f vs) Q noE s
theorem roomN {α : Type} {M : Model} {A : Around} {E : Value → Shared → Prop} {s : Shared} {t : Sem α} {Q : α → Shared → Prop} {d u : Nat} (hd : A.depth ≤ d) (hu : A.units ≤ u) (h : wpN M { A with depth := d, units := u } t Q E s) : wpN M A t Q E s :=
  fun Γ p hΓ => h Γ p ⟨hΓ.1, Nat.le_trans hΓ.2.1 hd, hΓ.2.2.1, hΓ.2.2.2.1, Nat.le_trans hΓ.2.2.2.2 hu⟩
theorem made_led {prog : Program} {w : World} {A : Around} {E : Value → Shared → Prop} {s : Shared} {h₀ : Heap} {L : Addr} {m : Str → Option Value} {news : List (Addr × Obj)} {b : Array UInt8} {t : Tok} {Q : Value → Shared → Prop} (F : Fr h₀ L s.heap m) (N : News h₀ L s.heap news) (hg : A.guards = some []) (hb : b.size ≤ sizeLine)
    (h : ∀ D h', Fr h₀ L h' m → News h₀ L h' ((D, BA.obj b) :: news) → (∀ p ∈ news, p.1 < D) → Q (.ref D) { s with heap := h' }) : wpN (model prog w) A (call (.type "bytearray") [.bytes b t]) Q E s :=
  BA.made hg hb (h _ _ (F.push _) (fun p hp => by
    rcases List.mem_cons.mp hp with rfl | hp
    · exact ⟨Heap.get?_push_size _ rfl, Nat.ne_of_gt F.ns.lt, base_none F (Nat.le_refl _)⟩
    · exact ⟨Heap.get?_push_of_some _ (N p hp).1, (N p hp).2⟩) fun p hp => Heap.lt_size (N p hp).1)
theorem name_list {h₀ h : Heap} {L : Addr} {l : List (Addr × Obj)} (N : PyProof.Rows.News h₀ L h l) : ∃ l', l' = l ∧ PyProof.Rows.News h₀ L h l' := ⟨_, rfl, N⟩
def dotL : List (List Nat) → List Nat
  | [] => []
  | [a] => a
  | a :: b :: r => a ++ [46] ++ dotL (b :: r)
theorem dotL_text : ∀ ws : List (Array UInt8), ws ≠ [] → dotL (ws.map fun b => encL (KBw.bInts b)) ++ [46] = textL ws
  | [], h => absurd rfl h
  | [b], _ => by simp [dotL, textL]
  | b :: c :: r, _ => by
    have ih := dotL_text (c :: r) (by simp)
    simp only [List.map_cons, dotL] at ih ⊢
    rw [List.append_assoc, ih]
    simp [textL]
theorem foldl_dot (ls : List (List Nat)) : ∀ acc : Array Nat, (ls.map strL).foldl (fun acc p => acc ++ (Str.ofString ".").cps ++ p.cps) acc = acc ++ (ls.flatMap fun l => 46 :: l).toArray := by
  induction ls with
  | nil => intro acc; simp
  | cons l ls ih =>
    intro acc
    rw [List.map_cons, List.foldl_cons, ih]
    have : (Str.ofString ".").cps = #[46] := rfl
    rw [this]
    simp [strL]
theorem dotL_flat : ∀ (r : List (List Nat)) (a : List Nat), dotL (a :: r) = a ++ r.flatMap fun l => 46 :: l
  | [], a => by simp [dotL]
  | b :: r, a => by rw [dotL, dotL_flat r b]; simp
theorem flat_len : ∀ ws : List (Array UInt8), ((ws.map fun b => encL (KBw.bInts b)).flatten).length ≤ (textL ws).length
  | [] => by simp
  | b :: r => by
    have ih := flat_len r
    simp only [List.map_cons, List.flatten_cons, List.length_append, textL, List.flatMap_cons] at ih ⊢
    omega
theorem join_dot (ls : List (List Nat)) : Txt.join (Str.ofString ".") (ls.map strL) = strL (dotL ls) := by
  cases ls with
  | nil => rfl
  | cons l ls =>
    unfold Txt.join Builtin.Str.glued
    simp only [List.map_cons, List.drop_succ_cons, List.drop_zero, List.headD_cons]
    rw [foldl_dot, dotL_flat]
    apply Str.ext'
    simp [strL]
theorem joinD {prog : Program} {w : World} {A : Around} {E : Value → Shared → Prop} {s : Shared} {h₀ : Heap} {L : Addr} {news : List (Addr × Obj)} {t : Tok} {Q : Value → Shared → Prop} {D : Addr} {vs : List Value} {n : Nat} {ls : List (List Nat)} (N : News h₀ L s.heap news) (hm : (D, listOf vs.toArray n) ∈ news) (hS : StrsAre vs (ls.map strL)) (hz : ls.flatten.length + ls.length ≤ 1048576) (h : ∀ t' k, Q (.str (strL (dotL ls)) t') { s with toks := k }) :
    wpAny (model prog w) A (call (.builtin "str.join") [.str (Str.ofString ".") t, .ref D]) Q E s := by
  refine join_listW (isList_of N hm) (by simpa using hS) (Nat.le_of_ble_eq_true rfl) ?_ fun t' k => ?_
  · have : ((ls.map strL).map (·.length)).sum = ls.flatten.length := by
      rw [List.length_flatten, List.map_map]
      exact congrArg List.sum (List.map_congr_left fun a _ => strL_len a)
    rw [this, List.length_map]
    exact hz
  · rw [join_dot]
    exact h t' k
local macro_rules | `(tactic| walk_at "call ref") => `(tactic| (k_here; (with_reducible show wpAny _ _ (call (Value.ref 73) [Value.ref _, Value.ref _]) _ _ _); k_dflt (refine' (dec_ctr _ _ _ _ ?ha).useV ?k1 ?k2 ?k3 ?k4 ?k5 ?kK ?kn ?kd ?ku ?_; (case k1 => k_asm); (case k2 => k_asm); (case k3 => k_asm); (case k4 => k_asm); (case k5 => k_asm); (case kK => exact rfl); (case kd => exact Nat.le_of_ble_eq_true rfl); (case ku => exact Nat.le_of_ble_eq_true rfl); (case kn => exact need_one (by k_mem)); (case ha => assumption)); intro r9 h9 tk9 F9 N9 e9; obtain ⟨t9, e9⟩ := e9; subst e9; (try dsimp only); (try k_fold)))
theorem str_ctr (w : World) (x d t : Addr) (k : Tok) (vs : List Value) (ws : List (Array UInt8)) (hv : BytesAre vs ws) (hw : ∀ b ∈ ws, WordOk b) (hz : ws.length ≤ 4) (h0 : ws ≠ []) :
    CtrN w 930 9300 (.type "str") [.ref x] [(x, instObj 112 d), (d, labD w k t), (t, tup vs)] (fun r nl => nl = [] ∧ ∃ t, r = .str (strL (textL ws)) t) := by
  intro mean mg mb cn cs a ccd cl outer A₀ base h₀ L m news s Q hk B F X N T need hret
  obtain ⟨kd, nm, ig, ic, mo⟩ := cs
  obtain rfl : kd = .function := hk
  refine strN (K := Mine.hd.heap_39 w.params) (C := 112) (f := 78) ?u (X.keeps F.keep) (InstAt.of_news N (need _ (.head _)) (need _ (.tail _ (.head _)))) ?s ?f ?_
  case u => show 9302 < cLine; decide
  case s => k_is
  case f => k_is
  refine wpN_call ?_
  refine' codeN_defC ?k1 ?k2 ?k3 ?k4 ?k5 ?kA ?kF ?kK ?k6 ?k7 ?k8 ?k9 ?kB ?kD ?_ ?c2 ?c3 ?c4
  case kA => exact rfl
  case kF => exact rfl
  case kK => exact rfl
  case k1 => k_asm
  case k2 => k_asm
  case k3 => k_asm
  case k4 => k_asm
  case k5 => k_asm
  case k6 => k_is
  case k7 => k_is
  case k8 => ktr_room
  case k9 => exact BindsTo.of_eq rfl
  case kB => exact rfl
  case kD => decide +kernel
  case c2 => exact rfl
  case c3 => exact rfl
  case c4 => exact rfl
  intro gN LN hN tkN cellsN FGN FN NN YN BN XN TN l1
  (try k_lt l1)
  k_cells YN
  (try simp only [List.cons_append, List.nil_append] at NN)
  (try dsimp only)
  (try k_lift BN)
  (try k_fold)
  replace NN := need_in NN (l := [(x, instObj 112 d), (d, labD w k t), (t, tup vs)]) (fun p hp => List.mem_cons_of_mem _ (need p hp))
  simp only [List.cons_append, List.nil_append] at NN
  refine wpN_execs_cons ?_
  refine wpN_Return ?_
  refine wpN_BinOp ?_
  refine wpN_methodCall ?_
  k_steps
  refine wpN_callWith1 rfl ?_
  refine ListComp_N (F₀ := by k_asm) (by rfl) (by decide) (by rfl) (by decide) (by rfl) ?_
  k_steps
  have hlen : vs.length = ws.length := hv.length
  have hsz : vs.toArray.size ≤ sizeLine := by rw [List.size_toArray, hlen]; exact Nat.le_trans hz (by decide)
  obtain ⟨NL, hNL, NN0⟩ := name_list NN
  have hSrc : SrcTup gN t vs.toArray NL := .inr ⟨tup vs, by rw [hNL]; exact .tail _ (.tail _ (.head _)), rfl, _, rfl⟩
  refine ⟨SrcTup gN t vs.toArray, vs.toArray.size, fun i v => vs.toArray[i]? = some v, NL, fun i ys nw => nw = NL ∧ StrsAre ys ((ws.take i).map fun b => strL (encL (KBw.bInts b))), FN, NN0, hsz, hSrc, iter_tup rfl FN NN0 hSrc, ⟨rfl, .nil⟩, ?turn, ?fin⟩
  case turn =>
    rintro g tk i ys _ v I oI C oC D m₂ h tk2 hi ⟨rfl, hS⟩ hSr hP hC hx F9 N9 off9 ne9
    obtain ⟨b, hb, tb, rfl⟩ := hv.get (by simpa using hP)
    have hbw : WordOk b := hw b (List.mem_of_getElem? hb)
    have hbz : b.size ≤ sizeLine := hbw.size
    clear NN0
    subst hNL
    refine wpN_methodCall ?_
    k_steps
    refine wpN_callWithF ?_
    refine wpN_Call_Name ?_
    k_steps
    refine wpN_callWith1 rfl ?_
    refine wpN_of ?_
    rw [if_neg Bool.false_ne_true]
    k_steps
    refine' made_led ?F ?N ?g ?z ?_
    case F => k_asm
    case N => k_asm
    case g => exact rfl
    case z => exact hbz
    intro D' h' F' N' l1
    (try k_lt l1)
    refine ⟨⟨_, _, (XN.keeps F'.keep) _ _ rfl, rfl⟩, ?_⟩
    dsimp only [List.cons_append, List.nil_append]
    k_steps
    refine' CompEnd.intro ?F ?N _ ?sub off9 hSr ?j
    case F => k_asm
    case N => k_asm
    case sub => exact fun p hp => .tail _ hp
    case j =>
      refine ⟨rfl, ?_⟩
      rw [take_snoc hb, List.map_append]
      exact StrsAre.append hS (.cons _ _ .nil)
  case fin =>
    rintro ys _ h tk D ⟨rfl, hS⟩ F9 N9 off9
    clear NN0
    subst hNL
    have hall : ws.take vs.toArray.size = ws := List.take_of_length_le (by simp [hlen])
    rw [hall] at hS
    have htl := textL_len ws hw
    have hdt := dotL_text ws h0
    have hdl : (dotL (ws.map fun b => encL (KBw.bInts b)) ++ [46]).length ≤ sizeLine := by rw [hdt]; exact Nat.le_trans htl (Nat.le_trans (Nat.mul_le_mul_left _ hz) (by decide))
    refine wpN_of ?_
    dsimp only [List.cons_append, List.nil_append]
    refine joinD (ls := ws.map fun b => encL (KBw.bInts b)) (by k_asm) (by k_mem) (by rw [List.map_map]; exact hS) ?_ ?_
    · have h1 := flat_len ws
      rw [List.length_map]
      have h2 : (textL ws).length ≤ 17 * 4 := Nat.le_trans htl (Nat.mul_le_mul_left _ hz)
      omega
    · intro t' k'
      k_steps
      refine addL rfl dot_is hdl ?_
      intro t2 k2
      rw [hdt]
      k_steps
      refine' hret _ [] _ _ ?hF ?hN nl_nil ⟨rfl, _, rfl⟩
      case hF => k_asm
      case hN => exact News.of_sub (by assumption) (by ((repeat (refine sub_cons (by k_mem) ?_)); (repeat (first | exact sub_here | refine sub_skip ?_))))
end Mine

end
section
open PySem PySem.W PyProof.Rows PySem.Calls
set_option Elab.async false
set_option maxRecDepth 100000
set_option maxHeartbeats 8000000
namespace Mine
set_option maxHeartbeats 2000000
open PyProof.Rows.LCg
local macro_rules | `(tactic| k_mem) => `(tactic| first | (with_reducible assumption) | (with_reducible exact List.mem_cons_self) | (with_reducible refine List.mem_cons_of_mem _ ?_; k_mem) | fail "no")
local macro_rules | `(tactic| k_all) => `(tactic| first | exact ne_lt4 (by assumption) | exact ne_lt4 (And.right (by assumption)) | exact ne_lt4 (And.right (And.right (by assumption))) | exact ne_lt1 (by assumption) | exact ne_lt2 (by assumption) | exact ne_lt3 (by assumption) | exact ne_lt3 (And.right (by assumption)) | exact ne_lt3 (And.right (And.right (by assumption))) | exact ne_lt3 (And.right (And.right (And.right (by assumption)))) | fail "no")
/-- the law's body from its n-th statement -/
def LawW (w : World) (n : Nat) (L a : Addr) (ccd : Value) (Q : Flow → Shared → Prop) (s : Shared) : Prop :=
  ∀ (oc dV kV doc pm cdv ct : Value) (od an : Option Addr) (name qual : Str) (params : Arguments) (body : List Stmt) (scope : Scope) (osl : Array (Option Value)),
    (Mine.hd.heap_39 w.params).lookup 169 = some ⟨oc, od, .func (fnOf name qual params body scope dV kV doc pm an cdv ct), osl⟩ →
    wpN (model pg w) (ktrTop 900 9000 (some []) qual scope L a ccd [] []) (execs (body.drop n) (envOf qual scope L a ccd)) Q noE s
theorem law_iff {w : World} {n : Nat} {L a : Addr} {ccd : Value} {Q : Flow → Shared → Prop} {s : Shared} {oc dV kV doc pm cdv ct : Value} {od an : Option Addr} {name qual : Str} {params : Arguments} {body : List Stmt} {scope : Scope} {osl : Array (Option Value)}
    (ho : (Mine.hd.heap_39 w.params).lookup 169 = some ⟨oc, od, .func (fnOf name qual params body scope dV kV doc pm an cdv ct), osl⟩) :
    LawW w n L a ccd Q s ↔ wpN (model pg w) (ktrTop 900 9000 (some []) qual scope L a ccd [] []) (execs (body.drop n) (envOf qual scope L a ccd)) Q noE s := by
  constructor
  · intro h
    exact h _ _ _ _ _ _ _ _ _ _ _ _ _ _ _ ho
  · intro h oc' dV' kV' doc' pm' cdv' ct' od' an' name' qual' params' body' scope' osl' ho'
    have e := Option.some.inj (ho.symm.trans ho')
    simp only [Obj.mk.injEq, Data.func.injEq, FuncData.mk.injEq, FuncBody.stmts.injEq] at e
    obtain ⟨_, _, e, _⟩ := e
    obtain ⟨_, e2, _, e4, e5, _⟩ := e
    subst e2 e4 e5
    exact h
end Mine

end
section
open PySem PySem.W PyProof.Rows PySem.Calls
set_option Elab.async false
set_option maxRecDepth 100000
set_option maxHeartbeats 8000000
namespace Mine
example : True := by w_top off; trivial
local macro_rules | `(tactic| walk_at "no such goal") => `(tactic| fail "no")
local macro_rules | `(tactic| walk_at "no such goal") => `(tactic| fail "no")
set_option maxHeartbeats 2000000
open PyProof.Rows.LCg
local macro_rules | `(tactic| k_mem) => `(tactic| first | (with_reducible assumption) | (with_reducible exact List.mem_cons_self) | (with_reducible refine List.mem_cons_of_mem _ ?_; k_mem) | fail "no")
local macro_rules | `(tactic| k_all) => `(tactic| first | exact ne_lt4 (by assumption) | exact ne_lt4 (And.right (by assumption)) | exact ne_lt4 (And.right (And.right (by assumption))) | exact ne_lt1 (by assumption) | exact ne_lt2 (by assumption) | exact ne_lt3 (by assumption) | exact ne_lt3 (And.right (by assumption)) | exact ne_lt3 (And.right (And.right (by assumption))) | exact ne_lt3 (And.right (And.right (And.right (by assumption)))) | fail "no")
theorem ints_size {vs : List Value} {ns : List Int} (h : IntsAre vs ns) (hz : ns.length ≤ sizeLine) : vs.length ≤ sizeLine := by rw [h.length]; exact hz
theorem pick_from {l : List Value} {k : Int} (hk : 0 ≤ k) : kms_pick l (some k) none = l.drop k.toNat := by
  unfold kms_pick kms_lo kms_hi
  simp only [if_neg (show ¬ k < 0 by omega)]
  rw [List.take_of_length_le (by rw [List.length_drop]; omega)]
  by_cases h : k.toNat ≤ l.length
  · rw [Nat.min_eq_left h]
  · rw [Nat.min_eq_right (by omega), List.drop_length, List.drop_of_length_le (by omega)]
theorem pick_both {l : List Value} {i j : Int} (h0 : 0 ≤ i) (h1 : i ≤ j) (h2 : j ≤ l.length) : kms_pick l (some i) (some j) = (l.drop i.toNat).take (j - i).toNat := by
  unfold kms_pick kms_lo kms_hi
  simp only [if_neg (show ¬ i < 0 by omega), if_neg (show ¬ j < 0 by omega)]
  rw [Nat.min_eq_left (by omega), Nat.min_eq_left (by omega)]
  congr 1
  omega
def usualL : List Int := [2, 3337, 36006, 9802, 50003, 1, 35, 1, 2]
theorem nine_fits : usualL.length ≤ sizeLine := by decide
def drawnL (ns : List Int) : List Int := (ns.take 9).map (fun k' => k'.fmod 65536) ++ usualL.drop ((ns.take 9).map (fun k' => k'.fmod 65536)).length
theorem drawn_len (ns : List Int) : (drawnL ns).length = 9 := by
  unfold drawnL usualL
  simp only [List.length_append, List.length_drop, List.length_map, List.length_take, List.length_cons, List.length_nil]
  omega
theorem drawn_in (ns : List Int) : ∀ k ∈ drawnL ns, 0 ≤ k ∧ k < 65536 := by
  intro k hk
  rcases List.mem_append.mp hk with h | h
  · obtain ⟨j, _, rfl⟩ := List.mem_map.mp h
    exact ⟨Int.fmod_nonneg_of_pos _ (by decide), Int.fmod_lt_of_pos _ (by decide)⟩
  · have := List.mem_of_mem_drop h
    simp only [usualL, List.mem_cons, List.not_mem_nil, or_false] at this
    omega
section
variable {prog : Program} {w : World} {A : Around} {E : Value → Shared → Prop} {s : Shared} {h₀ : Heap} {L l b : Addr} {m : Str → Option Value} {news : List (Addr × Obj)} {vs zs : List Value} {n n2 : Nat} {Q : Value → Shared → Prop}
theorem add_lst (F : Fr h₀ L s.heap m) (N : News h₀ L s.heap news) (ml : (l, listOf vs.toArray n) ∈ news) (mb : (b, listOf zs.toArray n2) ∈ news) (hz : vs.length + zs.length ≤ 64)
    (h : ∀ D h', Fr h₀ L h' m → News h₀ L h' ((D, listOf (vs ++ zs).toArray 0) :: news) → (∀ p ∈ news, p.1 < D) → Q (.ref D) { s with heap := h' }) : wpAny (model prog w) A (binaryOp .Add (.ref l) (.ref b)) Q E s :=
  add_lists (hsz := Nat.le_trans hz (by decide)) F N (isList_of N ml) (isList_of N mb) fun h' F' N' => h _ h' F' N' fun p hp => Heap.lt_size (N p hp).1
theorem IntsAre.getD_at {vs : List Value} {ns : List Int} (h : IntsAre vs ns) {j : Nat} (hj : j < ns.length) : ∃ t, vs[j]? = some (.int (ns.getD j 0) t) := by
  have hv : j < vs.length := by rw [h.length]; exact hj
  obtain ⟨t, e⟩ := IntsAre.int_at h j vs[j] (List.getElem?_eq_getElem hv)
  exact ⟨t, by rw [List.getElem?_eq_getElem hv, e]⟩
theorem item_int {value slice : Expr} {D : List Int} {k : Int} {u : Tok} (N : News h₀ L s.heap news) (hm : (l, listOf vs.toArray n) ∈ news) (hi : IntsAre vs D) (h0 : 0 ≤ k) (h1 : k < D.length) (h2 : k < 1000) (h : ∀ t, Q (.int (D.getD k.toNat 0) t) s)
    (hs : subscripted slice false (.ref l) (.int k u) = operate [.ref l, .int k u] (getItem (.ref l) (.int k u)) := by with_unfolding_all rfl) :
    wpAny (model prog w) A (subscriptTail value slice (.ref l) (.int k u)) Q E s := by
  obtain ⟨t, e⟩ := IntsAre.getD_at hi (j := k.toNat) (by omega)
  exact item_pos N hm h0 (by omega) (by simpa using e) (h t) hs
end
theorem IntsAre.drop : ∀ {vs : List Value} {ns : List Int}, IntsAre vs ns → ∀ j, IntsAre (vs.drop j) (ns.drop j)
  | _, _, h, 0 => h
  | _, _, .nil, _ + 1 => .nil
  | _, _, .cons _ _ h, j + 1 => IntsAre.drop h j
theorem IntsAre.take : ∀ {vs : List Value} {ns : List Int}, IntsAre vs ns → ∀ j, IntsAre (vs.take j) (ns.take j)
  | _, _, _, 0 => by simpa using IntsAre.nil
  | _, _, .nil, _ + 1 => .nil
  | _, _, .cons _ _ h, j + 1 => .cons _ _ (IntsAre.take h j)
theorem IntsAre.app : ∀ {vs us : List Value} {ns ks : List Int}, IntsAre vs ns → IntsAre us ks → IntsAre (vs ++ us) (ns ++ ks)
  | _, _, _, _, .nil, h => h
  | _, _, _, _, .cons _ _ h, h2 => .cons _ _ (IntsAre.app h h2)
local macro_rules | `(tactic| walk_at "call ref") => `(tactic| (k_here; (with_reducible show wpAny _ _ (call (Value.ref 123) _) _ _ _); (try dsimp only [List.append_nil]); k_dflt (refine' (usual_ctr _).useO ?k1 ?k2 ?k3 ?k4 ?k5 ?kK ?kn ?kd ?ku ?_; (case k1 => k_asm); (case k2 => k_asm); (case k3 => k_asm); (case k4 => k_asm); (case k5 => k_asm); (case kK => exact rfl); (case kd => exact Nat.le_of_ble_eq_true rfl); (case ku => exact Nat.le_of_ble_eq_true rfl); (case kn => exact no_need)); intro a9 o9 h9 tk9 F9 N9 off9 e9; obtain ⟨vs9, e9, i9⟩ := e9; subst e9; (try dsimp only); (try k_fold)))
variable {w : World} {L a : Addr} {ccd : Value} {Q : Flow → Shared → Prop} {s : Shared} {A₀ : Around} {base h₀ : Heap} {mean : ExcName → Option Value} {mg mb m : Str → Option Value}
theorem seg1 {l : Addr} {vs : List Value} {ns : List Int}
    (B : Below A₀ base [] h₀) (X : (Mine.hd.heap_39 w.params).In h₀) (T : Top Mine.hd.view_39 (looseW Mine.hd.view_39 []) mean mg mb h₀)
    (F : Fr h₀ L s.heap m) (N : News h₀ L s.heap []) (hs : m (Str.ofString "script") = some (.ref l)) (hl : h₀.IsList l vs.toArray) (hi : IntsAre vs ns) (hz : ns.length ≤ 63)
    (hk : ∀ h' tk' m' ld ys, Fr h₀ L h' m' → News h₀ L h' [(ld, lst ys)] → m' (Str.ofString "drawn") = some (.ref ld) → IntsAre ys ((ns.take 9).map fun k' => k'.fmod 65536) → LawW w 1 L a ccd Q { s with heap := h', toks := tk' }) : LawW w 0 L a ccd Q s := by
  refine (law_iff (by exact rfl)).mpr ?_
  replace F := fr_know (x := Str.ofString "script") F hs
  refine wpN_execs_step ?_
  k_steps
  refine (law_iff (by exact rfl)).mp (hk _ _ _ _ _ (by k_asm) (News.of_sub (by k_asm) (sub_cons (.head _) nil_sub)) rfl (by assumption))
theorem seg2 {l : Addr} {ys : List Value} {ns : List Int}
    (B : Below A₀ base [] h₀) (X : (Mine.hd.heap_39 w.params).In h₀) (T : Top Mine.hd.view_39 (looseW Mine.hd.view_39 []) mean mg mb h₀)
    (F : Fr h₀ L s.heap m) (N : News h₀ L s.heap [(l, lst ys)]) (hs : m (Str.ofString "drawn") = some (.ref l)) (hi : IntsAre ys ((ns.take 9).map fun k' => k'.fmod 65536))
    (hk : ∀ h' tk' m' ld ds, Fr h₀ L h' m' → News h₀ L h' [(ld, listOf ds.toArray 0)] → m' (Str.ofString "drawn") = some (.ref ld) → IntsAre ds (drawnL ns) → LawW w 2 L a ccd Q { s with heap := h', toks := tk' }) : LawW w 1 L a ccd Q s := by
  obtain ⟨es, hes⟩ : ∃ es, es = ((ns.take 9).map fun k' => k'.fmod 65536) := ⟨_, rfl⟩
  have hz : es.length ≤ 9 := by rw [hes, List.length_map, List.length_take]; omega
  rw [← hes] at hi
  refine (law_iff (by exact rfl)).mpr ?_
  replace F := fr_know (x := Str.ofString "drawn") F hs
  refine wpN_execs_step ?_
  k_steps
  (with_reducible rename Fr _ _ _ _ => F'); (with_reducible rename News _ _ _ _ => N'); (with_reducible rename IntsAre _ _ => hu)
  refine' BL.slice_lst (s := ⟨_, _, _, _, _⟩) F' N' ?m ?pl ?pu ?z ?e ?_
  case m => k_mem
  case pl => exact .int _ _
  case pu => exact .none
  case z => exact ints_size hu nine_fits
  case e => exact rfl
  intro D h' F2 N2 l1
  rw [pick_from (by omega)] at N2
  have hu' := IntsAre.drop hu ((es.length : Int).toNat)
  have hl1 : ys.length = es.length := hi.length
  refine' add_lst F2 N2 (n := ys.length) (n2 := 0) ?m1 ?m2 ?z2 ?_
  case m1 => k_mem
  case m2 => k_mem
  case z2 => rw [List.length_drop, hu.length]; show ys.length + (9 - _) ≤ 64; omega
  intro D2 h2 F3 N3 l2
  k_steps
  refine (law_iff (by exact rfl)).mp (hk _ _ _ _ _ (by k_asm) (News.of_sub (by k_asm) (sub_cons (.head _) nil_sub)) rfl ?_)
  unfold drawnL
  rw [← hes]
  exact IntsAre.app hi (by simpa [usualL] using hu')
end Mine

end
section
open PySem PySem.W PyProof.Rows PySem.Calls
set_option Elab.async false
set_option maxRecDepth 100000
set_option maxHeartbeats 8000000
namespace Mine
example : True := by w_top off; trivial
local macro_rules | `(tactic| walk_at "no such goal") => `(tactic| fail "no")
local macro_rules | `(tactic| walk_at "no such goal") => `(tactic| fail "no")
local macro_rules | `(tactic| walk_at "no such goal") => `(tactic| fail "no")
local macro_rules | `(tactic| walk_at "no such goal") => `(tactic| fail "no")
set_option maxHeartbeats 2000000
open PyProof.Rows.LCg
local macro_rules | `(tactic| k_mem) => `(tactic| first | (with_reducible assumption) | (with_reducible exact List.mem_cons_self) | (with_reducible refine List.mem_cons_of_mem _ ?_; k_mem) | fail "no")
local macro_rules | `(tactic| k_all) => `(tactic| first | exact ne_lt4 (by assumption) | exact ne_lt4 (And.right (by assumption)) | exact ne_lt4 (And.right (And.right (by assumption))) | exact ne_lt1 (by assumption) | exact ne_lt2 (by assumption) | exact ne_lt3 (by assumption) | exact ne_lt3 (And.right (by assumption)) | exact ne_lt3 (And.right (And.right (by assumption))) | exact ne_lt3 (And.right (And.right (And.right (by assumption)))) | fail "no")
local macro_rules | `(tactic| walk_at "call ref") => `(tactic| (k_here; (with_reducible show wpAny _ _ (call (Value.ref 135) [Value.int _ _]) _ _ _); k_dflt (refine' (word_ctr _ _ _ ?ha ?hb).useV ?k1 ?k2 ?k3 ?k4 ?k5 ?kK ?kn ?kd ?ku ?_; (case k1 => k_asm); (case k2 => k_asm); (case k3 => k_asm); (case k4 => k_asm); (case k5 => k_asm); (case kK => exact rfl); (case kd => exact Nat.le_of_ble_eq_true rfl); (case ku => exact Nat.le_of_ble_eq_true rfl); (case kn => exact no_need); (case ha => assumption); (case hb => assumption)); intro r9 h9 tk9 F9 N9 e9; obtain ⟨b9, t9, e9, i9⟩ := e9; subst e9; (try dsimp only); (try k_fold)))
local macro_rules | `(tactic| walk_at "subscriptTail") => `(tactic| (k_here; (with_reducible show wpAny _ _ (subscriptTail _ _ (Value.ref _) (Value.int _ _)) _ _ _); k_dflt (refine' item_int ?N ?m ?i ?a ?b ?c ?_; (case N => k_asm); (case m => k_mem); (case i => with_reducible assumption); (case a => decide); (case b => (rw [drawn_len]; decide)); (case c => decide)); intro _))
variable {w : World} {L a : Addr} {ccd : Value} {Q : Flow → Shared → Prop} {s : Shared} {A₀ : Around} {base h₀ : Heap} {mean : ExcName → Option Value} {mg mb m : Str → Option Value} {ld : Addr} {ds : List Value} {ns : List Int}
theorem seg3
    (B : Below A₀ base [] h₀) (X : (Mine.hd.heap_39 w.params).In h₀) (T : Top Mine.hd.view_39 (looseW Mine.hd.view_39 []) mean mg mb h₀)
    (F : Fr h₀ L s.heap m) (N : News h₀ L s.heap [(ld, listOf ds.toArray 0)]) (hs : m (Str.ofString "drawn") = some (.ref ld)) (hi : IntsAre ds (drawnL ns))
    (hk : ∀ h' tk' m' (c : Int) t, Fr h₀ L h' m' → News h₀ L h' [(ld, listOf ds.toArray 0)] → m' (Str.ofString "drawn") = some (.ref ld) → m' (Str.ofString "count") = some (.int c t) → 2 ≤ c → c ≤ 4 → LawW w 3 L a ccd Q { s with heap := h', toks := tk' }) : LawW w 2 L a ccd Q s := by
  refine (law_iff (by exact rfl)).mpr ?_
  replace F := fr_know (x := Str.ofString "drawn") F hs
  refine wpN_execs_step ?_
  k_steps
  have h1 := Int.fmod_nonneg_of_pos ((drawnL ns).getD (0 : Int).toNat 0) (show (0:Int) < 3 by decide)
  have h2 := Int.fmod_lt_of_pos ((drawnL ns).getD (0 : Int).toNat 0) (show (0:Int) < 3 by decide)
  refine (law_iff (by exact rfl)).mp (hk _ _ _ _ _ (by k_asm) (by k_asm) rfl rfl (by omega) (by omega))
theorem bytes_of {P : Array UInt8 → Prop} : ∀ {ys : List Value}, (∀ (i : Nat) y, ys[i]? = some y → ∃ b t, y = Value.bytes b t ∧ P b) → ∃ ws, BytesAre ys ws ∧ ∀ b ∈ ws, P b
  | [], _ => ⟨[], trivial, fun _ h => nomatch h⟩
  | y :: ys, g => by
    obtain ⟨b, t, rfl, hb⟩ := g 0 y rfl
    obtain ⟨ws, h1, h2⟩ := bytes_of (ys := ys) fun i z hz => g (i + 1) z hz
    exact ⟨b :: ws, ⟨⟨t, rfl⟩, h1⟩, fun c hc => by
      rcases List.mem_cons.mp hc with rfl | hc
      · exact hb
      · exact h2 c hc⟩
theorem seg4 {cnt : Nat} {tc : Tok}
    (B : Below A₀ base [] h₀) (X : (Mine.hd.heap_39 w.params).In h₀) (T : Top Mine.hd.view_39 (looseW Mine.hd.view_39 []) mean mg mb h₀)
    (F : Fr h₀ L s.heap m) (N : News h₀ L s.heap [(ld, listOf ds.toArray 0)]) (hs : m (Str.ofString "drawn") = some (.ref ld)) (hi : IntsAre ds (drawnL ns)) (hc : m (Str.ofString "count") = some (.int (cnt : Int) tc)) (h2 : 2 ≤ cnt) (h4 : cnt ≤ 4)
    (hk : ∀ h' tk' m' lw vs ws, Fr h₀ L h' m' → News h₀ L h' [(lw, lst vs), (ld, listOf ds.toArray 0)] → m' (Str.ofString "drawn") = some (.ref ld) → m' (Str.ofString "count") = some (.int (cnt : Int) tc) → m' (Str.ofString "words") = some (.ref lw) → BytesAre vs ws → ws.length = cnt → (∀ b ∈ ws, WordOk b) → LawW w 4 L a ccd Q { s with heap := h', toks := tk' }) : LawW w 3 L a ccd Q s := by
  refine (law_iff (by exact rfl)).mpr ?_
  replace F := fr_know (x := Str.ofString "drawn") F hs
  replace F := fr_know (x := Str.ofString "count") F hc
  refine wpN_execs_step ?_
  refine Assign_ListComp_G (F₀ := by k_asm) (by rfl) (by rfl) (by rfl) (by decide) (by rfl) (by decide) (by rfl) (by rfl) (by rfl) ?_
  k_steps
  have hdl : ds.length = 9 := by rw [hi.length, drawn_len]
  refine' BL.slice_lst (s := ⟨_, _, _, _, _⟩) F N ?m ?pl ?pu ?z ?e ?_
  case m => k_mem
  case pl => exact .int _ _
  case pu => exact .int _ _
  case z => rw [hdl]; decide
  case e => exact rfl
  intro D h' F2 N2 l1
  rw [pick_both (by decide) (by omega) (by rw [hdl]; omega)] at N2
  have ecnt : ((cnt : Int) + 1 - 1).toNat = cnt := by omega
  rw [ecnt] at N2
  have hu := IntsAre.take (IntsAre.drop hi (1 : Int).toNat) cnt
  have hul : ((ds.drop (1 : Int).toNat).take cnt).length = cnt := by
    rw [List.length_take, List.length_drop, hdl]
    show min cnt (9 - 1) = cnt
    omega
  refine srcG_list rfl F2 N2 (List.mem_cons_self ..) (by rw [List.size_toArray, hul]; exact Nat.le_trans h4 (by decide)) ?_
  intro g tk3
  refine rest_quiet (fun _ v => ∃ b t, v = .bytes b t ∧ WordOk b) (srcAt_mem (List.mem_cons_self ..)) ?_ ?_
  · rintro j v I oI C oC D' ys m₂ h2 tk4 E2 hj hP hC hx F8 N8 off8 ne8
    have hPl : ((ds.drop (1 : Int).toNat).take cnt)[j]? = some v := by simpa using hP
    obtain ⟨t9, rfl⟩ := IntsAre.int_at hu j v hPl
    have hin : 0 ≤ (((drawnL ns).drop (1 : Int).toNat).take cnt).getD j 0 ∧ (((drawnL ns).drop (1 : Int).toNat).take cnt).getD j 0 < 65536 := by
      have hjl : j < (((drawnL ns).drop (1 : Int).toNat).take cnt).length := by
        rw [← hu.length]; exact (List.getElem?_eq_some_iff.mp hPl).1
      rw [List.getD_eq_getElem?_getD, List.getElem?_eq_getElem hjl]
      exact drawn_in ns _ (List.mem_of_mem_drop (List.mem_of_mem_take (List.getElem_mem hjl)))
    generalize (((drawnL ns).drop (1 : Int).toNat).take cnt).getD j 0 = k9 at *
    obtain ⟨hk0, hk1⟩ := hin
    k_steps
    exact end_quiet (by k_asm) (by k_asm) (by k_asm) (srcAt_mem (List.mem_cons_self ..)) ⟨_, _, rfl, by assumption⟩
  · intro ys hl hg D3 h3 tk3 F3 N3 off3
    obtain ⟨ws, hv, hw⟩ := bytes_of hg
    refine (law_iff (by exact rfl)).mp (hk _ _ _ _ _ _ F3 (News.of_sub N3 (sub_cons (.head _) (sub_cons (by k_mem) nil_sub))) rfl rfl rfl hv ?_ hw)
    rw [← hv.length, hl, List.size_toArray, hul]
end Mine

end
section
open PySem PySem.W PyProof.Rows PySem.Calls
set_option Elab.async false
set_option maxRecDepth 100000
set_option maxHeartbeats 8000000
namespace Mine
example : True := by w_top off; trivial
local macro_rules | `(tactic| walk_at "no such goal") => `(tactic| fail "no")
local macro_rules | `(tactic| walk_at "no such goal") => `(tactic| fail "no")
local macro_rules | `(tactic| walk_at "no such goal") => `(tactic| fail "no")
local macro_rules | `(tactic| walk_at "no such goal") => `(tactic| fail "no")
local macro_rules | `(tactic| walk_at "no such goal") => `(tactic| fail "no")
local macro_rules | `(tactic| walk_at "no such goal") => `(tactic| fail "no")
local macro_rules | `(tactic| walk_at "no such goal") => `(tactic| fail "no")
set_option maxHeartbeats 2000000
open PyProof.Rows.LCg
local macro_rules | `(tactic| k_mem) => `(tactic| first | (with_reducible assumption) | (with_reducible exact List.mem_cons_self) | (with_reducible refine List.mem_cons_of_mem _ ?_; k_mem) | fail "no")
local macro_rules | `(tactic| k_all) => `(tactic| first | exact ne_lt4 (by assumption) | exact ne_lt4 (And.right (by assumption)) | exact ne_lt4 (And.right (And.right (by assumption))) | exact ne_lt1 (by assumption) | exact ne_lt2 (by assumption) | exact ne_lt3 (by assumption) | exact ne_lt3 (And.right (by assumption)) | exact ne_lt3 (And.right (And.right (by assumption))) | exact ne_lt3 (And.right (And.right (And.right (by assumption)))) | fail "no")
variable {w : World} {L a : Addr} {ccd : Value} {Q : Flow → Shared → Prop} {s : Shared} {A₀ : Around} {base h₀ : Heap} {mean : ExcName → Option Value} {mg mb m : Str → Option Value} {ld lw : Addr} {ds vs : List Value} {ns : List Int} {ws : List (Array UInt8)}
theorem seg5 {cnt : Nat} {tc : Tok}
    (B : Below A₀ base [] h₀) (X : (Mine.hd.heap_39 w.params).In h₀) (T : Top Mine.hd.view_39 (looseW Mine.hd.view_39 []) mean mg mb h₀)
    (F : Fr h₀ L s.heap m) (N : News h₀ L s.heap [(lw, lst vs), (ld, listOf ds.toArray 0)]) (hs : m (Str.ofString "drawn") = some (.ref ld)) (hc : m (Str.ofString "count") = some (.int (cnt : Int) tc)) (hw : m (Str.ofString "words") = some (.ref lw))
    (hk : ∀ h' tk' m' lo, Fr h₀ L h' m' → News h₀ L h' [(lo, listOf ([] : List Value).toArray 0), (lw, lst vs), (ld, listOf ds.toArray 0)] → lw ≠ lo → ld ≠ lo → m' (Str.ofString "drawn") = some (.ref ld) → m' (Str.ofString "count") = some (.int (cnt : Int) tc) → m' (Str.ofString "words") = some (.ref lw) → m' (Str.ofString "others") = some (.ref lo) → LawW w 5 L a ccd Q { s with heap := h', toks := tk' }) : LawW w 4 L a ccd Q s := by
  refine (law_iff (by exact rfl)).mpr ?_
  replace F := fr_know (x := Str.ofString "drawn") F hs
  replace F := fr_know (x := Str.ofString "count") F hc
  replace F := fr_know (x := Str.ofString "words") F hw
  refine wpN_execs_step ?_
  k_steps
  refine (law_iff (by exact rfl)).mp (hk _ _ _ _ (by k_asm) (by k_asm) (Nat.ne_of_lt (by omega)) (Nat.ne_of_lt (by omega)) rfl rfl rfl rfl)
local macro_rules | `(tactic| walk_at "call type:range") => `(tactic| (k_here; (rename Fr _ _ _ _ => F'); (rename News _ _ _ _ => N'); first | (with_unfolding_all refine range1_rows F' N' ?_; intro _ _ _ _ _ _ _ _ _) | (with_unfolding_all refine range2_rows F' N' ?_; intro _ _ _ _ _ _ _ _ _)))
local macro_rules | `(tactic| walk_at "call ref") => `(tactic| (k_here; (with_reducible show wpAny _ _ (call (Value.ref 145) [Value.bytes _ _]) _ _ _); k_dflt (refine' (other_ctr _ _ _ ?kb).useV ?k1 ?k2 ?k3 ?k4 ?k5 ?kK ?kn ?kd ?ku ?_; (case k1 => k_asm); (case k2 => k_asm); (case k3 => k_asm); (case k4 => k_asm); (case k5 => k_asm); (case kK => exact rfl); (case kd => exact Nat.le_of_ble_eq_true rfl); (case ku => exact Nat.le_of_ble_eq_true rfl); (case kn => exact no_need); (case kb => assumption)); intro r9 h9 tk9 F9 N9 e9; obtain ⟨t9, e9⟩ := e9; subst e9; (try dsimp only); (try k_fold)))
local macro_rules | `(tactic| walk_at "subscriptTail") => `(tactic| (k_here; (with_reducible show wpAny _ _ (subscriptTail _ _ (Value.ref _) (Value.int _ _)) _ _ _); k_dflt (refine' item_pos ?N ?m ?a ?b ?d ?_; (case N => k_asm); (case m => k_mem); (case d => assumption); (case a => omega); (case b => omega))))
local macro_rules | `(tactic| walk_at "subscriptTail") => `(tactic| (k_here; (with_reducible show wpAny _ _ (subscriptTail _ _ (Value.ref _) (Value.int _ _)) _ _ _); k_dflt (refine' item_int ?N ?m ?i ?a ?b ?c ?_; (case N => k_asm); (case m => k_mem); (case i => with_reducible assumption); (case a => decide); (case b => (rw [drawn_len]; decide)); (case c => decide)); intro _))
theorem pow3 {i : Nat} (h : i < 4) : ((3:Int) ^ ((0 : Int) + (i : Int)).toNat) ≠ 0 ∧ ((3:Int) ^ ((0 : Int) + (i : Int)).toNat).natAbs < 1073741824 := by
  rw [show ((0 : Int) + (i : Int)).toNat = i by omega]
  rcases (show i = 0 ∨ i = 1 ∨ i = 2 ∨ i = 3 by omega) with rfl | rfl | rfl | rfl <;> decide
local macro_rules | `(tactic| walk_at "binaryOp FloorDiv int int") => `(tactic| (k_here; (with_reducible refine floordiv_int ?kbe ?_ (Or.inl (PyProof.noPylong_small ?kbp))); (case kbe => exact (pow3 (by omega)).1); (case kbp => exact (pow3 (by omega)).2)))
theorem othB_ok {b : Array UInt8} (h : WordOk b) : WordOk (othB b) := by
  have e : KBw.bInts (othB b) = othL b := KBa.ints_make (othL_in b)
  unfold WordOk
  rw [e]
  unfold othL
  refine ⟨by rw [List.length_map]; exact h.1, by rw [List.length_map]; exact h.2.1, fun k hk => ?_⟩
  obtain ⟨j, hj, rfl⟩ := List.mem_map.mp hk
  have := h.2.2 j hj
  unfold OctOk at this ⊢
  unfold othC
  (repeat' split) <;> omega
theorem turned_ok {c : Array UInt8} {ks : List Int} {k9 : UInt8} (h9 : OctOk (k9.toNat : Int)) (e : KBw.bInts c = List.map (fun c => (c.toNat : Int)) [k9] ++ List.take (ks.length - clipAt ks.length 1) (List.drop (clipAt ks.length 1) ks)) (hk0 : 0 < ks.length) (hk4 : ks.length ≤ 4) (hkin : ∀ k ∈ ks, OctOk k) : WordOk c := by
  have ec : clipAt ks.length 1 = 1 := by
    unfold clipAt
    rw [if_neg (by decide)]
    omega
  unfold WordOk
  rw [e, ec]
  refine ⟨by simp, ?_, fun k hk => ?_⟩
  · simp only [List.length_append, List.length_map, List.length_cons, List.length_nil, List.length_take, List.length_drop]; omega
  · rcases List.mem_append.mp hk with hk | hk
    · simp only [List.map_cons, List.map_nil, List.mem_singleton] at hk
      rw [hk]; exact h9
    · exact hkin _ (List.mem_of_mem_drop (List.mem_of_mem_take hk))
theorem oct121 : OctOk (((Int.toNat 121).toUInt8).toNat : Int) := by unfold OctOk; decide
theorem oct122 : OctOk (((Int.toNat 122).toUInt8).toNat : Int) := by unfold OctOk; decide
theorem all3n {a b c lo : Addr} {oa ob oc : Obj} (ha : a ≠ lo) (hb : b ≠ lo) (hc : c ≠ lo) : ∀ p ∈ [(a, oa), (b, ob), (c, oc)], p.1 ≠ lo := fun p hp => by
  simp only [List.mem_cons, List.not_mem_nil, or_false] at hp
  rcases hp with rfl | rfl | rfl
  · exact ha
  · exact hb
  · exact hc
theorem reorder {h₀ h : Heap} {L : Addr} {a b c d : Addr × Obj} (N : PyProof.Rows.News h₀ L h [a, b, c, d]) : PyProof.Rows.News h₀ L h [b, a, c, d] :=
  News.of_sub N (sub_cons (.tail _ (.head _)) (sub_cons (.head _) (sub_cons (.tail _ (.tail _ (.head _))) (sub_cons (.tail _ (.tail _ (.tail _ (.head _)))) nil_sub))))
theorem rangeSize_0 (n : Nat) : Builtin.Range.rangeSize 0 (n : Int) 1 = (n : Int) := by
  unfold Builtin.Range.rangeSize
  rw [if_pos (by decide)]
  split
  · rw [Int.ediv_one]; omega
  · omega
theorem seg6 {cnt : Nat} {tc : Tok} {lo : Addr}
    (B : Below A₀ base [] h₀) (X : (Mine.hd.heap_39 w.params).In h₀) (T : Top Mine.hd.view_39 (looseW Mine.hd.view_39 []) mean mg mb h₀)
    (F : Fr h₀ L s.heap m) (N : News h₀ L s.heap [(lo, listOf ([] : List Value).toArray 0), (lw, lst vs), (ld, listOf ds.toArray 0)]) (hs : m (Str.ofString "drawn") = some (.ref ld)) (hc : m (Str.ofString "count") = some (.int (cnt : Int) tc)) (hw : m (Str.ofString "words") = some (.ref lw)) (ho : m (Str.ofString "others") = some (.ref lo)) (nw : lw ≠ lo) (nd : ld ≠ lo)
    (hi : IntsAre ds (drawnL ns)) (hv : BytesAre vs ws) (hwl : ws.length = cnt) (hww : ∀ b ∈ ws, WordOk b) (h2 : 2 ≤ cnt) (h4 : cnt ≤ 4)
    (hk : ∀ h' tk' m' us nu os, Fr h₀ L h' m' → News h₀ L h' [(lo, listOf us.toArray nu), (lw, lst vs), (ld, listOf ds.toArray 0)] → m' (Str.ofString "drawn") = some (.ref ld) → m' (Str.ofString "count") = some (.int (cnt : Int) tc) → m' (Str.ofString "words") = some (.ref lw) → m' (Str.ofString "others") = some (.ref lo) →
      BytesAre us os → os.length = cnt → (∀ b ∈ os, WordOk b) → LawW w 6 L a ccd Q { s with heap := h', toks := tk' }) : LawW w 5 L a ccd Q s := by
  refine (law_iff (by exact rfl)).mpr ?_
  replace F := fr_know (x := Str.ofString "drawn") F hs
  replace F := fr_know (x := Str.ofString "count") F hc
  replace F := fr_know (x := Str.ofString "words") F hw
  replace F := fr_know (x := Str.ofString "others") F ho
  refine wpN_execs_step ?_
  refine For_G (by k_asm) (by rfl) (by rfl) ?_
  k_steps
  rename IsRange _ _ _ _ _ _ _ _ => RG
  have hlen : vs.length = ws.length := hv.length
  refine ⟨_, cnt, _, _, _, fun i m nw => ∃ us nu os, nw = [(lo, listOf us.toArray nu), (lw, lst vs), (ld, listOf ds.toArray 0)] ∧ BytesAre us os ∧ os.length = i ∧ (∀ b ∈ os, WordOk b) ∧ m (Str.ofString "drawn") = some (.ref ld) ∧ m (Str.ofString "count") = some (.int (cnt : Int) tc) ∧ m (Str.ofString "words") = some (.ref lw) ∧ m (Str.ofString "others") = some (.ref lo),
    by k_asm, by k_asm, trivial, iter_range rfl RG (small_one (by decide) (by decide) (by omega) (by omega)) (rangeSize_0 _), ⟨[], 0, [], rfl, trivial, rfl, fun _ h => (nomatch h), rfl, rfl, rfl, rfl⟩, ?turn, ?fin⟩
  case turn =>
    rintro i v m₁ nw h tk I oI E' hil ⟨tv, rfl⟩ ⟨us, nu, os, rfl, hu, hul, hou, hd1, hc1, hw1, ho1⟩ _ F9 N9 off9
    obtain ⟨b, hb⟩ : ∃ b, ws[i]? = some b := ⟨_, List.getElem?_eq_getElem (by omega)⟩
    have hbw : WordOk b := hww b (List.mem_of_getElem? hb)
    obtain ⟨v9, hv9⟩ : ∃ v, vs[i]? = some v := ⟨_, List.getElem?_eq_getElem (by omega)⟩
    obtain ⟨b', hb', tb, rfl⟩ := hv.get hv9
    obtain rfl : b = b' := by rw [hb] at hb'; exact Option.some.inj hb'
    have hvx : vs.toArray[((0 : Int) + (i : Int)).toNat]? = some (.bytes b tb) := by
      rw [show ((0 : Int) + (i : Int)).toNat = i by omega]; simpa using hv9
    have hbz : b.size ≤ sizeLine := hbw.size
    clear hb' hv9
    obtain ⟨ks, hks⟩ : ∃ ks, KBw.bInts b = ks := ⟨_, rfl⟩
    obtain ⟨hk0, hk4, hkin⟩ : 0 < ks.length ∧ ks.length ≤ 4 ∧ ∀ k ∈ ks, OctOk k := by rw [← hks]; exact hbw
    dsimp only at F9 N9 ⊢
    replace F9 := fr_know (x := Str.ofString "drawn") F9 hd1
    replace F9 := fr_know (x := Str.ofString "count") F9 hc1
    replace F9 := fr_know (x := Str.ofString "words") F9 hw1
    replace F9 := fr_know (x := Str.ofString "others") F9 ho1
    k_steps
    · exfalso; omega
    all_goals (
      refine' append_head (D := lo) (rest := [(I, oI), (lw, lst vs), (ld, listOf ds.toArray 0)]) ?aF ?aN ?aD ?_ ?aZ
      case aF => k_asm
      case aN => exact News.of_sub (by k_asm) (sub_cons (by k_mem) (sub_cons (by k_mem) (sub_cons (by k_mem) (sub_cons (by k_mem) nil_sub))))
      case aD => exact all3n (Ne.symm (off9 _ (.head _))) nw nd
      case aZ => rw [List.size_toArray, hu.length, hul]; exact Nat.le_trans (Nat.le_of_lt (Nat.lt_of_lt_of_le hil h4)) (by decide)
      intro h5 F5 N5
      rw [push_arr] at N5
      k_steps
      have N6 := reorder N5
      refine TurnG.next F5 N6 (all3n (off9 _ (.head _)) (off9 _ (.tail _ (.head _))) (off9 _ (.tail _ (.tail _ (.head _))))) trivial ⟨_, _, os ++ [_], rfl, BytesAre.app hu ⟨⟨_, rfl⟩, trivial⟩, by simp [hul], ?_, rfl, rfl, rfl, rfl⟩
      intro c hc
      rcases List.mem_append.mp hc with hc | hc
      · exact hou c hc
      · rw [List.mem_singleton.mp hc]
        first | exact hbw | exact othB_ok hbw | exact turned_ok oct121 (by assumption) hk0 hk4 hkin | exact turned_ok oct122 (by assumption) hk0 hk4 hkin)
  case fin =>
    rintro m₁ nw h tk ⟨us, nu, os, rfl, hu, hul, hou, hd1, hc1, hw1, ho1⟩ F9 N9
    exact (law_iff (by exact rfl)).mp (hk _ _ _ _ _ _ F9 N9 hd1 hc1 hw1 ho1 hu hul hou)
end Mine

end
section
open PySem PySem.W PyProof.Rows PySem.Calls
set_option Elab.async false
set_option maxRecDepth 100000
set_option maxHeartbeats 8000000
namespace Mine
example : True := by w_top off; trivial
set_option maxHeartbeats 2000000
open PyProof.Rows.LCg
local macro_rules | `(tactic| k_mem) => `(tactic| first | (with_reducible assumption) | (with_reducible exact List.mem_cons_self) | (with_reducible refine List.mem_cons_of_mem _ ?_; k_mem) | fail "no")
local macro_rules | `(tactic| k_all) => `(tactic| first | exact ne_lt4 (by assumption) | exact ne_lt4 (And.right (by assumption)) | exact ne_lt4 (And.right (And.right (by assumption))) | exact ne_lt1 (by assumption) | exact ne_lt2 (by assumption) | exact ne_lt3 (by assumption) | exact ne_lt3 (And.right (by assumption)) | exact ne_lt3 (And.right (And.right (by assumption))) | exact ne_lt3 (And.right (And.right (And.right (by assumption)))) | fail "no")
/-- what stands through the law behind its seventh statement -/
structure LC (w : World) (A₀ : Around) (base h₀ : Heap) (mean : ExcName → Option Value) (mg mb : Str → Option Value) (ds vs us vs1 us1 : List Value) (ns : List Int) (ws os : List (Array UInt8)) : Prop where
  B : Below A₀ base [] h₀
  X : (Mine.hd.heap_39 w.params).In h₀
  T : Top Mine.hd.view_39 (looseW Mine.hd.view_39 []) mean mg mb h₀
  hi : IntsAre ds (drawnL ns)
  hv : BytesAre vs ws
  hu : BytesAre us os
  hv1 : BytesAre vs1 ws
  hu1 : BytesAre us1 os
  hw : ∀ b ∈ ws, WordOk b
  ho : ∀ b ∈ os, WordOk b
  lo : os.length = ws.length
  l2 : 2 ≤ ws.length
  l4 : ws.length ≤ 4
/-- the law's names -/
structure VC (m : Str → Option Value) (ld lw lo x x2 : Addr) (tc tt : Tok) (ws : List (Array UInt8)) : Prop where
  drawn : m (Str.ofString "drawn") = some (.ref ld)
  count : m (Str.ofString "count") = some (.int (ws.length : Int) tc)
  words : m (Str.ofString "words") = some (.ref lw)
  others : m (Str.ofString "others") = some (.ref lo)
  text : m (Str.ofString "text") = some (.str (strL (textL ws)) tt)
  name : m (Str.ofString "name") = some (.ref x)
  near : m (Str.ofString "near") = some (.ref x2)
variable {w : World} {L a : Addr} {ccd : Value} {Q : Flow → Shared → Prop} {s : Shared} {A₀ : Around} {base h₀ : Heap} {mean : ExcName → Option Value} {mg mb m : Str → Option Value} {ld lw lo : Addr} {tc : Tok} {nu : Nat} {ds vs us : List Value} {ns : List Int} {ws os : List (Array UInt8)}
local macro_rules | `(tactic| walk_at "call ref") => `(tactic| (k_here; (with_reducible show wpAny _ _ (call (Value.ref 152) [Value.ref _]) _ _ _); k_dflt (refine' (text_ctr _ _ _ _ _ ?hv ?hw ?hz).useV ?k1 ?k2 ?k3 ?k4 ?k5 ?kK ?kn ?kd ?ku ?_; (case k1 => k_asm); (case k2 => k_asm); (case k3 => k_asm); (case k4 => k_asm); (case k5 => k_asm); (case kK => exact rfl); (case kd => exact Nat.le_of_ble_eq_true rfl); (case ku => exact Nat.le_of_ble_eq_true rfl); (case kn => exact need_one (by k_mem)); (case hv => assumption); (case hw => assumption); (case hz => omega)); intro r9 h9 tk9 F9 N9 e9; obtain ⟨t9, e9⟩ := e9; subst e9; (try dsimp only); (try k_fold)))
local macro_rules | `(tactic| walk_at "call ref") => `(tactic| (k_here; (with_reducible show wpAny _ _ (call (Value.ref 112) [Value.ref _]) _ _ _); k_dflt (refine' (new_list _ _ _ _ _ ?hv ?hz).useN ?k1 ?k2 ?k3 ?k4 ?k5 ?kK ?kn ?kd ?ku ?_; (case k1 => k_asm); (case k2 => k_asm); (case k3 => k_asm); (case k4 => k_asm); (case k5 => k_asm); (case kK => exact rfl); (case kd => exact Nat.le_of_ble_eq_true rfl); (case ku => exact Nat.le_of_ble_eq_true rfl); (case kn => exact need_one (by k_mem)); (case hv => assumption); (case hz => omega)); intro x9 d9 t9 k9 vs9 h9 tk9 F9 N9 off9 hv9; (try dsimp only); (try k_fold)))
theorem led_of {h₀ h : Heap} {L : Addr} {e a1 a2 a3 b1 b2 b3 c1 c2 c3 : Addr × Obj} (N : PyProof.Rows.News h₀ L h [e, a1, a2, a3, b1, b2, b3, c1, c2, c3]) : PyProof.Rows.News h₀ L h [c2, c1, c3, b1, b2, b3, a1, a2, a3] := fun p hp => N p (by
  simp only [List.mem_cons, List.not_mem_nil, or_false] at hp ⊢
  rcases hp with h | h | h | h | h | h | h | h | h <;> simp [h])
theorem seg7
    (B : Below A₀ base [] h₀) (X : (Mine.hd.heap_39 w.params).In h₀) (T : Top Mine.hd.view_39 (looseW Mine.hd.view_39 []) mean mg mb h₀)
    (F : Fr h₀ L s.heap m) (N : News h₀ L s.heap [(lo, listOf us.toArray nu), (lw, lst vs), (ld, listOf ds.toArray 0)]) (hs : m (Str.ofString "drawn") = some (.ref ld)) (hc : m (Str.ofString "count") = some (.int (ws.length : Int) tc)) (hw : m (Str.ofString "words") = some (.ref lw)) (ho : m (Str.ofString "others") = some (.ref lo))
    (hi : IntsAre ds (drawnL ns)) (hv : BytesAre vs ws) (hu : BytesAre us os) (hww : ∀ b ∈ ws, WordOk b) (hoo : ∀ b ∈ os, WordOk b) (hl : os.length = ws.length) (h2 : 2 ≤ ws.length) (h4 : ws.length ≤ 4)
    (hk : ∀ h' tk' m' x d t x2 d2 t2 k k2 tt vs1 us1, Fr h₀ L h' m' → News h₀ L h' [(lw, lst vs), (lo, listOf us.toArray nu), (ld, listOf ds.toArray 0), (x, instObj 112 d), (d, labD w k t), (t, tup vs1), (x2, instObj 112 d2), (d2, labD w k2 t2), (t2, tup us1)] → LC w A₀ base h₀ mean mg mb ds vs us vs1 us1 ns ws os → VC m' ld lw lo x x2 tc tt ws → LawW w 7 L a ccd Q { s with heap := h', toks := tk' }) : LawW w 6 L a ccd Q s := by
  refine (law_iff (by exact rfl)).mpr ?_
  replace F := fr_know (x := Str.ofString "drawn") F hs
  replace F := fr_know (x := Str.ofString "count") F hc
  replace F := fr_know (x := Str.ofString "words") F hw
  replace F := fr_know (x := Str.ofString "others") F ho
  have h4o : os.length ≤ 4 := by omega
  refine wpN_execs_step ?_
  k_steps
  (with_reducible rename Fr _ _ _ _ => F')
  (with_reducible rename News _ _ _ _ => N')
  rename BytesAre _ os => hv2
  rename BytesAre _ ws => hv1
  refine (law_iff (by exact rfl)).mp (hk _ _ _ _ _ _ _ _ _ _ _ _ _ _ F' (led_of N') ⟨B, X, T, hi, hv, hu, hv1, hv2, hww, hoo, hl, h2, h4⟩ ⟨rfl, rfl, rfl, rfl, rfl, rfl, rfl⟩)
end Mine

end
section
open PySem PySem.W PyProof.Rows PySem.Calls
set_option Elab.async false
set_option maxRecDepth 100000
set_option maxHeartbeats 8000000
namespace Mine
example : True := by w_top off; trivial
local macro_rules | `(tactic| walk_at "no such goal") => `(tactic| fail "no")
local macro_rules | `(tactic| walk_at "no such goal") => `(tactic| fail "no")
local macro_rules | `(tactic| walk_at "no such goal") => `(tactic| fail "no")
set_option maxHeartbeats 2000000
open PyProof.Rows.LCg
local macro_rules | `(tactic| k_mem) => `(tactic| first | (with_reducible assumption) | (with_reducible exact List.mem_cons_self) | (with_reducible refine List.mem_cons_of_mem _ ?_; k_mem) | fail "no")
local macro_rules | `(tactic| k_all) => `(tactic| first | exact ne_lt4 (by assumption) | exact ne_lt4 (And.right (by assumption)) | exact ne_lt4 (And.right (And.right (by assumption))) | exact ne_lt1 (by assumption) | exact ne_lt2 (by assumption) | exact ne_lt3 (by assumption) | exact ne_lt3 (And.right (by assumption)) | exact ne_lt3 (And.right (And.right (by assumption))) | exact ne_lt3 (And.right (And.right (And.right (by assumption)))) | fail "no")
section
variable {w : World} {f : Value} {vs : List Value} {need : List (Addr × Obj)} {R : Value → List (Addr × Obj) → Prop}
  {mean : ExcName → Option Value} {mg mb : Str → Option Value} {d u dp un : Nat} {cn : Str} {cs : Scope} {a : Addr} {ccd : Value} {cl : List (Str × Addr)} {outer : List Env} {A₀ : Around} {base h₀ : Heap} {L : Addr} {m : Str → Option Value} {news : List (Addr × Obj)} {s : Shared}
    {Q : Value → Shared → Prop} {V : Value → Prop}
theorem CtrN.useV (C : CtrN w dp un f vs need (fun r nl => nl = [] ∧ V r)) (B : Below A₀ base outer h₀) (F : Fr h₀ L s.heap m) (X : (Mine.hd.heap_39 w.params).In h₀) (N : News h₀ L s.heap news) (T : Top Mine.hd.view_39 (looseW Mine.hd.view_39 []) mean mg mb h₀) (hk : cs.kind = .function)
    (hn : ∀ p ∈ need, p ∈ news) (hd : d ≤ dp) (hu : u ≤ un)
    (ret : ∀ r h' tk', Fr h₀ L h' m → News h₀ L h' news → V r → Q r { s with heap := h', toks := tk' }) :
    wpN (model pg w) (ktrTop d u (some []) cn cs L a ccd cl outer) (call f vs) Q noE s := roomN (d := dp) (u := un) hd hu (C _ _ _ _ _ _ _ _ _ _ _ _ _ _ _ _ _ hk B F X N T hn fun r nl h' tk' F' N' _ hr => by
  obtain ⟨rfl, hv⟩ := hr
  exact ret r h' tk' F' N' hv)
end
theorem slice_text {prog : Program} {w : World} {A : Around} {E : Value → Shared → Prop} {s : Shared} {h₀ : Heap} {L : Addr} {m : Str → Option Value} {news : List (Addr × Obj)} {value slice : Expr} {l ll : List Nat} {t uj : Tok} {Q : Value → Shared → Prop} (hF : Fr h₀ L s.heap m) (hN : News h₀ L s.heap news) (e : l = ll ++ [46]) (hz : l.length ≤ 100) (h : ∀ h' t' k, Fr h₀ L h' m → News h₀ L h' news → Q (.str (strL ll) t') { s with heap := h', toks := k })
    (hs : subscripted slice false (.str (strL l) t) (.ref s.heap.objs.size) = operate [.ref s.heap.objs.size, .str (strL l) t] (getItem (.str (strL l) t) (.ref s.heap.objs.size)) := by with_unfolding_all rfl)
    (ht : ∀ r, letTemporaryGo value (.str (strL l) t) r = pure () := by intro _; with_unfolding_all rfl) :
    wpAny (model prog w) A (subscriptTail value slice (.str (strL l) t) (.ref s.heap.objs.size)) Q E { s with heap := s.heap.push { cls := .type "slice", data := .fields #[.none, .int (-1) uj, .none] } } := by
  refine slice_strN_ns hF hN (fun h' t' k a b => ?_) hs ht (by rw [strL_len]; exact Nat.le_trans hz (by decide))
  have e2 : Txt.slice (strL l) none (some (-1)) = strL ll := by
    refine (PySem.StrLaws.sliceText_to_neg (x := strL l) (j := -1) (by decide) (by rw [strL_len, e]; simp; omega)).trans ?_
    rw [strL_list, strL_len, e]
    simp only [List.drop_zero, List.length_append, List.length_cons, List.length_nil]
    rw [show ((-1 : Int) + ((ll.length + (0 + 1) : Nat) : Int) - 0).toNat = ll.length by omega, List.take_left']
    · rfl
    · rfl
  rw [e2]
  exact h h' t' k a b
theorem text_last {ws : List (Array UInt8)} (h : ws ≠ []) : ∃ l, textL ws = l ++ [46] := ⟨_, (dotL_text ws h).symm⟩
theorem eq_tupT {prog : Program} {w : World} {A : Around} {E : Value → Shared → Prop} {s : Shared} {h₀ : Heap} {L a b : Addr} {news : List (Addr × Obj)} {xs ys : List Value} {ws : List (Array UInt8)} {Q : Value → Shared → Prop} (N : News h₀ L s.heap news) (ma : (a, tup xs) ∈ news) (mb : (b, tup ys) ∈ news) (hx : BytesAre xs ws) (hy : BytesAre ys ws) (hu : A.units < cLine) (h : Q (.bool true) s) :
    wpAny (model prog w) A (compareOp .Eq (.ref a) (.ref b)) Q E s := eq_tups (newS N ma) (newS N mb) hx hy hu (by rw [decide_eq_true rfl]; exact h)
local macro_rules | `(tactic| walk_at "call ref") => `(tactic| (k_here; (with_reducible show wpAny _ _ (call (Value.ref 112) [Value.str _ _]) _ _ _); k_dflt (refine' (new_text _ _ _ ?ha ?hb ?hc).useN ?k1 ?k2 ?k3 ?k4 ?k5 ?kK ?kn ?kd ?ku ?_; (case k1 => k_asm); (case k2 => k_asm); (case k3 => k_asm); (case k4 => k_asm); (case k5 => k_asm); (case kK => exact rfl); (case kd => exact Nat.le_of_ble_eq_true rfl); (case ku => exact Nat.le_of_ble_eq_true rfl); (case kn => exact nil_sub); (case ha => assumption); (case hb => assumption); (case hc => assumption)); intro x9 d9 t9 k9 vs9 h9 tk9 F9 N9 off9 hv9; (try dsimp only); (try k_fold)))
local macro_rules | `(tactic| walk_at "call ref") => `(tactic| (k_here; (with_reducible show wpAny _ _ (call (Value.ref 112) [Value.str (strL _) _]) _ _ _); k_dflt (refine' (new_text0 _ _ _ _ ?ha ?hb ?hc ?hd).useN ?k1 ?k2 ?k3 ?k4 ?k5 ?kK ?kn ?kd ?ku ?_; (case k1 => k_asm); (case k2 => k_asm); (case k3 => k_asm); (case k4 => k_asm); (case k5 => k_asm); (case kK => exact rfl); (case kd => exact Nat.le_of_ble_eq_true rfl); (case ku => exact Nat.le_of_ble_eq_true rfl); (case kn => exact nil_sub); (case hd => assumption); (case ha => assumption); (case hb => assumption); (case hc => assumption)); intro x9 d9 t9 k9 vs9 h9 tk9 F9 N9 off9 hv9; (try dsimp only); (try k_fold)))
local macro_rules | `(tactic| walk_at "subscriptTail Name Slice str ref") => `(tactic| (k_here; (with_reducible show wpAny _ _ (subscriptTail _ _ (Value.str (strL _) _) (Value.ref _)) _ _ _); (with_reducible rename Fr _ _ _ _ => F'); (with_reducible rename News _ _ _ _ => N'); k_dflt (refine' slice_text (s := ⟨_, _, _, _, _⟩) F' N' ?d ?z ?_; (case d => assumption); (case z => assumption)); intro _ _ _ _ _))
local macro_rules | `(tactic| walk_at "call type:tuple") => `(tactic| (k_here; (with_reducible show wpAny _ _ (call (Value.type "tuple") [Value.ref _]) _ _ _); k_dflt (refine' tupOf ?F ?N ?m ?z ?_; (case F => k_asm); (case N => k_asm); (case m => k_mem); (case z => assumption)); intro D' h' F' N' l1; (try k_lt l1)))
local macro_rules | `(tactic| walk_at "compareOp Eq ref ref") => `(tactic| (k_here; k_dflt (refine' eq_tupT ?N ?a ?b ?x ?y ?u ?_; (case N => k_asm); (case a => k_mem); (case b => k_mem); (case x => assumption); (case y => assumption); (case u => (show 9000 < cLine; decide)))))
theorem seg8 {w : World} {L a : Addr} {ccd : Value} {Q : Flow → Shared → Prop} {s : Shared} {A₀ : Around} {base h₀ : Heap} {mean : ExcName → Option Value} {mg mb m : Str → Option Value} {ld lw lo x d t x2 d2 t2 : Addr} {k k2 tc tt : Tok} {nu : Nat} {ds vs us vs1 us1 : List Value} {ns : List Int} {ws os : List (Array UInt8)} (C : LC w A₀ base h₀ mean mg mb ds vs us vs1 us1 ns ws os) (F : Fr h₀ L s.heap m) (V : VC m ld lw lo x x2 tc tt ws) (N : News h₀ L s.heap [(lw, lst vs), (lo, listOf us.toArray nu), (ld, listOf ds.toArray 0), (x, instObj 112 d), (d, labD w k t), (t, tup vs1), (x2, instObj 112 d2), (d2, labD w k2 t2), (t2, tup us1)])
    (hk : ∀ h' tk' m', Fr h₀ L h' m' → VC m' ld lw lo x x2 tc tt ws → News h₀ L h' [(lw, lst vs), (lo, listOf us.toArray nu), (ld, listOf ds.toArray 0), (x, instObj 112 d), (d, labD w k t), (t, tup vs1), (x2, instObj 112 d2), (d2, labD w k2 t2), (t2, tup us1)] → m' (Str.ofString "good") = some (.bool true) → LawW w 8 L a ccd Q { s with heap := h', toks := tk' }) : LawW w 7 L a ccd Q s := by
  obtain ⟨B, X, T, hi, hv, hu, hv1, hu1, hww, hoo, hlo, hl2, hl4⟩ := C
  refine (law_iff (by exact rfl)).mpr ?_
  replace F := fr_know (x := Str.ofString "words") F V.words
  replace F := fr_know (x := Str.ofString "text") F V.text
  replace F := fr_know (x := Str.ofString "name") F V.name
  have hne : ws ≠ [] := fun e => by rw [e] at hl2; exact absurd hl2 (by decide)
  refine wpN_execs_cons ?_
  refine wpN_Assign_Name ?_
  refine wpN_And ?_
  refine wpN_Compare1 ?_
  refine wpN_Call_Name ?_
  k_steps
  refine wpN_callWith1 rfl ?_
  refine wpN_of ?_
  rw [if_neg Bool.false_ne_true]
  k_steps
  refine' (str_ctr w x d t k vs1 ws hv1 hww hl4 hne).useV ?k1 ?k2 ?k3 ?k4 ?k5 ?kK ?kn ?kd ?ku ?_
  case k1 => k_asm
  case k2 => k_asm
  case k3 => k_asm
  case k4 => k_asm
  case k5 => k_asm
  case kK => exact rfl
  case kn => exact sub_cons (by k_mem) (sub_cons (by k_mem) (sub_cons (by k_mem) nil_sub))
  case kd => exact Nat.le_of_ble_eq_true rfl
  case ku => exact Nat.le_of_ble_eq_true rfl
  intro r9 h9 tk9 F9 N9 e9
  obtain ⟨t9, rfl⟩ := e9
  have hx9 : (strL (textL ws) == strL (textL ws)) = true := beq_self_eq_true _
  k_steps
  refine wpN_of ?_
  obtain ⟨tl, htl⟩ := text_last hne
  have hz16 : vs.length ≤ 16384 := by rw [hv.length]; omega
  have htz : (textL ws).length ≤ 100 := by have := textL_len ws hww; omega
  k_steps
  refine (law_iff (by exact rfl)).mp (hk _ _ _ (by k_asm) ⟨by first | rfl | exact V.drawn, by first | rfl | exact V.count, by first | rfl | exact V.words, by first | rfl | exact V.others, by first | rfl | exact V.text, by first | rfl | exact V.name, by first | rfl | exact V.near⟩ (News.of_sub (by k_asm) (by ((repeat (refine sub_cons (by k_mem) ?_)); (repeat (first | exact sub_here | refine sub_skip ?_))))) rfl)
end Mine

end
section
open PySem PySem.W PyProof.Rows PySem.Calls
set_option Elab.async false
set_option maxRecDepth 100000
set_option maxHeartbeats 8000000
namespace Mine
example : True := by w_top off; trivial
local macro_rules | `(tactic| walk_at "no such goal") => `(tactic| fail "no")
local macro_rules | `(tactic| walk_at "no such goal") => `(tactic| fail "no")
local macro_rules | `(tactic| walk_at "no such goal") => `(tactic| fail "no")
local macro_rules | `(tactic| walk_at "no such goal") => `(tactic| fail "no")
local macro_rules | `(tactic| walk_at "no such goal") => `(tactic| fail "no")
local macro_rules | `(tactic| walk_at "no such goal") => `(tactic| fail "no")
local macro_rules | `(tactic| walk_at "no such goal") => `(tactic| fail "no")
local macro_rules | `(tactic| walk_at "no such goal") => `(tactic| fail "no")
local macro_rules | `(tactic| walk_at "no such goal") => `(tactic| fail "no")
set_option maxHeartbeats 2000000
open PyProof.Rows.LCg
local macro_rules | `(tactic| k_mem) => `(tactic| first | (with_reducible assumption) | (with_reducible exact List.mem_cons_self) | (with_reducible refine List.mem_cons_of_mem _ ?_; k_mem) | fail "no")
local macro_rules | `(tactic| k_all) => `(tactic| first | exact ne_lt4 (by assumption) | exact ne_lt4 (And.right (by assumption)) | exact ne_lt4 (And.right (And.right (by assumption))) | exact ne_lt1 (by assumption) | exact ne_lt2 (by assumption) | exact ne_lt3 (by assumption) | exact ne_lt3 (And.right (by assumption)) | exact ne_lt3 (And.right (And.right (by assumption))) | exact ne_lt3 (And.right (And.right (And.right (by assumption)))) | fail "no")
local macro_rules | `(tactic| walk_at "call ref") => `(tactic| (k_here; (with_reducible show wpAny _ _ (call (Value.ref 152) [Value.ref _]) _ _ _); k_dflt (refine' (text_ctr _ _ _ _ _ ?hv ?hw ?hz).useV ?k1 ?k2 ?k3 ?k4 ?k5 ?kK ?kn ?kd ?ku ?_; (case k1 => k_asm); (case k2 => k_asm); (case k3 => k_asm); (case k4 => k_asm); (case k5 => k_asm); (case kK => exact rfl); (case kd => exact Nat.le_of_ble_eq_true rfl); (case ku => exact Nat.le_of_ble_eq_true rfl); (case kn => exact need_one (by k_mem)); (case hv => assumption); (case hw => assumption); (case hz => omega)); intro r9 h9 tk9 F9 N9 e9; obtain ⟨t9, e9⟩ := e9; subst e9; (try dsimp only); (try k_fold)))
local macro_rules | `(tactic| walk_at "call ref") => `(tactic| (k_here; (with_reducible show wpAny _ _ (call (Value.ref 109) [Value.ref _]) _ _ _); k_dflt (refine' (len_ctr _ _ _ _ _ _ _ ?hv ?hw ?hz ?h0).useV ?k1 ?k2 ?k3 ?k4 ?k5 ?kK ?kn ?kd ?ku ?_; (case k1 => k_asm); (case k2 => k_asm); (case k3 => k_asm); (case k4 => k_asm); (case k5 => k_asm); (case kK => exact rfl); (case kd => exact Nat.le_of_ble_eq_true rfl); (case ku => exact Nat.le_of_ble_eq_true rfl); (case kn => exact sub_cons (by k_mem) (sub_cons (by k_mem) (sub_cons (by k_mem) nil_sub))); (case hv => assumption); (case hw => assumption); (case hz => assumption); (case h0 => assumption)); intro r9 h9 tk9 F9 N9 e9; obtain ⟨t9, e9⟩ := e9; subst e9; (try unfold PySem.W.LenBack); (try dsimp only); (try k_fold)))
local macro_rules | `(tactic| walk_at "getMethod bytes") => `(tactic| (k_here; (with_reducible show wpAny _ _ (getMethod (Value.bytes _ _) (Str.ofString "join") _) _ _ _); k_dflt (refine BL.join_m ?_)))
local macro_rules | `(tactic| walk_at "call builtin:bytes.join") => `(tactic| (k_here; k_dflt (refine' join_lst ?N ?m ?v ?a ?b ?c ?d ?_; (case N => k_asm); (case m => k_mem); (case v => assumption); (case a => assumption); (case b => assumption); (case c => assumption); (case d => assumption)); intro _ _))
local macro_rules | `(tactic| walk_at "call builtin:len") => `(tactic| (k_here; (with_reducible show wpAny _ _ (call (Value.builtin "len") [Value.bytes (List.toArray _) _]) _ _ _); k_dflt (refine' len_glued ?z ?_; (case z => assumption)); intro _ _))
theorem seg9 {w : World} {L a : Addr} {ccd : Value} {Q : Flow → Shared → Prop} {s : Shared} {A₀ : Around} {base h₀ : Heap} {mean : ExcName → Option Value} {mg mb m : Str → Option Value} {ld lw lo x d t x2 d2 t2 : Addr} {k k2 tc tt : Tok} {nu : Nat} {ds vs us vs1 us1 : List Value} {ns : List Int} {ws os : List (Array UInt8)} (C : LC w A₀ base h₀ mean mg mb ds vs us vs1 us1 ns ws os) (F : Fr h₀ L s.heap m) (V : VC m ld lw lo x x2 tc tt ws) (N : News h₀ L s.heap [(lw, lst vs), (lo, listOf us.toArray nu), (ld, listOf ds.toArray 0), (x, instObj 112 d), (d, labD w k t), (t, tup vs1), (x2, instObj 112 d2), (d2, labD w k2 t2), (t2, tup us1)]) (G : m (Str.ofString "good") = some (.bool true))
    (hk : ∀ h' tk' m', Fr h₀ L h' m' → VC m' ld lw lo x x2 tc tt ws → News h₀ L h' [(lw, lst vs), (lo, listOf us.toArray nu), (ld, listOf ds.toArray 0), (x, instObj 112 d), (d, labD w k t), (t, tup vs1), (x2, instObj 112 d2), (d2, labD w k2 t2), (t2, tup us1)] → m' (Str.ofString "good") = some (.bool true) → LawW w 9 L a ccd Q { s with heap := h', toks := tk' }) : LawW w 8 L a ccd Q s := by
  obtain ⟨B, X, T, hi, hv, hu, hv1, hu1, hww, hoo, hlo, hl2, hl4⟩ := C
  refine (law_iff (by exact rfl)).mpr ?_
  replace F := fr_know (x := Str.ofString "words") F V.words
  replace F := fr_know (x := Str.ofString "others") F V.others
  replace F := fr_know (x := Str.ofString "name") F V.name
  replace F := fr_know (x := Str.ofString "near") F V.near
  replace F := fr_know (x := Str.ofString "good") F G
  have hne : ws ≠ [] := fun e => by rw [e] at hl2; exact absurd hl2 (by decide)
  have hno : os ≠ [] := fun e => by rw [e] at hlo; rw [← hlo] at hl2; exact absurd hl2 (by decide)
  have h4o : os.length ≤ 4 := by omega
  refine wpN_execs_cons ?_
  refine wpN_Assign_Name ?_
  refine wpN_And ?_
  refine wpN_of ?_
  k_steps
  refine wpN_And ?_
  refine wpN_Compare1 ?_
  refine wpN_Call_Name ?_
  k_steps
  refine wpN_callWith1 rfl ?_
  refine wpN_of ?_
  rw [if_neg Bool.false_ne_true]
  k_steps
  refine' (str_ctr w x2 d2 t2 k2 us1 os hu1 hoo h4o hno).useV ?k1 ?k2 ?k3 ?k4 ?k5 ?kK ?kn ?kd ?ku ?_
  case k1 => k_asm
  case k2 => k_asm
  case k3 => k_asm
  case k4 => k_asm
  case k5 => k_asm
  case kK => exact rfl
  case kn => exact sub_cons (by k_mem) (sub_cons (by k_mem) (sub_cons (by k_mem) nil_sub))
  case kd => exact Nat.le_of_ble_eq_true rfl
  case ku => exact Nat.le_of_ble_eq_true rfl
  intro r9 h9 tk9 F9 N9 e9
  obtain ⟨t9, rfl⟩ := e9
  have hx9 : (strL (textL os) == strL (textL os)) = true := beq_self_eq_true _
  k_steps
  refine wpN_of ?_
  have hw4 : ∀ b ∈ ws, b.size ≤ 4 := fun b hb => (word_bytes (hww b hb)).2.1
  have hg2 : (BL.gluedD (ws.map Array.toList)).length ≤ 1000 := by have := glued_size ws hw4; omega
  have hg : (BL.gluedD (ws.map Array.toList)).length ≤ sizeLine := Nat.le_trans hg2 (by decide)
  k_steps
  refine (law_iff (by exact rfl)).mp (hk _ _ _ (by k_asm) ⟨by first | rfl | exact V.drawn, by first | rfl | exact V.count, by first | rfl | exact V.words, by first | rfl | exact V.others, by first | rfl | exact V.text, by first | rfl | exact V.name, by first | rfl | exact V.near⟩ (News.of_sub (by k_asm) (by ((repeat (refine sub_cons (by k_mem) ?_)); (repeat (first | exact sub_here | refine sub_skip ?_))))) (by first | rfl | exact congrArg (fun b => some (Value.bool b)) (beq_self_eq_true _)))
end Mine

end
section
open PySem PySem.W PyProof.Rows PySem.Calls
set_option Elab.async false
set_option maxRecDepth 100000
set_option maxHeartbeats 8000000
namespace Mine
example : True := by w_top off; trivial
set_option maxHeartbeats 2000000
open PyProof.Rows.LCg
local macro_rules | `(tactic| k_mem) => `(tactic| first | (with_reducible assumption) | (with_reducible exact List.mem_cons_self) | (with_reducible refine List.mem_cons_of_mem _ ?_; k_mem) | fail "no")
local macro_rules | `(tactic| k_all) => `(tactic| first | exact ne_lt4 (by assumption) | exact ne_lt4 (And.right (by assumption)) | exact ne_lt4 (And.right (And.right (by assumption))) | exact ne_lt1 (by assumption) | exact ne_lt2 (by assumption) | exact ne_lt3 (by assumption) | exact ne_lt3 (And.right (by assumption)) | exact ne_lt3 (And.right (And.right (by assumption))) | exact ne_lt3 (And.right (And.right (And.right (by assumption)))) | fail "no")
local macro_rules | `(tactic| walk_at "call ref") => `(tactic| (k_here; (with_reducible show wpAny _ _ (call (Value.ref 157) [Value.ref _, Value.ref _]) _ _ _); k_dflt (refine' (alike_ctr _ _ _ _ _ _ _ _ _ ?ha ?hb ?hc ?hd ?he ?hf).useV ?k1 ?k2 ?k3 ?k4 ?k5 ?kK ?kn ?kd ?ku ?_; (case k1 => k_asm); (case k2 => k_asm); (case k3 => k_asm); (case k4 => k_asm); (case k5 => k_asm); (case kK => exact rfl); (case kd => exact Nat.le_of_ble_eq_true rfl); (case ku => exact Nat.le_of_ble_eq_true rfl); (case kn => exact sub_cons (by k_mem) (sub_cons (by k_mem) nil_sub)); (case ha => assumption); (case hb => assumption); (case hc => assumption); (case hd => assumption); (case he => assumption); (case hf => assumption)); intro r9 h9 tk9 F9 N9 e9; subst e9; (try dsimp only []); (try k_fold)))
theorem seg10 {w : World} {L a : Addr} {ccd : Value} {Q : Flow → Shared → Prop} {s : Shared} {A₀ : Around} {base h₀ : Heap} {mean : ExcName → Option Value} {mg mb m : Str → Option Value} {ld lw lo x d t x2 d2 t2 : Addr} {k k2 tc tt : Tok} {nu : Nat} {ds vs us vs1 us1 : List Value} {ns : List Int} {ws os : List (Array UInt8)} (C : LC w A₀ base h₀ mean mg mb ds vs us vs1 us1 ns ws os) (F : Fr h₀ L s.heap m) (V : VC m ld lw lo x x2 tc tt ws) (N : News h₀ L s.heap [(lw, lst vs), (lo, listOf us.toArray nu), (ld, listOf ds.toArray 0), (x, instObj 112 d), (d, labD w k t), (t, tup vs1), (x2, instObj 112 d2), (d2, labD w k2 t2), (t2, tup us1)]) (G : m (Str.ofString "good") = some (.bool true))
    (hk : ∀ h' tk' m', Fr h₀ L h' m' → VC m' ld lw lo x x2 tc tt ws → News h₀ L h' [(lw, lst vs), (lo, listOf us.toArray nu), (ld, listOf ds.toArray 0), (x, instObj 112 d), (d, labD w k t), (t, tup vs1), (x2, instObj 112 d2), (d2, labD w k2 t2), (t2, tup us1)] → m' (Str.ofString "good") = some (.bool true) → m' (Str.ofString "alike") = some (.bool (decide (ws.map lowL = os.map lowL))) → LawW w 10 L a ccd Q { s with heap := h', toks := tk' }) : LawW w 9 L a ccd Q s := by
  obtain ⟨B, X, T, hi, hv, hu, hv1, hu1, hww, hoo, hlo, hl2, hl4⟩ := C
  refine (law_iff (by exact rfl)).mpr ?_
  replace F := fr_know (x := Str.ofString "words") F V.words
  replace F := fr_know (x := Str.ofString "others") F V.others
  have h4o : os.length ≤ 4 := by omega
  refine wpN_execs_step ?_
  k_steps
  refine (law_iff (by exact rfl)).mp (hk _ _ _ (by k_asm) ⟨by first | rfl | exact V.drawn, by first | rfl | exact V.count, by first | rfl | exact V.words, by first | rfl | exact V.others, by first | rfl | exact V.text, by first | rfl | exact V.name, by first | rfl | exact V.near⟩ (News.of_sub (by k_asm) (by ((repeat (refine sub_cons (by k_mem) ?_)); (repeat (first | exact sub_here | refine sub_skip ?_))))) (by first | rfl | exact G) rfl)
local macro_rules | `(tactic| walk_at "call ref") => `(tactic| (k_here; (with_reducible show wpAny _ _ (call (Value.ref 152) [Value.ref _]) _ _ _); k_dflt (refine' (text_ctr _ _ _ _ _ ?hv ?hw ?hz).useV ?k1 ?k2 ?k3 ?k4 ?k5 ?kK ?kn ?kd ?ku ?_; (case k1 => k_asm); (case k2 => k_asm); (case k3 => k_asm); (case k4 => k_asm); (case k5 => k_asm); (case kK => exact rfl); (case kd => exact Nat.le_of_ble_eq_true rfl); (case ku => exact Nat.le_of_ble_eq_true rfl); (case kn => exact need_one (by k_mem)); (case hv => assumption); (case hw => assumption); (case hz => omega)); intro r9 h9 tk9 F9 N9 e9; obtain ⟨t9, e9⟩ := e9; subst e9; (try dsimp only); (try k_fold)))
local macro_rules | `(tactic| walk_at "call ref") => `(tactic| (k_here; (with_reducible show wpAny _ _ (call (Value.ref 102) [Value.ref _, Value.ref _]) _ _ _); k_dflt (refine' (eq_ctr _ _ _ _ _ _ _ _ _ _ _ _ _ ?ha ?hb ?hc ?hd ?he ?hf).useV ?k1 ?k2 ?k3 ?k4 ?k5 ?kK ?kn ?kd ?ku ?_; (case k1 => k_asm); (case k2 => k_asm); (case k3 => k_asm); (case k4 => k_asm); (case k5 => k_asm); (case kK => exact rfl); (case kd => exact Nat.le_of_ble_eq_true rfl); (case ku => exact Nat.le_of_ble_eq_true rfl); (case kn => exact sub_cons (by k_mem) (sub_cons (by k_mem) (sub_cons (by k_mem) (sub_cons (by k_mem) (sub_cons (by k_mem) (sub_cons (by k_mem) nil_sub)))))); (case ha => assumption); (case hb => assumption); (case hc => assumption); (case hd => assumption); (case he => assumption); (case hf => assumption)); intro r9 h9 tk9 F9 N9 e9; subst e9; (try unfold PySem.W.CmpBack); (try dsimp only []); (try k_fold)))
local macro_rules | `(tactic| walk_at "call ref") => `(tactic| (k_here; (with_reducible show wpAny _ _ (call (Value.ref 97) [Value.ref _, Value.ref _]) _ _ _); k_dflt (refine' (ne_ctr _ _ _ _ _ _ _ _ _ _ _ _ _ ?ha ?hb ?hc ?hd ?he ?hf).useV ?k1 ?k2 ?k3 ?k4 ?k5 ?kK ?kn ?kd ?ku ?_; (case k1 => k_asm); (case k2 => k_asm); (case k3 => k_asm); (case k4 => k_asm); (case k5 => k_asm); (case kK => exact rfl); (case kd => exact Nat.le_of_ble_eq_true rfl); (case ku => exact Nat.le_of_ble_eq_true rfl); (case kn => exact sub_cons (by k_mem) (sub_cons (by k_mem) (sub_cons (by k_mem) (sub_cons (by k_mem) (sub_cons (by k_mem) (sub_cons (by k_mem) nil_sub)))))); (case ha => assumption); (case hb => assumption); (case hc => assumption); (case hd => assumption); (case he => assumption); (case hf => assumption)); intro r9 h9 tk9 F9 N9 e9; subst e9; (try unfold PySem.W.CmpBack); (try dsimp only []); (try k_fold)))
local macro_rules | `(tactic| walk_at "call ref") => `(tactic| (k_here; (with_reducible show wpAny _ _ (call (Value.ref 102) [Value.ref _, Value.str _ _]) _ _ _); k_dflt (refine' (eqs_ctr _ _ _ _ _ _ _ _ _ ?ha ?hb ?hc ?hd ?he ?hf).useV ?k1 ?k2 ?k3 ?k4 ?k5 ?kK ?kn ?kd ?ku ?_; (case k1 => k_asm); (case k2 => k_asm); (case k3 => k_asm); (case k4 => k_asm); (case k5 => k_asm); (case kK => exact rfl); (case kd => exact Nat.le_of_ble_eq_true rfl); (case ku => exact Nat.le_of_ble_eq_true rfl); (case kn => exact sub_cons (by k_mem) (sub_cons (by k_mem) (sub_cons (by k_mem) nil_sub))); (case ha => assumption); (case hb => assumption); (case hc => assumption); (case hd => assumption); (case he => assumption); (case hf => assumption)); intro r9 h9 tk9 F9 N9 e9; subst e9; (try unfold PySem.W.CmpBack); (try dsimp only []); (try k_fold)))
theorem eq_boolT {prog : Program} {w : World} {A : Around} {E : Value → Shared → Prop} {s : Shared} {b : Bool} {Q : Value → Shared → Prop} (h : Q (.bool true) s) : wpAny (model prog w) A (compareOp .Eq (.bool b) (.bool b)) Q E s :=
  PySem.SeqAt.RcAt.bool_bool b b prog w E Q (by cases b <;> exact h)
local macro_rules | `(tactic| walk_at "compareOp Eq bool bool") => `(tactic| (k_here; k_dflt (refine eq_boolT ?_)))
theorem seg11 {w : World} {L a : Addr} {ccd : Value} {Q : Flow → Shared → Prop} {s : Shared} {A₀ : Around} {base h₀ : Heap} {mean : ExcName → Option Value} {mg mb m : Str → Option Value} {ld lw lo x d t x2 d2 t2 : Addr} {k k2 tc tt : Tok} {nu : Nat} {ds vs us vs1 us1 : List Value} {ns : List Int} {ws os : List (Array UInt8)} (C : LC w A₀ base h₀ mean mg mb ds vs us vs1 us1 ns ws os) (F : Fr h₀ L s.heap m) (V : VC m ld lw lo x x2 tc tt ws) (N : News h₀ L s.heap [(lw, lst vs), (lo, listOf us.toArray nu), (ld, listOf ds.toArray 0), (x, instObj 112 d), (d, labD w k t), (t, tup vs1), (x2, instObj 112 d2), (d2, labD w k2 t2), (t2, tup us1)]) (G : m (Str.ofString "good") = some (.bool true)) (G2 : m (Str.ofString "alike") = some (.bool (decide (ws.map lowL = os.map lowL))))
    (hk : ∀ h' tk' m', Fr h₀ L h' m' → VC m' ld lw lo x x2 tc tt ws → News h₀ L h' [(lw, lst vs), (lo, listOf us.toArray nu), (ld, listOf ds.toArray 0), (x, instObj 112 d), (d, labD w k t), (t, tup vs1), (x2, instObj 112 d2), (d2, labD w k2 t2), (t2, tup us1)] → m' (Str.ofString "good") = some (.bool true) → LawW w 11 L a ccd Q { s with heap := h', toks := tk' }) : LawW w 10 L a ccd Q s := by
  obtain ⟨B, X, T, hi, hv, hu, hv1, hu1, hww, hoo, hlo, hl2, hl4⟩ := C
  refine (law_iff (by exact rfl)).mpr ?_
  replace F := fr_know (x := Str.ofString "others") F V.others
  replace F := fr_know (x := Str.ofString "name") F V.name
  replace F := fr_know (x := Str.ofString "near") F V.near
  replace F := fr_know (x := Str.ofString "alike") F G2
  replace F := fr_know (x := Str.ofString "good") F G
  have h4o : os.length ≤ 4 := by omega
  have h8o : os.length ≤ 8 := by omega
  have h8 : ws.length ≤ 8 := by omega
  have hno : os ≠ [] := fun e => by rw [e] at hlo; rw [← hlo] at hl2; exact absurd hl2 (by decide)
  have hws : ∀ b ∈ ws, b.size ≤ sizeLine := fun b hb => (hww b hb).size
  have hos : ∀ b ∈ os, b.size ≤ sizeLine := fun b hb => (hoo b hb).size
  refine wpN_execs_step ?_
  k_steps
  refine (law_iff (by exact rfl)).mp (hk _ _ _ (by k_asm) ⟨by first | rfl | exact V.drawn, by first | rfl | exact V.count, by first | rfl | exact V.words, by first | rfl | exact V.others, by first | rfl | exact V.text, by first | rfl | exact V.name, by first | rfl | exact V.near⟩ (News.of_sub (by k_asm) (by ((repeat (refine sub_cons (by k_mem) ?_)); (repeat (first | exact sub_here | refine sub_skip ?_))))) rfl)
end Mine

end
section
open PySem PySem.W PyProof.Rows PySem.Calls
set_option Elab.async false
set_option maxRecDepth 100000
set_option maxHeartbeats 8000000
namespace Mine
example : True := by w_top off; trivial
local macro_rules | `(tactic| walk_at "no such goal") => `(tactic| fail "no")
local macro_rules | `(tactic| walk_at "no such goal") => `(tactic| fail "no")
local macro_rules | `(tactic| walk_at "no such goal") => `(tactic| fail "no")
local macro_rules | `(tactic| walk_at "no such goal") => `(tactic| fail "no")
local macro_rules | `(tactic| walk_at "no such goal") => `(tactic| fail "no")
local macro_rules | `(tactic| walk_at "no such goal") => `(tactic| fail "no")
local macro_rules | `(tactic| walk_at "no such goal") => `(tactic| fail "no")
set_option maxHeartbeats 2000000
open PyProof.Rows.LCg
local macro_rules | `(tactic| k_mem) => `(tactic| first | (with_reducible assumption) | (with_reducible exact List.mem_cons_self) | (with_reducible refine List.mem_cons_of_mem _ ?_; k_mem) | fail "no")
local macro_rules | `(tactic| k_all) => `(tactic| first | exact ne_lt4 (by assumption) | exact ne_lt4 (And.right (by assumption)) | exact ne_lt4 (And.right (And.right (by assumption))) | exact ne_lt1 (by assumption) | exact ne_lt2 (by assumption) | exact ne_lt3 (by assumption) | exact ne_lt3 (And.right (by assumption)) | exact ne_lt3 (And.right (And.right (by assumption))) | exact ne_lt3 (And.right (And.right (And.right (by assumption)))) | fail "no")
theorem pick_last {l : List Value} {j : Nat} (h0 : 0 < j) (h : j ≤ l.length) : kms_pick l (some (-(j : Int))) none = l.drop (l.length - j) := by
  unfold kms_pick kms_lo kms_hi
  simp only [if_pos (show (-(j : Int)) < 0 by omega)]
  rw [show (- -(j : Int)).toNat = j by omega]
  exact List.take_of_length_le (by rw [List.length_drop]; omega)
local macro_rules | `(tactic| walk_at "subscriptTail") => `(tactic| (k_here; (with_reducible show wpAny _ _ (subscriptTail _ _ (Value.ref _) (Value.int _ _)) _ _ _); k_dflt (refine' item_int ?N ?m ?i ?a ?b ?c ?_; (case N => k_asm); (case m => k_mem); (case i => with_reducible assumption); (case a => decide); (case b => (rw [drawn_len]; decide)); (case c => decide)); intro _))
theorem small_fits {n : Nat} (h : n ≤ 64) : n ≤ sizeLine := Nat.le_trans h (by decide)
local macro_rules | `(tactic| walk_at "subscriptTail Name Slice ref ref") => `(tactic| (k_here; (with_reducible show wpAny _ _ (subscriptTail _ (Expr.Slice (some _) none none _) (Value.ref _) (Value.ref _)) _ _ _); (with_reducible rename Fr _ _ _ _ => F'); (with_reducible rename News _ _ _ _ => N'); k_dflt (refine' BL.slice_lst (s := ⟨_, _, _, _, _⟩) F' N' ?m ?pl ?pu ?z ?e ?_; (case m => k_mem); (case pl => exact .int _ _); (case pu => exact .none); (case e => exact pick_last (by omega) (by omega)); (case z => exact small_fits (by omega))); intro D' h' F' N' l1; (try k_lt l1)))
theorem seg12 {w : World} {L a : Addr} {ccd : Value} {Q : Flow → Shared → Prop} {s : Shared} {A₀ : Around} {base h₀ : Heap} {mean : ExcName → Option Value} {mg mb m : Str → Option Value} {ld lw lo x d t x2 d2 t2 : Addr} {k k2 tc tt : Tok} {nu : Nat} {ds vs us vs1 us1 : List Value} {ns : List Int} {ws os : List (Array UInt8)} (C : LC w A₀ base h₀ mean mg mb ds vs us vs1 us1 ns ws os) (F : Fr h₀ L s.heap m) (V : VC m ld lw lo x x2 tc tt ws) (N : News h₀ L s.heap [(lw, lst vs), (lo, listOf us.toArray nu), (ld, listOf ds.toArray 0), (x, instObj 112 d), (d, labD w k t), (t, tup vs1), (x2, instObj 112 d2), (d2, labD w k2 t2), (t2, tup us1)]) (G : m (Str.ofString "good") = some (.bool true))
    (hk : ∀ (j : Nat) tj, 1 ≤ j → j ≤ ws.length → ∀ h' tk' m', Fr h₀ L h' m' → VC m' ld lw lo x x2 tc tt ws → News h₀ L h' [(lw, lst vs), (lo, listOf us.toArray nu), (ld, listOf ds.toArray 0), (x, instObj 112 d), (d, labD w k t), (t, tup vs1), (x2, instObj 112 d2), (d2, labD w k2 t2), (t2, tup us1)] → m' (Str.ofString "good") = some (.bool true) → m' (Str.ofString "some") = some (.int (j : Int) tj) → LawW w 12 L a ccd Q { s with heap := h', toks := tk' }) : LawW w 11 L a ccd Q s := by
  obtain ⟨B, X, T, hi, hv, hu, hv1, hu1, hww, hoo, hlo, hl2, hl4⟩ := C
  refine (law_iff (by exact rfl)).mpr ?_
  replace F := fr_know (x := Str.ofString "drawn") F V.drawn
  replace F := fr_know (x := Str.ofString "count") F V.count
  refine wpN_execs_step ?_
  have hpos : (0 : Int) < (ws.length : Int) := by omega
  k_steps
  have h1 := Int.fmod_nonneg_of_pos ((drawnL ns).getD (6 : Int).toNat 0) hpos
  have h2 := Int.fmod_lt_of_pos ((drawnL ns).getD (6 : Int).toNat 0) hpos
  obtain ⟨j, hj⟩ := Int.eq_ofNat_of_zero_le (show (0 : Int) ≤ ((drawnL ns).getD (6 : Int).toNat 0).fmod (ws.length : Int) + 1 by omega)
  refine (law_iff (by exact rfl)).mp (hk j _ (by omega) (by omega) _ _ _ (by k_asm) ⟨by first | rfl | exact V.drawn, by first | rfl | exact V.count, by first | rfl | exact V.words, by first | rfl | exact V.others, by first | rfl | exact V.text, by first | rfl | exact V.name, by first | rfl | exact V.near⟩ (News.of_sub (by k_asm) (by ((repeat (refine sub_cons (by k_mem) ?_)); (repeat (first | exact sub_here | refine sub_skip ?_))))) (by first | rfl | exact G) (congrArg (fun n => some (Value.int n _)) hj))
theorem seg13 {w : World} {L a : Addr} {ccd : Value} {Q : Flow → Shared → Prop} {s : Shared} {A₀ : Around} {base h₀ : Heap} {mean : ExcName → Option Value} {mg mb m : Str → Option Value} {ld lw lo x d t x2 d2 t2 : Addr} {k k2 tc tt : Tok} {nu : Nat} {ds vs us vs1 us1 : List Value} {ns : List Int} {ws os : List (Array UInt8)} {j : Nat} {tj : Tok} (C : LC w A₀ base h₀ mean mg mb ds vs us vs1 us1 ns ws os) (F : Fr h₀ L s.heap m) (V : VC m ld lw lo x x2 tc tt ws) (N : News h₀ L s.heap [(lw, lst vs), (lo, listOf us.toArray nu), (ld, listOf ds.toArray 0), (x, instObj 112 d), (d, labD w k t), (t, tup vs1), (x2, instObj 112 d2), (d2, labD w k2 t2), (t2, tup us1)]) (G : m (Str.ofString "good") = some (.bool true)) (G2 : m (Str.ofString "some") = some (.int (j : Int) tj)) (hj1 : 1 ≤ j) (hj2 : j ≤ ws.length)
    (hk : ∀ le es, BytesAre es (os.drop (os.length - j)) → ∀ h' tk' m', Fr h₀ L h' m' → VC m' ld lw lo x x2 tc tt ws → News h₀ L h' ((le, listOf es.toArray 0) :: [(lw, lst vs), (lo, listOf us.toArray nu), (ld, listOf ds.toArray 0), (x, instObj 112 d), (d, labD w k t), (t, tup vs1), (x2, instObj 112 d2), (d2, labD w k2 t2), (t2, tup us1)]) → m' (Str.ofString "good") = some (.bool true) → m' (Str.ofString "some") = some (.int (j : Int) tj) → m' (Str.ofString "ending") = some (.ref le) → LawW w 13 L a ccd Q { s with heap := h', toks := tk' }) : LawW w 12 L a ccd Q s := by
  obtain ⟨B, X, T, hi, hv, hu, hv1, hu1, hww, hoo, hlo, hl2, hl4⟩ := C
  refine (law_iff (by exact rfl)).mpr ?_
  replace F := fr_know (x := Str.ofString "others") F V.others
  replace F := fr_know (x := Str.ofString "some") F G2
  have hul : us.length = os.length := hu.length
  refine wpN_execs_step ?_
  k_steps
  refine (law_iff (by exact rfl)).mp (hk _ _ (by rw [← hul]; exact hu.drop _) _ _ _ (by k_asm) ⟨by first | rfl | exact V.drawn, by first | rfl | exact V.count, by first | rfl | exact V.words, by first | rfl | exact V.others, by first | rfl | exact V.text, by first | rfl | exact V.name, by first | rfl | exact V.near⟩ (News.of_sub (by k_asm) (by ((repeat (refine sub_cons (by k_mem) ?_)); (repeat (first | exact sub_here | refine sub_skip ?_))))) (by first | rfl | exact G) rfl rfl)
local macro_rules | `(tactic| walk_at "call ref") => `(tactic| (k_here; (with_reducible show wpAny _ _ (call (Value.ref 157) [Value.ref _, Value.ref _]) _ _ _); k_dflt (refine' (alike_ctr _ _ _ _ _ _ _ _ _ ?ha ?hb ?hc ?hd ?he ?hf).useV ?k1 ?k2 ?k3 ?k4 ?k5 ?kK ?kn ?kd ?ku ?_; (case k1 => k_asm); (case k2 => k_asm); (case k3 => k_asm); (case k4 => k_asm); (case k5 => k_asm); (case kK => exact rfl); (case kd => exact Nat.le_of_ble_eq_true rfl); (case ku => exact Nat.le_of_ble_eq_true rfl); (case kn => exact sub_cons (by k_mem) (sub_cons (by k_mem) nil_sub)); (case ha => assumption); (case hb => assumption); (case hc => assumption); (case hd => assumption); (case he => assumption); (case hf => assumption)); intro r9 h9 tk9 F9 N9 e9; subst e9; (try dsimp only []); (try k_fold)))
theorem seg14 {w : World} {L a : Addr} {ccd : Value} {Q : Flow → Shared → Prop} {s : Shared} {A₀ : Around} {base h₀ : Heap} {mean : ExcName → Option Value} {mg mb m : Str → Option Value} {ld lw lo x d t x2 d2 t2 : Addr} {k k2 tc tt : Tok} {nu : Nat} {ds vs us vs1 us1 : List Value} {ns : List Int} {ws os : List (Array UInt8)} {j : Nat} {tj : Tok} {le : Addr} {es : List Value} (C : LC w A₀ base h₀ mean mg mb ds vs us vs1 us1 ns ws os) (F : Fr h₀ L s.heap m) (V : VC m ld lw lo x x2 tc tt ws) (N : News h₀ L s.heap ((le, listOf es.toArray 0) :: [(lw, lst vs), (lo, listOf us.toArray nu), (ld, listOf ds.toArray 0), (x, instObj 112 d), (d, labD w k t), (t, tup vs1), (x2, instObj 112 d2), (d2, labD w k2 t2), (t2, tup us1)])) (G : m (Str.ofString "good") = some (.bool true)) (G2 : m (Str.ofString "some") = some (.int (j : Int) tj)) (G3 : m (Str.ofString "ending") = some (.ref le)) (hj1 : 1 ≤ j) (hj2 : j ≤ ws.length) (he : BytesAre es (os.drop (os.length - j)))
    (hk : ∀ h' tk' m', Fr h₀ L h' m' → VC m' ld lw lo x x2 tc tt ws → News h₀ L h' ((le, listOf es.toArray 0) :: [(lw, lst vs), (lo, listOf us.toArray nu), (ld, listOf ds.toArray 0), (x, instObj 112 d), (d, labD w k t), (t, tup vs1), (x2, instObj 112 d2), (d2, labD w k2 t2), (t2, tup us1)]) → m' (Str.ofString "good") = some (.bool true) → m' (Str.ofString "some") = some (.int (j : Int) tj) → m' (Str.ofString "ending") = some (.ref le) → m' (Str.ofString "same") = some (.bool (decide ((ws.drop (ws.length - j)).map lowL = (os.drop (os.length - j)).map lowL))) → LawW w 14 L a ccd Q { s with heap := h', toks := tk' }) : LawW w 13 L a ccd Q s := by
  obtain ⟨B, X, T, hi, hv, hu, hv1, hu1, hww, hoo, hlo, hl2, hl4⟩ := C
  refine (law_iff (by exact rfl)).mpr ?_
  replace F := fr_know (x := Str.ofString "words") F V.words
  replace F := fr_know (x := Str.ofString "some") F G2
  replace F := fr_know (x := Str.ofString "ending") F G3
  have hvl : vs.length = ws.length := hv.length
  have hvd : BytesAre (vs.drop (vs.length - j)) (ws.drop (ws.length - j)) := by rw [← hvl]; exact hv.drop _
  have hwd : ∀ b ∈ ws.drop (ws.length - j), WordOk b := fun b hb => hww b (List.mem_of_mem_drop hb)
  have hod : ∀ b ∈ os.drop (os.length - j), WordOk b := fun b hb => hoo b (List.mem_of_mem_drop hb)
  have hz1 : (ws.drop (ws.length - j)).length ≤ 4 := by rw [List.length_drop]; omega
  have hz2 : (os.drop (os.length - j)).length ≤ 4 := by rw [List.length_drop]; omega
  refine wpN_execs_step ?_
  k_steps
  refine (law_iff (by exact rfl)).mp (hk _ _ _ (by k_asm) ⟨by first | rfl | exact V.drawn, by first | rfl | exact V.count, by first | rfl | exact V.words, by first | rfl | exact V.others, by first | rfl | exact V.text, by first | rfl | exact V.name, by first | rfl | exact V.near⟩ (News.of_sub (by k_asm) (by ((repeat (refine sub_cons (by k_mem) ?_)); (repeat (first | exact sub_here | refine sub_skip ?_))))) (by first | rfl | exact G) rfl rfl rfl)
end Mine

end
section
open PySem PySem.W PyProof.Rows PySem.Calls
set_option Elab.async false
set_option maxRecDepth 100000
set_option maxHeartbeats 8000000
namespace Mine
example : True := by w_top off; trivial
set_option maxHeartbeats 2000000
open PyProof.Rows.LCg
local macro_rules | `(tactic| k_mem) => `(tactic| first | (with_reducible assumption) | (with_reducible exact List.mem_cons_self) | (with_reducible refine List.mem_cons_of_mem _ ?_; k_mem) | fail "no")
local macro_rules | `(tactic| k_all) => `(tactic| first | exact ne_lt4 (by assumption) | exact ne_lt4 (And.right (by assumption)) | exact ne_lt4 (And.right (And.right (by assumption))) | exact ne_lt1 (by assumption) | exact ne_lt2 (by assumption) | exact ne_lt3 (by assumption) | exact ne_lt3 (And.right (by assumption)) | exact ne_lt3 (And.right (And.right (by assumption))) | exact ne_lt3 (And.right (And.right (And.right (by assumption)))) | fail "no")
local macro_rules | `(tactic| walk_at "call ref") => `(tactic| (k_here; (with_reducible show wpAny _ _ (call (Value.ref 152) [Value.ref _]) _ _ _); k_dflt (refine' (text_ctr _ _ _ _ _ ?hv ?hw ?hz).useV ?k1 ?k2 ?k3 ?k4 ?k5 ?kK ?kn ?kd ?ku ?_; (case k1 => k_asm); (case k2 => k_asm); (case k3 => k_asm); (case k4 => k_asm); (case k5 => k_asm); (case kK => exact rfl); (case kd => exact Nat.le_of_ble_eq_true rfl); (case ku => exact Nat.le_of_ble_eq_true rfl); (case kn => exact need_one (by k_mem)); (case hv => assumption); (case hw => assumption); (case hz => omega)); intro r9 h9 tk9 F9 N9 e9; obtain ⟨t9, e9⟩ := e9; subst e9; (try dsimp only); (try k_fold)))
local macro_rules | `(tactic| walk_at "call ref") => `(tactic| (k_here; (with_reducible show wpAny _ _ (call (Value.ref 112) [Value.ref _]) _ _ _); k_dflt (refine' (new_list _ _ _ _ _ ?hv ?hz).useN ?k1 ?k2 ?k3 ?k4 ?k5 ?kK ?kn ?kd ?ku ?_; (case k1 => k_asm); (case k2 => k_asm); (case k3 => k_asm); (case k4 => k_asm); (case k5 => k_asm); (case kK => exact rfl); (case kd => exact Nat.le_of_ble_eq_true rfl); (case ku => exact Nat.le_of_ble_eq_true rfl); (case kn => exact need_one (by k_mem)); (case hv => assumption); (case hz => omega)); intro x9 d9 t9 k9 vs9 h9 tk9 F9 N9 off9 hv9; (try dsimp only); (try k_fold)))
local macro_rules | `(tactic| walk_at "call ref") => `(tactic| (k_here; (with_reducible show wpAny _ _ (call (Value.ref 61) [Value.ref _, Value.ref _]) _ _ _); k_dflt (refine' (ms_ctr _ _ _ _ _ _ _ _ _ _ _ _ _ ?ha ?hb ?hc ?hd ?he ?hf ?hg).useV ?k1 ?k2 ?k3 ?k4 ?k5 ?kK ?kn ?kd ?ku ?_; (case k1 => k_asm); (case k2 => k_asm); (case k3 => k_asm); (case k4 => k_asm); (case k5 => k_asm); (case kK => exact rfl); (case kd => exact Nat.le_of_ble_eq_true rfl); (case ku => exact Nat.le_of_ble_eq_true rfl); (case kn => exact sub_cons (by k_mem) (sub_cons (by k_mem) (sub_cons (by k_mem) (sub_cons (by k_mem) (sub_cons (by k_mem) (sub_cons (by k_mem) nil_sub)))))); (case ha => assumption); (case hb => assumption); (case hc => assumption); (case hd => assumption); (case he => assumption); (case hf => assumption); (case hg => assumption)); intro r9 h9 tk9 F9 N9 e9; subst e9; (try dsimp only []); (try k_fold)))
local macro_rules | `(tactic| walk_at "call ref") => `(tactic| (k_here; (with_reducible show wpAny _ _ (call (Value.ref 61) [Value.ref _, Value.str _ _]) _ _ _); k_dflt (refine' (mss_ctr _ _ _ _ _ _ _ _ _ ?ha ?hb ?hc ?hd ?he ?hf ?hg).useV ?k1 ?k2 ?k3 ?k4 ?k5 ?kK ?kn ?kd ?ku ?_; (case k1 => k_asm); (case k2 => k_asm); (case k3 => k_asm); (case k4 => k_asm); (case k5 => k_asm); (case kK => exact rfl); (case kd => exact Nat.le_of_ble_eq_true rfl); (case ku => exact Nat.le_of_ble_eq_true rfl); (case kn => exact sub_cons (by k_mem) (sub_cons (by k_mem) (sub_cons (by k_mem) nil_sub))); (case ha => assumption); (case hb => assumption); (case hc => assumption); (case hd => assumption); (case he => assumption); (case hf => assumption); (case hg => assumption)); intro r9 h9 tk9 F9 N9 e9; subst e9; (try dsimp only []); (try k_fold)))
local macro_rules | `(tactic| walk_at "compareOp Eq bool bool") => `(tactic| (k_here; k_dflt (refine eq_boolT ?_)))
theorem seg15 {w : World} {L a : Addr} {ccd : Value} {Q : Flow → Shared → Prop} {s : Shared} {A₀ : Around} {base h₀ : Heap} {mean : ExcName → Option Value} {mg mb m : Str → Option Value} {ld lw lo x d t x2 d2 t2 : Addr} {k k2 tc tt : Tok} {nu : Nat} {ds vs us vs1 us1 : List Value} {ns : List Int} {ws os : List (Array UInt8)} {tj : Tok} {le : Addr} {es : List Value} {eo : List (Array UInt8)} (C : LC w A₀ base h₀ mean mg mb ds vs us vs1 us1 ns ws os) (F : Fr h₀ L s.heap m) (V : VC m ld lw lo x x2 tc tt ws) (N : News h₀ L s.heap ((le, listOf es.toArray 0) :: [(lw, lst vs), (lo, listOf us.toArray nu), (ld, listOf ds.toArray 0), (x, instObj 112 d), (d, labD w k t), (t, tup vs1), (x2, instObj 112 d2), (d2, labD w k2 t2), (t2, tup us1)])) (G : m (Str.ofString "good") = some (.bool true)) (G2 : m (Str.ofString "some") = some (.int (eo.length : Int) tj)) (G3 : m (Str.ofString "ending") = some (.ref le)) (G4 : m (Str.ofString "same") = some (.bool (decide ((ws.drop (ws.length - eo.length)).map lowL = eo.map lowL)))) (hj1 : 0 < eo.length) (hj2 : eo.length ≤ ws.length) (he : BytesAre es eo) (hew : ∀ b ∈ eo, WordOk b)
    (hk : ∀ h' tk' m', Fr h₀ L h' m' → VC m' ld lw lo x x2 tc tt ws → News h₀ L h' ((le, listOf es.toArray 0) :: [(lw, lst vs), (lo, listOf us.toArray nu), (ld, listOf ds.toArray 0), (x, instObj 112 d), (d, labD w k t), (t, tup vs1), (x2, instObj 112 d2), (d2, labD w k2 t2), (t2, tup us1)]) → m' (Str.ofString "good") = some (.bool true) → m' (Str.ofString "some") = some (.int (eo.length : Int) tj) → m' (Str.ofString "ending") = some (.ref le) → m' (Str.ofString "same") = some (.bool (decide ((ws.drop (ws.length - eo.length)).map lowL = eo.map lowL))) → LawW w 15 L a ccd Q { s with heap := h', toks := tk' }) : LawW w 14 L a ccd Q s := by
  obtain ⟨B, X, T, hi, hv, hu, hv1, hu1, hww, hoo, hlo, hl2, hl4⟩ := C
  refine (law_iff (by exact rfl)).mpr ?_
  replace F := fr_know (x := Str.ofString "name") F V.name
  replace F := fr_know (x := Str.ofString "ending") F G3
  replace F := fr_know (x := Str.ofString "same") F G4
  replace F := fr_know (x := Str.ofString "good") F G
  have h8 : ws.length ≤ 8 := by omega
  have h4e : eo.length ≤ 4 := by omega
  have hne : eo ≠ [] := List.length_pos_iff.mp hj1
  have hws : ∀ b ∈ ws, b.size ≤ sizeLine := fun b hb => (hww b hb).size
  have hes : ∀ b ∈ eo, b.size ≤ sizeLine := fun b hb => (hew b hb).size
  refine wpN_execs_step ?_
  k_steps
  refine (law_iff (by exact rfl)).mp (hk _ _ _ (by k_asm) ⟨by first | rfl | exact V.drawn, by first | rfl | exact V.count, by first | rfl | exact V.words, by first | rfl | exact V.others, by first | rfl | exact V.text, by first | rfl | exact V.name, by first | rfl | exact V.near⟩ (News.of_sub (by k_asm) (by ((repeat (refine sub_cons (by k_mem) ?_)); (repeat (first | exact sub_here | refine sub_skip ?_))))) (by first | rfl | exact G) (by first | rfl | exact G2) rfl rfl)
end Mine

end
section
open PySem PySem.W PyProof.Rows PySem.Calls
set_option Elab.async false
set_option maxRecDepth 100000
set_option maxHeartbeats 8000000
namespace Mine
example : True := by w_top off; trivial
local macro_rules | `(tactic| walk_at "no such goal") => `(tactic| fail "no")
local macro_rules | `(tactic| walk_at "no such goal") => `(tactic| fail "no")
local macro_rules | `(tactic| walk_at "no such goal") => `(tactic| fail "no")
local macro_rules | `(tactic| walk_at "no such goal") => `(tactic| fail "no")
local macro_rules | `(tactic| walk_at "no such goal") => `(tactic| fail "no")
local macro_rules | `(tactic| walk_at "no such goal") => `(tactic| fail "no")
set_option maxHeartbeats 2000000
open PyProof.Rows.LCg
local macro_rules | `(tactic| k_mem) => `(tactic| first | (with_reducible assumption) | (with_reducible exact List.mem_cons_self) | (with_reducible refine List.mem_cons_of_mem _ ?_; k_mem) | fail "no")
local macro_rules | `(tactic| k_all) => `(tactic| first | exact ne_lt4 (by assumption) | exact ne_lt4 (And.right (by assumption)) | exact ne_lt4 (And.right (And.right (by assumption))) | exact ne_lt1 (by assumption) | exact ne_lt2 (by assumption) | exact ne_lt3 (by assumption) | exact ne_lt3 (And.right (by assumption)) | exact ne_lt3 (And.right (And.right (by assumption))) | exact ne_lt3 (And.right (And.right (And.right (by assumption)))) | fail "no")
theorem Ctr.mono {w : World} {dp un : Nat} {f : Value} {vs : List Value} {need : List (Addr × Obj)} {R R' : Value → List (Addr × Obj) → Prop} (C : Ctr w dp un f vs need R) (h : ∀ r nl, R r nl → R' r nl) : Ctr w dp un f vs need R' :=
  fun mean mg mb gd cn cs a ccd cl outer A₀ base h₀ L m news s Q E hk B F X N T hn ret => C mean mg mb gd cn cs a ccd cl outer A₀ base h₀ L m news s Q E hk B F X N T hn fun r nl h' tk' F' N' hl hr => ret r nl h' tk' F' N' hl (h r nl hr)
theorem ssT_ctr (w : World) (x d t x2 d2 t2 : Addr) (k k2 : Tok) (vs vs2 : List Value) (ws ws2 : List (Array UInt8)) (hv : BytesAre vs ws) (hv2 : BytesAre vs2 ws2) (hw : ∀ b ∈ ws, b.size ≤ sizeLine) (hw2 : ∀ b ∈ ws2, b.size ≤ sizeLine) (hz : ws.length ≤ 8) (hz2 : ws2.length ≤ ws.length) (h0 : 0 < ws2.length) (hs : (ws.drop (ws.length - ws2.length)).map lowL = ws2.map lowL) :
    Ctr w 950 9400 (.ref 68) [.ref x, .ref x2] [(x, instObj 112 d), (d, labD w k t), (t, tup vs), (x2, instObj 112 d2), (d2, labD w k2 t2), (t2, tup vs2)] (NameR w (ws.take (ws.length - ws2.length))) :=
  (ss_ctr w x d t x2 d2 t2 k k2 vs vs2 ws ws2 hv hv2 hw hw2 hz hz2 h0).mono fun r nl h => by
    rcases h with h | h
    · exact h.2
    · rw [decide_eq_true hs] at h; exact absurd h.1 (by decide)
theorem ssF_ctr (w : World) (x d t x2 d2 t2 : Addr) (k k2 : Tok) (vs vs2 : List Value) (ws ws2 : List (Array UInt8)) (hv : BytesAre vs ws) (hv2 : BytesAre vs2 ws2) (hw : ∀ b ∈ ws, b.size ≤ sizeLine) (hw2 : ∀ b ∈ ws2, b.size ≤ sizeLine) (hz : ws.length ≤ 8) (hz2 : ws2.length ≤ ws.length) (h0 : 0 < ws2.length) (hs : ¬ (ws.drop (ws.length - ws2.length)).map lowL = ws2.map lowL) :
    Ctr w 950 9400 (.ref 68) [.ref x, .ref x2] [(x, instObj 112 d), (d, labD w k t), (t, tup vs), (x2, instObj 112 d2), (d2, labD w k2 t2), (t2, tup vs2)] (fun r nl => nl = [] ∧ r = .ref x) :=
  (ss_ctr w x d t x2 d2 t2 k k2 vs vs2 ws ws2 hv hv2 hw hw2 hz hz2 h0).mono fun r nl h => by
    rcases h with h | h
    · rw [decide_eq_false hs] at h; exact absurd h.1 (by decide)
    · exact h.2
theorem pick_upto {l : List Value} {j : Nat} (h0 : 0 < j) (h : j ≤ l.length) : kms_pick l none (some (-(j : Int))) = l.take (l.length - j) := by
  unfold kms_pick kms_lo kms_hi
  simp only [if_pos (show (-(j : Int)) < 0 by omega)]
  rw [show (- -(j : Int)).toNat = j by omega, List.drop_zero, Nat.sub_zero]
local macro_rules | `(tactic| walk_at "subscriptTail Name Slice ref ref") => `(tactic| (k_here; (with_reducible show wpAny _ _ (subscriptTail _ (Expr.Slice none (some _) none _) (Value.ref _) (Value.ref _)) _ _ _); (with_reducible rename Fr _ _ _ _ => F'); (with_reducible rename News _ _ _ _ => N'); k_dflt (refine' BL.slice_lst (s := ⟨_, _, _, _, _⟩) F' N' ?m ?pl ?pu ?z ?e ?_; (case m => k_mem); (case pl => exact .none); (case pu => exact .int _ _); (case e => exact pick_upto (by omega) (by omega)); (case z => exact small_fits (by omega))); intro D' h' F' N' l1; (try k_lt l1)))
local macro_rules | `(tactic| walk_at "call ref") => `(tactic| (k_here; (with_reducible show wpAny _ _ (call (Value.ref 112) [Value.ref _]) _ _ _); k_dflt (refine' (new_list _ _ _ _ _ ?hv ?hz).useN ?k1 ?k2 ?k3 ?k4 ?k5 ?kK ?kn ?kd ?ku ?_; (case k1 => k_asm); (case k2 => k_asm); (case k3 => k_asm); (case k4 => k_asm); (case k5 => k_asm); (case kK => exact rfl); (case kd => exact Nat.le_of_ble_eq_true rfl); (case ku => exact Nat.le_of_ble_eq_true rfl); (case kn => exact need_one (by k_mem)); (case hv => assumption); (case hz => omega)); intro x9 d9 t9 k9 vs9 h9 tk9 F9 N9 off9 hv9; (try dsimp only); (try k_fold)))
local macro_rules | `(tactic| walk_at "call ref") => `(tactic| (k_here; (with_reducible show wpAny _ _ (call (Value.ref 68) [Value.ref _, Value.ref _]) _ _ _); k_dflt (refine' (ssT_ctr _ _ _ _ _ _ _ _ _ _ _ _ _ ?ha ?hb ?hc ?hd ?he ?hf ?hg ?hs).useN ?k1 ?k2 ?k3 ?k4 ?k5 ?kK ?kn ?kd ?ku ?_; (case k1 => k_asm); (case k2 => k_asm); (case k3 => k_asm); (case k4 => k_asm); (case k5 => k_asm); (case kK => exact rfl); (case kd => exact Nat.le_of_ble_eq_true rfl); (case ku => exact Nat.le_of_ble_eq_true rfl); (case kn => exact sub_cons (by k_mem) (sub_cons (by k_mem) (sub_cons (by k_mem) (sub_cons (by k_mem) (sub_cons (by k_mem) (sub_cons (by k_mem) nil_sub)))))); (case ha => assumption); (case hb => assumption); (case hc => assumption); (case hd => assumption); (case he => assumption); (case hf => assumption); (case hg => assumption); (case hs => assumption)); intro x9 d9 t9 k9 vs9 h9 tk9 F9 N9 off9 hv9; (try dsimp only); (try k_fold)))
local macro_rules | `(tactic| walk_at "call ref") => `(tactic| (k_here; (with_reducible show wpAny _ _ (call (Value.ref 68) [Value.ref _, Value.ref _]) _ _ _); k_dflt (refine' (ssF_ctr _ _ _ _ _ _ _ _ _ _ _ _ _ ?ha ?hb ?hc ?hd ?he ?hf ?hg ?hs).useV ?k1 ?k2 ?k3 ?k4 ?k5 ?kK ?kn ?kd ?ku ?_; (case k1 => k_asm); (case k2 => k_asm); (case k3 => k_asm); (case k4 => k_asm); (case k5 => k_asm); (case kK => exact rfl); (case kd => exact Nat.le_of_ble_eq_true rfl); (case ku => exact Nat.le_of_ble_eq_true rfl); (case kn => exact sub_cons (by k_mem) (sub_cons (by k_mem) (sub_cons (by k_mem) (sub_cons (by k_mem) (sub_cons (by k_mem) (sub_cons (by k_mem) nil_sub)))))); (case ha => assumption); (case hb => assumption); (case hc => assumption); (case hd => assumption); (case he => assumption); (case hf => assumption); (case hg => assumption); (case hs => assumption)); intro r9 h9 tk9 F9 N9 e9; subst e9; (try dsimp only []); (try k_fold)))
local macro_rules | `(tactic| walk_at "call type:tuple") => `(tactic| (k_here; (with_reducible show wpAny _ _ (call (Value.type "tuple") [Value.ref _]) _ _ _); k_dflt (refine' tupOf ?F ?N ?m ?z ?_; (case F => k_asm); (case N => k_asm); (case m => k_mem); (case z => first | omega | (simp only [List.length_take, List.length_append]; omega))); intro D' h' F' N' l1; (try k_lt l1)))
local macro_rules | `(tactic| walk_at "compareOp Eq ref ref") => `(tactic| (k_here; k_dflt (refine' eq_tupT ?N ?a ?b ?x ?y ?u ?_; (case N => k_asm); (case a => k_mem); (case b => k_mem); (case x => assumption); (case y => assumption); (case u => (show 9000 < cLine; decide)))))
theorem seg16 {w : World} {L a : Addr} {ccd : Value} {Q : Flow → Shared → Prop} {s : Shared} {A₀ : Around} {base h₀ : Heap} {mean : ExcName → Option Value} {mg mb m : Str → Option Value} {ld lw lo x d t x2 d2 t2 : Addr} {k k2 tc tt : Tok} {nu : Nat} {ds vs us vs1 us1 : List Value} {ns : List Int} {ws os : List (Array UInt8)} {tj : Tok} {le : Addr} {es : List Value} {eo : List (Array UInt8)} (C : LC w A₀ base h₀ mean mg mb ds vs us vs1 us1 ns ws os) (F : Fr h₀ L s.heap m) (V : VC m ld lw lo x x2 tc tt ws) (N : News h₀ L s.heap ((le, listOf es.toArray 0) :: [(lw, lst vs), (lo, listOf us.toArray nu), (ld, listOf ds.toArray 0), (x, instObj 112 d), (d, labD w k t), (t, tup vs1), (x2, instObj 112 d2), (d2, labD w k2 t2), (t2, tup us1)])) (G : m (Str.ofString "good") = some (.bool true)) (G2 : m (Str.ofString "some") = some (.int (eo.length : Int) tj)) (G3 : m (Str.ofString "ending") = some (.ref le)) (G4 : m (Str.ofString "same") = some (.bool (decide ((ws.drop (ws.length - eo.length)).map lowL = eo.map lowL)))) (hj1 : 0 < eo.length) (hj2 : eo.length ≤ ws.length) (he : BytesAre es eo) (hew : ∀ b ∈ eo, WordOk b)
    (hk : ∀ h' tk' m', Fr h₀ L h' m' → VC m' ld lw lo x x2 tc tt ws → News h₀ L h' ((le, listOf es.toArray 0) :: [(lw, lst vs), (lo, listOf us.toArray nu), (ld, listOf ds.toArray 0), (x, instObj 112 d), (d, labD w k t), (t, tup vs1), (x2, instObj 112 d2), (d2, labD w k2 t2), (t2, tup us1)]) → m' (Str.ofString "good") = some (.bool true) → m' (Str.ofString "ending") = some (.ref le) → LawW w 16 L a ccd Q { s with heap := h', toks := tk' }) : LawW w 15 L a ccd Q s := by
  obtain ⟨B, X, T, hi, hv, hu, hv1, hu1, hww, hoo, hlo, hl2, hl4⟩ := C
  refine (law_iff (by exact rfl)).mpr ?_
  have h8 : ws.length ≤ 8 := by omega
  have h4e : eo.length ≤ 4 := by omega
  have hvl : vs.length = ws.length := hv.length
  have hws : ∀ b ∈ ws, b.size ≤ sizeLine := fun b hb => (hww b hb).size
  have hes : ∀ b ∈ eo, b.size ≤ sizeLine := fun b hb => (hew b hb).size
  have hvt : BytesAre (vs.take (vs.length - eo.length)) (ws.take (ws.length - eo.length)) := by rw [hvl]; exact hv.take _
  refine wpN_execs_step ?_
  by_cases hs : (ws.drop (ws.length - eo.length)).map lowL = eo.map lowL
  · rw [decide_eq_true hs] at G4
    replace F := fr_know (x := Str.ofString "words") F V.words
    replace F := fr_know (x := Str.ofString "name") F V.name
    replace F := fr_know (x := Str.ofString "some") F G2
    replace F := fr_know (x := Str.ofString "ending") F G3
    replace F := fr_know (x := Str.ofString "same") F G4
    replace F := fr_know (x := Str.ofString "good") F G
    k_steps
    refine (law_iff (by exact rfl)).mp (hk _ _ _ (by k_asm) ⟨by first | rfl | exact V.drawn, by first | rfl | exact V.count, by first | rfl | exact V.words, by first | rfl | exact V.others, by first | rfl | exact V.text, by first | rfl | exact V.name, by first | rfl | exact V.near⟩ (News.of_sub (by k_asm) (by ((repeat (refine sub_cons (by k_mem) ?_)); (repeat (first | exact sub_here | refine sub_skip ?_))))) (by first | rfl | exact G) rfl)
  · rw [decide_eq_false hs] at G4
    clear hvt
    replace F := fr_know (x := Str.ofString "words") F V.words
    replace F := fr_know (x := Str.ofString "name") F V.name
    replace F := fr_know (x := Str.ofString "ending") F G3
    replace F := fr_know (x := Str.ofString "same") F G4
    replace F := fr_know (x := Str.ofString "good") F G
    k_steps
    refine (law_iff (by exact rfl)).mp (hk _ _ _ (by k_asm) ⟨by first | rfl | exact V.drawn, by first | rfl | exact V.count, by first | rfl | exact V.words, by first | rfl | exact V.others, by first | rfl | exact V.text, by first | rfl | exact V.name, by first | rfl | exact V.near⟩ (News.of_sub (by k_asm) (by ((repeat (refine sub_cons (by k_mem) ?_)); (repeat (first | exact sub_here | refine sub_skip ?_))))) (by first | rfl | exact G) rfl)
end Mine

end
section
open PySem PySem.W PyProof.Rows PySem.Calls
set_option Elab.async false
set_option maxRecDepth 100000
set_option maxHeartbeats 8000000
namespace Mine
example : True := by w_top off; trivial
set_option maxHeartbeats 2000000
open PyProof.Rows.LCg
local macro_rules | `(tactic| k_mem) => `(tactic| first | (with_reducible assumption) | (with_reducible exact List.mem_cons_self) | (with_reducible refine List.mem_cons_of_mem _ ?_; k_mem) | fail "no")
local macro_rules | `(tactic| k_all) => `(tactic| first | exact ne_lt4 (by assumption) | exact ne_lt4 (And.right (by assumption)) | exact ne_lt4 (And.right (And.right (by assumption))) | exact ne_lt1 (by assumption) | exact ne_lt2 (by assumption) | exact ne_lt3 (by assumption) | exact ne_lt3 (And.right (by assumption)) | exact ne_lt3 (And.right (And.right (by assumption))) | exact ne_lt3 (And.right (And.right (And.right (by assumption)))) | fail "no")
local macro_rules | `(tactic| walk_at "call ref") => `(tactic| (k_here; (with_reducible show wpAny _ _ (call (Value.ref 112) [Value.ref _]) _ _ _); k_dflt (refine' (new_list _ _ _ _ _ ?hv ?hz).useN ?k1 ?k2 ?k3 ?k4 ?k5 ?kK ?kn ?kd ?ku ?_; (case k1 => k_asm); (case k2 => k_asm); (case k3 => k_asm); (case k4 => k_asm); (case k5 => k_asm); (case kK => exact rfl); (case kd => exact Nat.le_of_ble_eq_true rfl); (case ku => exact Nat.le_of_ble_eq_true rfl); (case kn => exact need_one (by k_mem)); (case hv => assumption); (case hz => omega)); intro x9 d9 t9 k9 vs9 h9 tk9 F9 N9 off9 hv9; (try dsimp only); (try k_fold)))
local macro_rules | `(tactic| walk_at "call ref") => `(tactic| (k_here; (with_reducible show wpAny _ _ (call (Value.ref 47) [Value.ref _, Value.str _ _]) _ _ _); k_dflt (refine' (add_ctr _ _ _ _ _ _ _ _ _ ?ha ?hb ?hc ?hd ?he ?hf ?hg).useN ?k1 ?k2 ?k3 ?k4 ?k5 ?kK ?kn ?kd ?ku ?_; (case k1 => k_asm); (case k2 => k_asm); (case k3 => k_asm); (case k4 => k_asm); (case k5 => k_asm); (case kK => exact rfl); (case kd => exact Nat.le_of_ble_eq_true rfl); (case ku => exact Nat.le_of_ble_eq_true rfl); (case kn => exact sub_cons (by k_mem) (sub_cons (by k_mem) (sub_cons (by k_mem) nil_sub))); (case ha => assumption); (case hb => assumption); (case hc => assumption); (case hd => assumption); (case he => assumption); (case hf => assumption); (case hg => assumption)); intro x9 d9 t9 k9 vs9 h9 tk9 F9 N9 off9 hv9; (try dsimp only); (try k_fold)))
local macro_rules | `(tactic| walk_at "binaryOp Add ref ref") => `(tactic| (k_here; (with_reducible rename Fr _ _ _ _ => F'); (with_reducible rename News _ _ _ _ => N'); k_dflt (refine' add_lst F' N' ?m1 ?m2 ?z ?_; (case m1 => k_mem); (case m2 => k_mem); (case z => omega)); intro D' h' F' N' l1; (try k_lt l1)))
local macro_rules | `(tactic| walk_at "call type:tuple") => `(tactic| (k_here; (with_reducible show wpAny _ _ (call (Value.type "tuple") [Value.ref _]) _ _ _); k_dflt (refine' tupOf ?F ?N ?m ?z ?_; (case F => k_asm); (case N => k_asm); (case m => k_mem); (case z => first | omega | (simp only [List.length_append]; omega))); intro D' h' F' N' l1; (try k_lt l1)))
local macro_rules | `(tactic| walk_at "compareOp Eq ref ref") => `(tactic| (k_here; k_dflt (refine' eq_tupT ?N ?a ?b ?x ?y ?u ?_; (case N => k_asm); (case a => k_mem); (case b => k_mem); (case x => assumption); (case y => assumption); (case u => (show 9000 < cLine; decide)))))
theorem seg17 {w : World} {L a : Addr} {ccd : Value} {Q : Flow → Shared → Prop} {s : Shared} {A₀ : Around} {base h₀ : Heap} {mean : ExcName → Option Value} {mg mb m : Str → Option Value} {ld lw lo x d t x2 d2 t2 : Addr} {k k2 tc tt : Tok} {nu : Nat} {ds vs us vs1 us1 : List Value} {ns : List Int} {ws os : List (Array UInt8)} {le : Addr} {es : List Value} {eo : List (Array UInt8)} (C : LC w A₀ base h₀ mean mg mb ds vs us vs1 us1 ns ws os) (F : Fr h₀ L s.heap m) (V : VC m ld lw lo x x2 tc tt ws) (N : News h₀ L s.heap ((le, listOf es.toArray 0) :: [(lw, lst vs), (lo, listOf us.toArray nu), (ld, listOf ds.toArray 0), (x, instObj 112 d), (d, labD w k t), (t, tup vs1), (x2, instObj 112 d2), (d2, labD w k2 t2), (t2, tup us1)])) (G : m (Str.ofString "good") = some (.bool true)) (G3 : m (Str.ofString "ending") = some (.ref le)) (hj1 : 0 < eo.length) (hj2 : eo.length ≤ ws.length) (he : BytesAre es eo) (hew : ∀ b ∈ eo, WordOk b)
    (hk : ∀ h' tk' m', Fr h₀ L h' m' → VC m' ld lw lo x x2 tc tt ws → News h₀ L h' [(lw, lst vs), (lo, listOf us.toArray nu), (ld, listOf ds.toArray 0), (x, instObj 112 d), (d, labD w k t), (t, tup vs1), (x2, instObj 112 d2), (d2, labD w k2 t2), (t2, tup us1)] → m' (Str.ofString "good") = some (.bool true) → LawW w 17 L a ccd Q { s with heap := h', toks := tk' }) : LawW w 16 L a ccd Q s := by
  obtain ⟨B, X, T, hi, hv, hu, hv1, hu1, hww, hoo, hlo, hl2, hl4⟩ := C
  refine (law_iff (by exact rfl)).mpr ?_
  have h44 : ws.length ≤ 4 := by omega
  have h4e : eo.length ≤ 4 := by omega
  have hvl : vs.length = ws.length := hv.length
  have hel : es.length = eo.length := he.length
  have hne : eo ≠ [] := List.length_pos_iff.mp hj1
  have h8e : eo.length ≤ 8 := by omega
  have hnw : ws ≠ [] := List.length_pos_iff.mp (by omega)
  have hes : ∀ b ∈ eo, b.size ≤ sizeLine := fun b hb => (hew b hb).size
  have hva : BytesAre (vs ++ es) (ws ++ eo) := hv.app he
  refine wpN_execs_step ?_
  replace F := fr_know (x := Str.ofString "words") F V.words
  replace F := fr_know (x := Str.ofString "text") F V.text
  replace F := fr_know (x := Str.ofString "ending") F G3
  replace F := fr_know (x := Str.ofString "good") F G
  k_steps
  refine (law_iff (by exact rfl)).mp (hk _ _ _ (by k_asm) ⟨by first | rfl | exact V.drawn, by first | rfl | exact V.count, by first | rfl | exact V.words, by first | rfl | exact V.others, by first | rfl | exact V.text, by first | rfl | exact V.name, by first | rfl | exact V.near⟩ (News.of_sub (by k_asm) (by ((repeat (refine sub_cons (by k_mem) ?_)); (repeat (first | exact sub_here | refine sub_skip ?_))))) (by first | rfl | exact G))
end Mine

end
section
open PySem PySem.W PyProof.Rows PySem.Calls
set_option Elab.async false
set_option maxRecDepth 100000
set_option maxHeartbeats 8000000
namespace Mine
example : True := by w_top off; trivial
local macro_rules | `(tactic| walk_at "no such goal") => `(tactic| fail "no")
local macro_rules | `(tactic| walk_at "no such goal") => `(tactic| fail "no")
local macro_rules | `(tactic| walk_at "no such goal") => `(tactic| fail "no")
local macro_rules | `(tactic| walk_at "no such goal") => `(tactic| fail "no")
local macro_rules | `(tactic| walk_at "no such goal") => `(tactic| fail "no")
local macro_rules | `(tactic| walk_at "no such goal") => `(tactic| fail "no")
set_option maxHeartbeats 2000000
open PyProof.Rows.LCg
local macro_rules | `(tactic| k_mem) => `(tactic| first | (with_reducible assumption) | (with_reducible exact List.mem_cons_self) | (with_reducible refine List.mem_cons_of_mem _ ?_; k_mem) | fail "no")
local macro_rules | `(tactic| k_all) => `(tactic| first | exact ne_lt4 (by assumption) | exact ne_lt4 (And.right (by assumption)) | exact ne_lt4 (And.right (And.right (by assumption))) | exact ne_lt1 (by assumption) | exact ne_lt2 (by assumption) | exact ne_lt3 (by assumption) | exact ne_lt3 (And.right (by assumption)) | exact ne_lt3 (And.right (And.right (by assumption))) | exact ne_lt3 (And.right (And.right (And.right (by assumption)))) | fail "no")
local macro_rules | `(tactic| walk_at "subscriptTail") => `(tactic| (k_here; (with_reducible show wpAny _ _ (subscriptTail _ _ (Value.ref _) (Value.int _ _)) _ _ _); k_dflt (refine' item_int ?N ?m ?i ?a ?b ?c ?_; (case N => k_asm); (case m => k_mem); (case i => with_reducible assumption); (case a => decide); (case b => (rw [drawn_len]; decide)); (case c => decide)); intro _))
local macro_rules | `(tactic| walk_at "subscriptTail Name Slice ref ref") => `(tactic| (k_here; (with_reducible show wpAny _ _ (subscriptTail _ (Expr.Slice (some _) none none _) (Value.ref _) (Value.ref _)) _ _ _); (with_reducible rename Fr _ _ _ _ => F'); (with_reducible rename News _ _ _ _ => N'); k_dflt (refine' BL.slice_lst (s := ⟨_, _, _, _, _⟩) F' N' ?m ?pl ?pu ?z ?e ?_; (case m => k_mem); (case pl => exact .int _ _); (case pu => exact .none); (case e => exact pick_from (by omega)); (case z => exact small_fits (by omega))); intro D' h' F' N' l1; (try k_lt l1)))
theorem seg18 {w : World} {L a : Addr} {ccd : Value} {Q : Flow → Shared → Prop} {s : Shared} {A₀ : Around} {base h₀ : Heap} {mean : ExcName → Option Value} {mg mb m : Str → Option Value} {ld lw lo x d t x2 d2 t2 : Addr} {k k2 tc tt : Tok} {nu : Nat} {ds vs us vs1 us1 : List Value} {ns : List Int} {ws os : List (Array UInt8)} (C : LC w A₀ base h₀ mean mg mb ds vs us vs1 us1 ns ws os) (F : Fr h₀ L s.heap m) (V : VC m ld lw lo x x2 tc tt ws) (N : News h₀ L s.heap [(lw, lst vs), (lo, listOf us.toArray nu), (ld, listOf ds.toArray 0), (x, instObj 112 d), (d, labD w k t), (t, tup vs1), (x2, instObj 112 d2), (d2, labD w k2 t2), (t2, tup us1)]) (G : m (Str.ofString "good") = some (.bool true))
    (hk : ∀ (f : Nat) tf, f < ws.length → ∀ h' tk' m', Fr h₀ L h' m' → VC m' ld lw lo x x2 tc tt ws → News h₀ L h' [(lw, lst vs), (lo, listOf us.toArray nu), (ld, listOf ds.toArray 0), (x, instObj 112 d), (d, labD w k t), (t, tup vs1), (x2, instObj 112 d2), (d2, labD w k2 t2), (t2, tup us1)] → m' (Str.ofString "good") = some (.bool true) → m' (Str.ofString "few") = some (.int (f : Int) tf) → LawW w 18 L a ccd Q { s with heap := h', toks := tk' }) : LawW w 17 L a ccd Q s := by
  obtain ⟨B, X, T, hi, hv, hu, hv1, hu1, hww, hoo, hlo, hl2, hl4⟩ := C
  refine (law_iff (by exact rfl)).mpr ?_
  replace F := fr_know (x := Str.ofString "drawn") F V.drawn
  replace F := fr_know (x := Str.ofString "count") F V.count
  refine wpN_execs_step ?_
  have hpos : (0 : Int) < (ws.length : Int) := by omega
  k_steps
  have h1 := Int.fmod_nonneg_of_pos ((drawnL ns).getD (7 : Int).toNat 0) hpos
  have h2 := Int.fmod_lt_of_pos ((drawnL ns).getD (7 : Int).toNat 0) hpos
  obtain ⟨j, hj⟩ := Int.eq_ofNat_of_zero_le h1
  refine (law_iff (by exact rfl)).mp (hk j _ (by omega) _ _ _ (by k_asm) ⟨by first | rfl | exact V.drawn, by first | rfl | exact V.count, by first | rfl | exact V.words, by first | rfl | exact V.others, by first | rfl | exact V.text, by first | rfl | exact V.name, by first | rfl | exact V.near⟩ (News.of_sub (by k_asm) (by ((repeat (refine sub_cons (by k_mem) ?_)); (repeat (first | exact sub_here | refine sub_skip ?_))))) (by first | rfl | exact G) (congrArg (fun n => some (Value.int n _)) hj))
theorem seg21 {w : World} {L a : Addr} {ccd : Value} {Q : Flow → Shared → Prop} {s : Shared} {A₀ : Around} {base h₀ : Heap} {mean : ExcName → Option Value} {mg mb m : Str → Option Value} {ld lw lo x d t x2 d2 t2 : Addr} {k k2 tc tt : Tok} {nu : Nat} {ds vs us vs1 us1 : List Value} {ns : List Int} {ws os : List (Array UInt8)} (C : LC w A₀ base h₀ mean mg mb ds vs us vs1 us1 ns ws os) (F : Fr h₀ L s.heap m) (V : VC m ld lw lo x x2 tc tt ws) (N : News h₀ L s.heap [(lw, lst vs), (lo, listOf us.toArray nu), (ld, listOf ds.toArray 0), (x, instObj 112 d), (d, labD w k t), (t, tup vs1), (x2, instObj 112 d2), (d2, labD w k2 t2), (t2, tup us1)]) (G : m (Str.ofString "good") = some (.bool true))
    (hk : ∀ (f : Nat) lp, f < ws.length → ∀ h' tk' m', Fr h₀ L h' m' → VC m' ld lw lo x x2 tc tt ws → News h₀ L h' ((lp, listOf (us.drop f).toArray 0) :: [(lw, lst vs), (lo, listOf us.toArray nu), (ld, listOf ds.toArray 0), (x, instObj 112 d), (d, labD w k t), (t, tup vs1), (x2, instObj 112 d2), (d2, labD w k2 t2), (t2, tup us1)]) → m' (Str.ofString "good") = some (.bool true) → m' (Str.ofString "pattern") = some (.ref lp) → LawW w 21 L a ccd Q { s with heap := h', toks := tk' }) : LawW w 20 L a ccd Q s := by
  obtain ⟨B, X, T, hi, hv, hu, hv1, hu1, hww, hoo, hlo, hl2, hl4⟩ := C
  refine (law_iff (by exact rfl)).mpr ?_
  replace F := fr_know (x := Str.ofString "drawn") F V.drawn
  replace F := fr_know (x := Str.ofString "count") F V.count
  replace F := fr_know (x := Str.ofString "others") F V.others
  refine wpN_execs_step ?_
  have hul : us.length = os.length := hu.length
  have hpos : (0 : Int) < (ws.length : Int) := by omega
  have h1 := Int.fmod_nonneg_of_pos ((drawnL ns).getD (8 : Int).toNat 0) hpos
  have h2 := Int.fmod_lt_of_pos ((drawnL ns).getD (8 : Int).toNat 0) hpos
  k_steps
  refine (law_iff (by exact rfl)).mp (hk (((drawnL ns).getD (8 : Int).toNat 0).fmod (ws.length : Int)).toNat _ (by omega) _ _ _ (by k_asm) ⟨by first | rfl | exact V.drawn, by first | rfl | exact V.count, by first | rfl | exact V.words, by first | rfl | exact V.others, by first | rfl | exact V.text, by first | rfl | exact V.name, by first | rfl | exact V.near⟩ (News.of_sub (by k_asm) (by ((repeat (refine sub_cons (by k_mem) ?_)); (repeat (first | exact sub_here | refine sub_skip ?_))))) (by first | rfl | exact G) rfl)
local macro_rules | `(tactic| walk_at "binaryOp Add ref ref") => `(tactic| (k_here; (with_reducible rename Fr _ _ _ _ => F'); (with_reducible rename News _ _ _ _ => N'); k_dflt (refine' add_lst F' N' ?m1 ?m2 ?z ?_; (case m1 => k_mem); (case m2 => k_mem); (case z => (simp only [List.length_cons, List.length_nil, List.length_drop]; omega))); intro D' h' F' N' l1; (try k_lt l1)))
theorem seg19 {w : World} {L a : Addr} {ccd : Value} {Q : Flow → Shared → Prop} {s : Shared} {A₀ : Around} {base h₀ : Heap} {mean : ExcName → Option Value} {mg mb m : Str → Option Value} {ld lw lo x d t x2 d2 t2 : Addr} {k k2 tc tt : Tok} {nu : Nat} {ds vs us vs1 us1 : List Value} {ns : List Int} {ws os : List (Array UInt8)} {f : Nat} {tf : Tok} (C : LC w A₀ base h₀ mean mg mb ds vs us vs1 us1 ns ws os) (F : Fr h₀ L s.heap m) (V : VC m ld lw lo x x2 tc tt ws) (N : News h₀ L s.heap [(lw, lst vs), (lo, listOf us.toArray nu), (ld, listOf ds.toArray 0), (x, instObj 112 d), (d, labD w k t), (t, tup vs1), (x2, instObj 112 d2), (d2, labD w k2 t2), (t2, tup us1)]) (G : m (Str.ofString "good") = some (.bool true)) (G2 : m (Str.ofString "few") = some (.int (f : Int) tf)) (hf : f < ws.length)
    (hk : ∀ t0 lp, ∀ h' tk' m', Fr h₀ L h' m' → VC m' ld lw lo x x2 tc tt ws → News h₀ L h' ((lp, listOf (Value.bytes #[42] t0 :: us.drop (ws.length - f)).toArray 0) :: [(lw, lst vs), (lo, listOf us.toArray nu), (ld, listOf ds.toArray 0), (x, instObj 112 d), (d, labD w k t), (t, tup vs1), (x2, instObj 112 d2), (d2, labD w k2 t2), (t2, tup us1)]) → m' (Str.ofString "good") = some (.bool true) → m' (Str.ofString "pattern") = some (.ref lp) → LawW w 19 L a ccd Q { s with heap := h', toks := tk' }) : LawW w 18 L a ccd Q s := by
  obtain ⟨B, X, T, hi, hv, hu, hv1, hu1, hww, hoo, hlo, hl2, hl4⟩ := C
  refine (law_iff (by exact rfl)).mpr ?_
  replace F := fr_know (x := Str.ofString "few") F G2
  replace F := fr_know (x := Str.ofString "count") F V.count
  replace F := fr_know (x := Str.ofString "others") F V.others
  refine wpN_execs_step ?_
  have hul : us.length = os.length := hu.length
  have e1 : ((ws.length : Int) - (f : Int)).toNat = ws.length - f := by omega
  k_steps
  (with_reducible rename News _ _ _ _ => N9)
  simp only [e1, List.cons_append, List.nil_append] at N9
  refine (law_iff (by exact rfl)).mp (hk _ _ _ _ _ (by k_asm) ⟨by first | rfl | exact V.drawn, by first | rfl | exact V.count, by first | rfl | exact V.words, by first | rfl | exact V.others, by first | rfl | exact V.text, by first | rfl | exact V.name, by first | rfl | exact V.near⟩ (News.of_sub (by k_asm) (by ((repeat (refine sub_cons (by k_mem) ?_)); (repeat (first | exact sub_here | refine sub_skip ?_))))) (by first | rfl | exact G) rfl)
end Mine

end
section
open PySem PySem.W PyProof.Rows PySem.Calls
set_option Elab.async false
set_option maxRecDepth 100000
set_option maxHeartbeats 8000000
namespace Mine
example : True := by w_top off; trivial
local macro_rules | `(tactic| walk_at "no such goal") => `(tactic| fail "no")
local macro_rules | `(tactic| walk_at "no such goal") => `(tactic| fail "no")
local macro_rules | `(tactic| walk_at "no such goal") => `(tactic| fail "no")
local macro_rules | `(tactic| walk_at "no such goal") => `(tactic| fail "no")
local macro_rules | `(tactic| walk_at "no such goal") => `(tactic| fail "no")
local macro_rules | `(tactic| walk_at "no such goal") => `(tactic| fail "no")
local macro_rules | `(tactic| walk_at "no such goal") => `(tactic| fail "no")
local macro_rules | `(tactic| walk_at "no such goal") => `(tactic| fail "no")
local macro_rules | `(tactic| walk_at "no such goal") => `(tactic| fail "no")
local macro_rules | `(tactic| walk_at "no such goal") => `(tactic| fail "no")
set_option maxHeartbeats 2000000
open PyProof.Rows.LCg
local macro_rules | `(tactic| k_mem) => `(tactic| first | (with_reducible assumption) | (with_reducible exact List.mem_cons_self) | (with_reducible refine List.mem_cons_of_mem _ ?_; k_mem) | fail "no")
local macro_rules | `(tactic| k_all) => `(tactic| first | exact ne_lt4 (by assumption) | exact ne_lt4 (And.right (by assumption)) | exact ne_lt4 (And.right (And.right (by assumption))) | exact ne_lt1 (by assumption) | exact ne_lt2 (by assumption) | exact ne_lt3 (by assumption) | exact ne_lt3 (And.right (by assumption)) | exact ne_lt3 (And.right (And.right (by assumption))) | exact ne_lt3 (And.right (And.right (And.right (by assumption)))) | fail "no")
local macro_rules | `(tactic| walk_at "call ref") => `(tactic| (k_here; (with_reducible show wpAny _ _ (call (Value.ref 112) [Value.ref _]) _ _ _); k_dflt (refine' (new_list _ _ _ _ _ ?hv ?hz).useN ?k1 ?k2 ?k3 ?k4 ?k5 ?kK ?kn ?kd ?ku ?_; (case k1 => k_asm); (case k2 => k_asm); (case k3 => k_asm); (case k4 => k_asm); (case k5 => k_asm); (case kK => exact rfl); (case kd => exact Nat.le_of_ble_eq_true rfl); (case ku => exact Nat.le_of_ble_eq_true rfl); (case kn => exact need_one (by k_mem)); (case hv => assumption); (case hz => assumption)); intro x9 d9 t9 k9 vs9 h9 tk9 F9 N9 off9 hv9; (try dsimp only); (try k_fold)))
local macro_rules | `(tactic| walk_at "call ref") => `(tactic| (k_here; (with_reducible show wpAny _ _ (call (Value.ref 54) [Value.ref _, Value.ref _]) _ _ _); k_dflt (refine' (mw_ctr _ _ _ _ _ _ _ _ _ _ _ _ _ _ ?ha ?hb ?hc ?hd ?he ?hf).useV ?k1 ?k2 ?k3 ?k4 ?k5 ?kK ?kn ?kd ?ku ?_; (case k1 => k_asm); (case k2 => k_asm); (case k3 => k_asm); (case k4 => k_asm); (case k5 => k_asm); (case kK => exact rfl); (case kd => exact Nat.le_of_ble_eq_true rfl); (case ku => exact Nat.le_of_ble_eq_true rfl); (case kn => exact sub_cons (by k_mem) (sub_cons (by k_mem) (sub_cons (by k_mem) (sub_cons (by k_mem) (sub_cons (by k_mem) (sub_cons (by k_mem) nil_sub)))))); (case ha => assumption); (case hb => assumption); (case hc => assumption); (case hd => assumption); (case he => assumption); (case hf => assumption)); intro r9 h9 tk9 F9 N9 e9; subst e9; (try dsimp only []); (try k_fold)))
local macro_rules | `(tactic| walk_at "call ref") => `(tactic| (k_here; (with_reducible show wpAny _ _ (call (Value.ref 54) [Value.ref _, Value.str _ _]) _ _ _); k_dflt (refine' (mws_ctr _ _ _ _ _ _ _ _ _ _ ?ha ?hb ?hc ?hd ?he).useV ?k1 ?k2 ?k3 ?k4 ?k5 ?kK ?kn ?kd ?ku ?_; (case k1 => k_asm); (case k2 => k_asm); (case k3 => k_asm); (case k4 => k_asm); (case k5 => k_asm); (case kK => exact rfl); (case kd => exact Nat.le_of_ble_eq_true rfl); (case ku => exact Nat.le_of_ble_eq_true rfl); (case kn => exact sub_cons (by k_mem) (sub_cons (by k_mem) (sub_cons (by k_mem) nil_sub))); (case ha => assumption); (case hb => assumption); (case hc => assumption); (case hd => assumption); (case he => assumption)); intro r9 h9 tk9 F9 N9 e9; subst e9; (try dsimp only []); (try k_fold)))
local macro_rules | `(tactic| walk_at "call ref") => `(tactic| (k_here; (with_reducible show wpAny _ _ (call (Value.ref 164) [Value.ref _, Value.ref _]) _ _ _); k_dflt (refine' (fits_ctr _ _ _ _ _ _ _ _ _ _ ?ha ?hb ?hc ?hd ?he ?hf).useV ?k1 ?k2 ?k3 ?k4 ?k5 ?kK ?kn ?kd ?ku ?_; (case k1 => k_asm); (case k2 => k_asm); (case k3 => k_asm); (case k4 => k_asm); (case k5 => k_asm); (case kK => exact rfl); (case kd => exact Nat.le_of_ble_eq_true rfl); (case ku => exact Nat.le_of_ble_eq_true rfl); (case kn => exact sub_cons (by k_mem) (sub_cons (by k_mem) nil_sub)); (case ha => assumption); (case hb => assumption); (case hc => assumption); (case hd => assumption); (case he => assumption); (case hf => assumption)); intro r9 h9 tk9 F9 N9 e9; subst e9; (try dsimp only []); (try k_fold)))
local macro_rules | `(tactic| walk_at "call ref") => `(tactic| (k_here; (with_reducible show wpAny _ _ (call (Value.ref 152) [Value.ref _]) _ _ _); k_dflt (refine' (text_ctr _ _ _ _ _ ?hv ?hw ?hz).useV ?k1 ?k2 ?k3 ?k4 ?k5 ?kK ?kn ?kd ?ku ?_; (case k1 => k_asm); (case k2 => k_asm); (case k3 => k_asm); (case k4 => k_asm); (case k5 => k_asm); (case kK => exact rfl); (case kd => exact Nat.le_of_ble_eq_true rfl); (case ku => exact Nat.le_of_ble_eq_true rfl); (case kn => exact need_one (by k_mem)); (case hv => assumption); (case hw => assumption); (case hz => assumption)); intro r9 h9 tk9 F9 N9 e9; obtain ⟨t9, e9⟩ := e9; subst e9; (try dsimp only); (try k_fold)))
local macro_rules | `(tactic| walk_at "compareOp Eq bool bool") => `(tactic| (k_here; k_dflt (refine eq_boolT ?_)))
theorem seg20 {w : World} {L a : Addr} {ccd : Value} {Q : Flow → Shared → Prop} {s : Shared} {A₀ : Around} {base h₀ : Heap} {mean : ExcName → Option Value} {mg mb m : Str → Option Value} {ld lw lo x d t x2 d2 t2 : Addr} {k k2 tc tt : Tok} {nu : Nat} {ds vs us vs1 us1 : List Value} {ns : List Int} {ws os : List (Array UInt8)} {lp : Addr} {pv : List Value} {p0 : Array UInt8} {ps : List (Array UInt8)} (C : LC w A₀ base h₀ mean mg mb ds vs us vs1 us1 ns ws os) (F : Fr h₀ L s.heap m) (V : VC m ld lw lo x x2 tc tt ws) (N : News h₀ L s.heap ((lp, listOf pv.toArray 0) :: [(lw, lst vs), (lo, listOf us.toArray nu), (ld, listOf ds.toArray 0), (x, instObj 112 d), (d, labD w k t), (t, tup vs1), (x2, instObj 112 d2), (d2, labD w k2 t2), (t2, tup us1)])) (G : m (Str.ofString "good") = some (.bool true)) (G2 : m (Str.ofString "pattern") = some (.ref lp)) (hp : BytesAre pv (p0 :: ps)) (hpw : ∀ b ∈ p0 :: ps, WordOk b) (hpl : ps.length + 1 ≤ ws.length)
    (hk : ∀ h' tk' m', Fr h₀ L h' m' → VC m' ld lw lo x x2 tc tt ws → News h₀ L h' [(lw, lst vs), (lo, listOf us.toArray nu), (ld, listOf ds.toArray 0), (x, instObj 112 d), (d, labD w k t), (t, tup vs1), (x2, instObj 112 d2), (d2, labD w k2 t2), (t2, tup us1)] → m' (Str.ofString "good") = some (.bool true) → LawW w 20 L a ccd Q { s with heap := h', toks := tk' }) : LawW w 19 L a ccd Q s := by
  obtain ⟨B, X, T, hi, hv, hu, hv1, hu1, hww, hoo, hlo, hl2, hl4⟩ := C
  refine (law_iff (by exact rfl)).mpr ?_
  replace F := fr_know (x := Str.ofString "name") F V.name
  replace F := fr_know (x := Str.ofString "words") F V.words
  replace F := fr_know (x := Str.ofString "pattern") F G2
  replace F := fr_know (x := Str.ofString "good") F G
  refine wpN_execs_step ?_
  have h8 : ws.length ≤ 8 := by omega
  have h8p : (p0 :: ps).length ≤ 8 := by rw [List.length_cons]; omega
  have hps : ∀ b ∈ p0 :: ps, b.size ≤ sizeLine := fun b hb => (hpw b hb).size
  have hws : ∀ b ∈ ws, b.size ≤ sizeLine := fun b hb => (hww b hb).size
  k_steps
  refine (law_iff (by exact rfl)).mp (hk _ _ _ (by k_asm) ⟨by first | rfl | exact V.drawn, by first | rfl | exact V.count, by first | rfl | exact V.words, by first | rfl | exact V.others, by first | rfl | exact V.text, by first | rfl | exact V.name, by first | rfl | exact V.near⟩ (News.of_sub (by k_asm) (by ((repeat (refine sub_cons (by k_mem) ?_)); (repeat (first | exact sub_here | refine sub_skip ?_))))) (by first | rfl | exact G))
theorem seg22 {w : World} {L a : Addr} {ccd : Value} {Q : Flow → Shared → Prop} {s : Shared} {A₀ : Around} {base h₀ : Heap} {mean : ExcName → Option Value} {mg mb m : Str → Option Value} {ld lw lo x d t x2 d2 t2 : Addr} {k k2 tc tt : Tok} {nu : Nat} {ds vs us vs1 us1 : List Value} {ns : List Int} {ws os : List (Array UInt8)} {lp : Addr} {pv : List Value} {p0 : Array UInt8} {ps : List (Array UInt8)} (C : LC w A₀ base h₀ mean mg mb ds vs us vs1 us1 ns ws os) (F : Fr h₀ L s.heap m) (V : VC m ld lw lo x x2 tc tt ws) (N : News h₀ L s.heap ((lp, listOf pv.toArray 0) :: [(lw, lst vs), (lo, listOf us.toArray nu), (ld, listOf ds.toArray 0), (x, instObj 112 d), (d, labD w k t), (t, tup vs1), (x2, instObj 112 d2), (d2, labD w k2 t2), (t2, tup us1)])) (G : m (Str.ofString "good") = some (.bool true)) (G2 : m (Str.ofString "pattern") = some (.ref lp)) (hp : BytesAre pv (p0 :: ps)) (hpw : ∀ b ∈ p0 :: ps, WordOk b) (hpl : ps.length + 1 ≤ ws.length)
    (hk : ∀ h' tk' m', Fr h₀ L h' m' → VC m' ld lw lo x x2 tc tt ws → News h₀ L h' [(lw, lst vs), (lo, listOf us.toArray nu), (ld, listOf ds.toArray 0), (x, instObj 112 d), (d, labD w k t), (t, tup vs1), (x2, instObj 112 d2), (d2, labD w k2 t2), (t2, tup us1)] → m' (Str.ofString "good") = some (.bool true) → LawW w 22 L a ccd Q { s with heap := h', toks := tk' }) : LawW w 21 L a ccd Q s := by
  obtain ⟨B, X, T, hi, hv, hu, hv1, hu1, hww, hoo, hlo, hl2, hl4⟩ := C
  refine (law_iff (by exact rfl)).mpr ?_
  replace F := fr_know (x := Str.ofString "name") F V.name
  replace F := fr_know (x := Str.ofString "words") F V.words
  replace F := fr_know (x := Str.ofString "pattern") F G2
  replace F := fr_know (x := Str.ofString "good") F G
  refine wpN_execs_step ?_
  have h44 : (p0 :: ps).length ≤ 4 := by rw [List.length_cons]; omega
  have hpl' : (p0 :: ps).length ≤ ws.length := by rw [List.length_cons]; omega
  have hws : ∀ b ∈ ws, b.size ≤ sizeLine := fun b hb => (hww b hb).size
  k_steps
  refine (law_iff (by exact rfl)).mp (hk _ _ _ (by k_asm) ⟨by first | rfl | exact V.drawn, by first | rfl | exact V.count, by first | rfl | exact V.words, by first | rfl | exact V.others, by first | rfl | exact V.text, by first | rfl | exact V.name, by first | rfl | exact V.near⟩ (News.of_sub (by k_asm) (by ((repeat (refine sub_cons (by k_mem) ?_)); (repeat (first | exact sub_here | refine sub_skip ?_))))) (by first | rfl | exact G))
end Mine

end
section
open PySem PySem.W PyProof.Rows PySem.Calls
set_option Elab.async false
set_option maxRecDepth 100000
set_option maxHeartbeats 8000000
namespace Mine
example : True := by w_top off; trivial
set_option maxHeartbeats 2000000
open PyProof.Rows.LCg
local macro_rules | `(tactic| k_mem) => `(tactic| first | (with_reducible assumption) | (with_reducible exact List.mem_cons_self) | (with_reducible refine List.mem_cons_of_mem _ ?_; k_mem) | fail "no")
local macro_rules | `(tactic| k_all) => `(tactic| first | exact ne_lt4 (by assumption) | exact ne_lt4 (And.right (by assumption)) | exact ne_lt4 (And.right (And.right (by assumption))) | exact ne_lt1 (by assumption) | exact ne_lt2 (by assumption) | exact ne_lt3 (by assumption) | exact ne_lt3 (And.right (by assumption)) | exact ne_lt3 (And.right (And.right (by assumption))) | exact ne_lt3 (And.right (And.right (And.right (by assumption)))) | fail "no")
theorem low_oth (b : Array UInt8) : lowL (othB b) = lowL b := by
  have e : KBw.bInts (othB b) = othL b := KBa.ints_make (othL_in b)
  unfold lowL
  rw [e]
  unfold othL
  rw [List.map_map]
  apply List.map_congr_left
  intro k _
  show lowC (othC k) = lowC k
  unfold lowC othC
  (repeat' split) <;> omega
theorem fits_oth (ws : List (Array UInt8)) (p0 : Array UInt8) (ps : List (Array UInt8)) (h : ws.map othB = p0 :: ps) : fitsB ws p0 ps = true := by
  have hl : ws.length = ps.length + 1 := by simpa using congrArg List.length h
  unfold fitsB
  rw [beq_iff_eq.mpr hl, Bool.or_true, Bool.true_and]
  unfold hitsL
  rw [← h, ← List.map_reverse, List.all_eq_true]
  intro y hy
  obtain ⟨x, hx, rfl⟩ := List.mem_map.mp hy
  obtain ⟨i, hi⟩ := List.mem_iff_getElem?.mp hx
  rw [List.getElem?_zip_eq_some] at hi
  obtain ⟨h1, h2⟩ := hi
  rw [List.getElem?_map, h2] at h1
  have h3 : othB x.2 = x.1 := Option.some.inj h1
  show (isStar x.1 || decide (lowL x.1 = lowL x.2)) = true
  rw [← h3, low_oth, decide_eq_true rfl, Bool.or_true]
theorem bytes_map {g : Array UInt8 → Array UInt8} : ∀ {ws : List (Array UInt8)} {ys : List Value}, ys.length = ws.length → (∀ (i : Nat) y, ys[i]? = some y → ∃ b, ws[i]? = some b ∧ ∃ t, y = Value.bytes (g b) t) → BytesAre ys (ws.map g)
  | [], [], _, _ => trivial
  | [], _ :: _, h, _ => by simp at h
  | _ :: _, [], h, _ => by simp at h
  | b :: ws, y :: ys, h, hg => by
    obtain ⟨c, hc, t, rfl⟩ := hg 0 y rfl
    obtain rfl : b = c := Option.some.inj hc
    exact ⟨⟨t, rfl⟩, bytes_map (by simpa using h) fun i z hz => hg (i + 1) z hz⟩
local macro_rules | `(tactic| walk_at "eval ListComp") => `(tactic| (k_here; k_dflt (refine ListComp_G (F₀ := by k_asm) (by rfl) (by decide) (by rfl) (by decide) (by rfl) ?_)))
local macro_rules | `(tactic| walk_at "call ref") => `(tactic| (k_here; (with_reducible show wpAny _ _ (call (Value.ref 112) [Value.ref _]) _ _ _); k_dflt (refine' (new_list _ _ _ _ _ ?hv ?hz).useN ?k1 ?k2 ?k3 ?k4 ?k5 ?kK ?kn ?kd ?ku ?_; (case k1 => k_asm); (case k2 => k_asm); (case k3 => k_asm); (case k4 => k_asm); (case k5 => k_asm); (case kK => exact rfl); (case kd => exact Nat.le_of_ble_eq_true rfl); (case ku => exact Nat.le_of_ble_eq_true rfl); (case kn => exact need_one (by k_mem)); (case hv => assumption); (case hz => assumption)); intro x9 d9 t9 k9 vs9 h9 tk9 F9 N9 off9 hv9; (try dsimp only); (try k_fold)))
local macro_rules | `(tactic| walk_at "call ref") => `(tactic| (k_here; (with_reducible show wpAny _ _ (call (Value.ref 54) [Value.ref _, Value.ref _]) _ _ _); k_dflt (refine' (mw_ctr _ _ _ _ _ _ _ _ _ _ _ _ _ _ ?ha ?hb ?hc ?hd ?he ?hf).useV ?k1 ?k2 ?k3 ?k4 ?k5 ?kK ?kn ?kd ?ku ?_; (case k1 => k_asm); (case k2 => k_asm); (case k3 => k_asm); (case k4 => k_asm); (case k5 => k_asm); (case kK => exact rfl); (case kd => exact Nat.le_of_ble_eq_true rfl); (case ku => exact Nat.le_of_ble_eq_true rfl); (case kn => exact sub_cons (by k_mem) (sub_cons (by k_mem) (sub_cons (by k_mem) (sub_cons (by k_mem) (sub_cons (by k_mem) (sub_cons (by k_mem) nil_sub)))))); (case ha => assumption); (case hb => assumption); (case hc => assumption); (case hd => assumption); (case he => assumption); (case hf => assumption)); intro r9 h9 tk9 F9 N9 e9; subst e9; (try dsimp only []); (try k_fold)))
local macro_rules | `(tactic| walk_at "call ref") => `(tactic| (k_here; (with_reducible show wpAny _ _ (call (Value.ref 145) [Value.bytes _ _]) _ _ _); k_dflt (refine' (other_ctr _ _ _ ?kb).useV ?k1 ?k2 ?k3 ?k4 ?k5 ?kK ?kn ?kd ?ku ?_; (case k1 => k_asm); (case k2 => k_asm); (case k3 => k_asm); (case k4 => k_asm); (case k5 => k_asm); (case kK => exact rfl); (case kd => exact Nat.le_of_ble_eq_true rfl); (case ku => exact Nat.le_of_ble_eq_true rfl); (case kn => exact no_need); (case kb => assumption)); intro r9 h9 tk9 F9 N9 e9; obtain ⟨t9, e9⟩ := e9; subst e9; (try dsimp only); (try k_fold)))
theorem seg23 {w : World} {L a : Addr} {ccd : Value} {Q : Flow → Shared → Prop} {s : Shared} {A₀ : Around} {base h₀ : Heap} {mean : ExcName → Option Value} {mg mb m : Str → Option Value} {ld lw lo x d t x2 d2 t2 : Addr} {k k2 tc tt : Tok} {nu : Nat} {ds vs us vs1 us1 : List Value} {ns : List Int} {ws os : List (Array UInt8)} (C : LC w A₀ base h₀ mean mg mb ds vs us vs1 us1 ns ws os) (F : Fr h₀ L s.heap m) (V : VC m ld lw lo x x2 tc tt ws) (N : News h₀ L s.heap [(lw, lst vs), (lo, listOf us.toArray nu), (ld, listOf ds.toArray 0), (x, instObj 112 d), (d, labD w k t), (t, tup vs1), (x2, instObj 112 d2), (d2, labD w k2 t2), (t2, tup us1)]) (G : m (Str.ofString "good") = some (.bool true))
    (hk : ∀ h' tk' m', Fr h₀ L h' m' → Q (.ret (.bool true)) { s with heap := h', toks := tk' }) : LawW w 22 L a ccd Q s := by
  obtain ⟨B, X, T, hi, hv, hu, hv1, hu1, hww, hoo, hlo, hl2, hl4⟩ := C
  refine (law_iff (by exact rfl)).mpr ?_
  replace F := fr_know (x := Str.ofString "name") F V.name
  replace F := fr_know (x := Str.ofString "words") F V.words
  replace F := fr_know (x := Str.ofString "good") F G
  refine wpN_execs_step ?_
  have h8 : ws.length ≤ 8 := by omega
  have hvl : vs.length = ws.length := hv.length
  have hws : ∀ b ∈ ws, b.size ≤ sizeLine := fun b hb => (hww b hb).size
  obtain ⟨p0, ps, hpe⟩ : ∃ p0 ps, ws.map othB = p0 :: ps := by
    cases e : ws.map othB with
    | nil => rw [List.map_eq_nil_iff] at e; subst e; exact absurd hl2 (by decide)
    | cons p q => exact ⟨p, q, rfl⟩
  have hpl : ps.length + 1 ≤ ws.length := by
    have e2 := congrArg List.length hpe
    rw [List.length_map, List.length_cons] at e2
    omega
  have h8p : (p0 :: ps).length ≤ 8 := by rw [List.length_cons]; omega
  have hps : ∀ b ∈ p0 :: ps, b.size ≤ sizeLine := fun b hb => by
    rw [← hpe] at hb
    obtain ⟨c, hc, rfl⟩ := List.mem_map.mp hb
    exact (othB_ok (hww c hc)).size
  k_steps
  refine srcG_list rfl (by k_asm) (by k_asm) (by k_mem) (by rw [List.size_toArray, hvl]; exact Nat.le_trans h8 (by decide)) ?_
  intro g tk3
  refine rest_quiet (fun i v => ∃ b, ws[i]? = some b ∧ ∃ t, v = .bytes (othB b) t) (srcAt_mem (by k_mem)) ?_ ?_
  · rintro j v I oI C oC D' ys m₂ h2 tk4 E2 hj hP hC hx F8 N8 off8 ne8
    have hPl : vs[j]? = some v := by simpa using hP
    obtain ⟨b, hb, t9, rfl⟩ : ∃ b, ws[j]? = some b ∧ ∃ t, v = .bytes b t := by
      have hj : j < ws.length := by rw [← hvl]; exact (List.getElem?_eq_some_iff.mp hPl).1
      obtain ⟨b, hb, t, ht⟩ := hv.get hPl
      exact ⟨b, hb, t, ht⟩
    have hbs : b.size ≤ sizeLine := hws b (List.mem_of_getElem? hb)
    k_steps
    exact end_quiet (by k_asm) (by k_asm) (by k_asm) (srcAt_mem (by k_mem)) ⟨_, hb, _, rfl⟩
  · intro ys hl hg D3 h3 tk3 F3 N3 off3
    have hym : BytesAre ys (p0 :: ps) := by rw [← hpe]; exact bytes_map (by rw [hl, List.size_toArray, hvl]) hg
    have hfit : fitsB ws p0 ps = true := fits_oth ws p0 ps hpe
    k_steps
    rw [hfit]
    exact hk _ _ _ (by k_asm)
end Mine

end
section
open PySem PySem.W PyProof.Rows PySem.Calls
set_option Elab.async false
set_option maxRecDepth 100000
set_option maxHeartbeats 8000000
namespace Mine
set_option maxHeartbeats 2000000
open PyProof.Rows.LCg
variable {w : World} {L a : Addr} {ccd : Value} {Q : Flow → Shared → Prop} {s : Shared} {A₀ : Around} {base h₀ : Heap} {mean : ExcName → Option Value} {mg mb m : Str → Option Value}
theorem star_ok : WordOk #[42] := by
  unfold WordOk
  refine ⟨by decide, by decide, ?_⟩
  intro k hk
  rw [show KBw.bInts #[42] = [42] from rfl] at hk
  rw [List.mem_singleton] at hk
  subst hk
  unfold OctOk
  decide
theorem law_rest {ld lw lo x d t x2 d2 t2 : Addr} {k k2 tc tt : Tok} {nu : Nat} {ds vs us vs1 us1 : List Value} {ns : List Int} {ws os : List (Array UInt8)} {tj : Tok} {le : Addr} {es : List Value} {eo : List (Array UInt8)} (C : LC w A₀ base h₀ mean mg mb ds vs us vs1 us1 ns ws os) (F14 : Fr h₀ L s.heap m) (V14 : VC m ld lw lo x x2 tc tt ws) (N14 : News h₀ L s.heap ((le, listOf es.toArray 0) :: [(lw, lst vs), (lo, listOf us.toArray nu), (ld, listOf ds.toArray 0), (x, instObj 112 d), (d, labD w k t), (t, tup vs1), (x2, instObj 112 d2), (d2, labD w k2 t2), (t2, tup us1)])) (G14 : m (Str.ofString "good") = some (.bool true)) (S14 : m (Str.ofString "some") = some (.int (eo.length : Int) tj)) (E14 : m (Str.ofString "ending") = some (.ref le)) (A14 : m (Str.ofString "same") = some (.bool (decide ((ws.drop (ws.length - eo.length)).map lowL = eo.map lowL)))) (hj1 : 0 < eo.length) (hj2 : eo.length ≤ ws.length) (he : BytesAre es eo) (hew : ∀ b ∈ eo, WordOk b) (k6 : ∀ b ∈ os, WordOk b) (l6 : os.length = ws.length)
    (hret : ∀ h' tk' m', Fr h₀ L h' m' → Q (.ret (.bool true)) { s with heap := h', toks := tk' }) : LawW w 14 L a ccd Q s := by
  refine seg15 C F14 V14 N14 G14 S14 E14 A14 (by omega) hj2 he hew fun h15 tk15 m15 F15 V15 N15 G15 S15 E15 A15 => ?_
  refine seg16 C F15 V15 N15 G15 S15 E15 A15 (by omega) hj2 he hew fun h16 tk16 m16 F16 V16 N16 G16 E16 => ?_
  refine seg17 C F16 V16 N16 G16 E16 (by omega) hj2 he hew fun h17 tk17 m17 F17 V17 N17 G17 => ?_
  refine seg18 C F17 V17 N17 G17 fun f tf hf h18 tk18 m18 F18 V18 N18 G18 W18 => ?_
  refine seg19 C F18 V18 N18 G18 W18 hf fun t0 lp h19 tk19 m19 F19 V19 N19 G19 P19 => ?_
  refine seg20 (p0 := #[42]) (ps := os.drop (ws.length - f)) C F19 V19 N19 G19 P19 ⟨⟨t0, rfl⟩, C.hu.drop _⟩ (fun b hb => ?_) (by rw [List.length_drop]; omega) fun h20 tk20 m20 F20 V20 N20 G20 => ?_
  · rcases List.mem_cons.mp hb with rfl | hb
    · exact star_ok
    · exact k6 b (List.mem_of_mem_drop hb)
  refine seg21 C F20 V20 N20 G20 fun f2 lp2 hf2 h21 tk21 m21 F21 V21 N21 G21 P21 => ?_
  obtain ⟨p0, ps, hpe⟩ : ∃ p0 ps, os.drop f2 = p0 :: ps := by
    cases e : os.drop f2 with
    | nil => rw [List.drop_eq_nil_iff] at e; omega
    | cons p q => exact ⟨p, q, rfl⟩
  have hpl : ps.length + 1 ≤ ws.length := by
    have e2 := congrArg List.length hpe
    rw [List.length_drop, List.length_cons] at e2
    omega
  refine seg22 C F21 V21 N21 G21 P21 (by rw [← hpe]; exact C.hu.drop _) (fun b hb => k6 b (List.mem_of_mem_drop (hpe ▸ hb))) hpl fun h22 tk22 m22 F22 V22 N22 G22 => ?_
  exact seg23 C F22 V22 N22 G22 fun h23 tk23 m23 F23 => hret _ _ _ F23
theorem law_body {l : Addr} {vs : List Value} {ns : List Int}
    (B : Below A₀ base [] h₀) (X : (Mine.hd.heap_39 w.params).In h₀) (T : Top Mine.hd.view_39 (looseW Mine.hd.view_39 []) mean mg mb h₀)
    (F : Fr h₀ L s.heap m) (N : News h₀ L s.heap []) (hs : m (Str.ofString "script") = some (.ref l)) (hl : h₀.IsList l vs.toArray) (hi : IntsAre vs ns) (hz : ns.length ≤ 63)
    (hret : ∀ h' tk' m', Fr h₀ L h' m' → Q (.ret (.bool true)) { s with heap := h', toks := tk' }) : LawW w 0 L a ccd Q s := by
  refine seg1 B X T F N hs hl hi hz fun h1 tk1 m1 ld1 ys F1 N1 g1 i1 => ?_
  refine seg2 B X T F1 N1 g1 i1 fun h2 tk2 m2 ld ds F2 N2 g2 i2 => ?_
  refine seg3 B X T F2 N2 g2 i2 fun h3 tk3 m3 c tc F3 N3 g3 c3 lo3 hi3 => ?_
  obtain ⟨cnt, rfl⟩ := Int.eq_ofNat_of_zero_le (show 0 ≤ c by omega)
  refine seg4 (cnt := cnt) B X T F3 N3 g3 i2 c3 (by omega) (by omega) fun h4 tk4 m4 lw vs ws F4 N4 g4 c4 w4 v4 l4 k4 => ?_
  refine seg5 B X T F4 N4 g4 c4 w4 fun h5 tk5 m5 lo F5 N5 ne1 ne2 g5 c5 w5 o5 => ?_
  refine seg6 B X T F5 N5 g5 c5 w5 o5 ne1 ne2 i2 v4 l4 k4 (by omega) (by omega) fun h6 tk6 m6 us nu os F6 N6 g6 c6 w6 o6 u6 l6 k6 => ?_
  subst l4
  refine seg7 B X T F6 N6 g6 c6 w6 o6 i2 v4 u6 k4 k6 l6 (by omega) (by omega) fun h7 tk7 m7 x d t x2 d2 t2 k k2 tt vs1 us1 F7 N7 C V7 => ?_
  refine seg8 C F7 V7 N7 fun h8 tk8 m8 F8 V8 N8 G8 => ?_
  refine seg9 C F8 V8 N8 G8 fun h9 tk9 m9 F9 V9 N9 G9 => ?_
  refine seg10 C F9 V9 N9 G9 fun h10 tk10 m10 F10 V10 N10 G10 A10 => ?_
  refine seg11 C F10 V10 N10 G10 A10 fun h11 tk11 m11 F11 V11 N11 G11 => ?_
  refine seg12 C F11 V11 N11 G11 fun j tj hj1 hj2 h12 tk12 m12 F12 V12 N12 G12 S12 => ?_
  refine seg13 C F12 V12 N12 G12 S12 hj1 hj2 fun le es he h13 tk13 m13 F13 V13 N13 G13 S13 E13 => ?_
  refine seg14 C F13 V13 N13 G13 S13 E13 hj1 hj2 he fun h14 tk14 m14 F14 V14 N14 G14 S14 E14 A14 => ?_
  have hew : ∀ b ∈ os.drop (os.length - j), WordOk b := fun b hb => k6 b (List.mem_of_mem_drop hb)
  have hej : (os.drop (os.length - j)).length = j := by rw [List.length_drop]; omega
  exact law_rest (eo := os.drop (os.length - j)) C F14 V14 N14 G14 (by rw [hej]; exact S14) E14 (by rw [hej]; exact A14) (by omega) (by omega) he hew k6 l6 hret
end Mine

end
section
open PySem PySem.W PyProof.Rows PySem.Calls
set_option Elab.async false
set_option maxRecDepth 100000
set_option maxHeartbeats 8000000
namespace Mine
example : True := by w_top off; trivial
local macro_rules | `(tactic| walk_at "no such goal") => `(tactic| fail "no")
local macro_rules | `(tactic| walk_at "no such goal") => `(tactic| fail "no")
local macro_rules | `(tactic| walk_at "no such goal") => `(tactic| fail "no")
local macro_rules | `(tactic| walk_at "no such goal") => `(tactic| fail "no")
local macro_rules | `(tactic| walk_at "no such goal") => `(tactic| fail "no")
set_option maxHeartbeats 2000000
open PyProof.Rows.LCg
theorem call_fullN {prog : Program} {w : World} {A : Around} {R : Result → Shared → Prop} {s : Shared} {name : Str} {params : Arguments} {body : List Stmt} {scope : Scope}
    {dV kV pm cd doc : Value} {a : Addr} {o : Obj} {args : Args} {binds : List (Str × Value)}
    (hroom : A.depth < recursionLimit) (ho : s.heap.get? a = some o) (hdata : o.data = .func { docDef name params body scope pm cd doc with defaults := dV, kwdefaults := kV }) (hlim : s.heap.NoLimit) (hcd : s.heap.CodeRec cd name)
    (hbind : BindsTo s { docDef name params body scope pm cd doc with defaults := dV, kwdefaults := kV } args binds)
    (hloc : ∀ x ∈ binds, scope.names.lookup x.1 = some .local)
    (h : ∀ h₁, Fr s.heap s.heap.objs.size h₁ (fun x => binds.reverse.lookup x) →
      wpN (model prog w) (A.deeper (envOf name scope s.heap.objs.size a cd)) (execs body (envOf name scope s.heap.objs.size a cd))
        (fun f s' => R (.ok (.ret (match f with | .ret v => v | _ => .none))) s') noE
        { s with heap := h₁, toks := s.toks + binds.length })
    (hco : scope.isCoroutine = false := by rfl) (hgen : scope.isGenerator = false := by rfl) (hk : scope.kind = .function := by rfl)
    (hcell : ∀ x ∈ scope.names, x.2 ≠ .cell := by decide) :
    codeN (model prog w) A (.call (.ref a) args) R s := by
  refine codeN_call_function hroom ho hdata hco hgen rfl hcd (hbind _ _ _ _ ?_)
  refine wpAny_newFunctionEnv hcell hloc (fun h₁ hns₁ hsb₁ => ⟨hlim.fresh _ hsb₁, codeN_func ?_⟩) hk
  exact h h₁ ⟨hns₁, fun b o e => hsb₁.extBut b o (Nat.ne_of_lt (Heap.lt_size e)) (Heap.get?_push_of_some _ e), Nat.le_refl _⟩
local macro_rules | `(tactic| k_mem) => `(tactic| first | (with_reducible assumption) | (with_reducible exact List.mem_cons_self) | (with_reducible refine List.mem_cons_of_mem _ ?_; k_mem) | fail "no")
local macro_rules | `(tactic| k_all) => `(tactic| first | exact ne_lt4 (by assumption) | exact ne_lt4 (And.right (by assumption)) | exact ne_lt4 (And.right (And.right (by assumption))) | exact ne_lt1 (by assumption) | exact ne_lt2 (by assumption) | exact ne_lt3 (by assumption) | exact ne_lt3 (And.right (by assumption)) | exact ne_lt3 (And.right (And.right (by assumption))) | exact ne_lt3 (And.right (And.right (And.right (by assumption)))) | fail "no")
theorem law_holds : PySem.Challenge.rw_fh0007_01.Holds := by
  refine Mine.hd ?_
  k_fill
  intro w s₀ s₁ mg mb G Y fa o pm cd doc dV kV ho hd hcd hD hmg hg args vals as hpre hlay hrd hwl hlo
  have KX := kIn_of Y
  have X := (Ground.X G).1
  have V := (Ground.X G).2
  refine Ground.open G ?_
  intro T B D TE TW
  try (refine guard_noD D (by decide +kernel) ?_; clear D)
  obtain ⟨_, _, M⟩ := bmod_of_top T
  have TA := at_of_top T
  obtain ⟨_, _, he, B0⟩ := based_of_top T rfl hmg ho hd
  have he' : cd = _ := he
  subst he'
  clear he
  clear hmg
  wrow_args hpre hlay hrd hwl hlo
  have he := Dflts.none hD rfl
  subst he
  refine wpN_noE (wpN_call ?_)
  refine call_fullN (by decide) ho hd (Top.nolimit T) hcd (BindsTo.of_eq rfl) (locs rfl) fun h₁ F => ?_
  refine roomN (d := 900) (u := 9000) (Nat.le_of_ble_eq_true rfl) (Nat.le_of_ble_eq_true rfl) ?_
  refine (law_iff (by exact rfl)).mp (law_body (below_caller s₁.heap) KX T F News.nil rfl (by assumption) (by assumption) (by omega) ?_)
  intro h' tk' m' F'
  show GoodWG _ _ _ _ _ (.ok (.ret (.bool true))) _
  wrow_closeG
end Mine

end
theorem PySem.Challenge.cw_fh0007_01_holds : PySem.Challenge.rw_fh0007_01.Holds :=
  Mine.law_holds
