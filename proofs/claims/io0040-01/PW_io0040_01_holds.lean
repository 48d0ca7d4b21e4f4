import PyProof.Rows.All
import Wide.All
import OpenK.AllK
import Wide.FinOn
import Lean
import PySem.Challenge.RW_io0040_01
/-! io0040-01: b64encode of bytes and bytearrays is the writing to the base 64; other altchars are refused.
The parts, each built apart before: the logic of contexts without a decoder frame, the head, one contract a def, the plain law, the walk of law. -/
set_option Elab.async false
set_option maxRecDepth 100000
section
open PySem PySem.W PySem.Calls PyProof.Rows
namespace Mine

/-! contexts in which no frame holds a bytes-like object of the machine's own -/
def okId (id : String) : Bool := !(Builtin.Bytes.decodersThatHold.contains id) && !((["bytearray.__contains__", "bytearray.__mod__", "bytearray.__rmod__", "_struct.pack_into.held", "bytearray.find.held"] : List String).contains id)
def okCode : Code → Bool
  | .builtin id _ => okId id
  | _ => true
def Clean (Γ : Ctx) : Prop := okCode Γ.code = true ∧ ∀ x ∈ Γ.below, okCode x.1 = true
def wpG {α : Type} (M : Model) (A : Around) (t : Sem α) (Q : α → Shared → Prop) (E : Value → Shared → Prop) (s : Shared) : Prop :=
  ∀ Γ p, Γ.In A → Clean Γ → Sem.wp M Γ t (fun a _ s' => Q a s') (fun e _ s' => E e s') p s
def codeG (M : Model) (A : Around) (c : Code) (R : Result → Shared → Prop) (s : Shared) : Prop :=
  ∀ Γ p, Γ.code = c → Γ.Below A → (∀ x ∈ Γ.below, okCode x.1 = true) → wpCode M Γ R p s

section
variable {α β : Type} {M : Model} {A : Around} {E : Value → Shared → Prop} {s : Shared}
theorem wpG_of {t : Sem α} {Q : α → Shared → Prop} (h : wpAny M A t Q E s) : wpG M A t Q E s := fun Γ p hΓ _ => h Γ p hΓ
theorem codeG_of {c : Code} {R : Result → Shared → Prop} (h : codeAny M A c R s) : codeG M A c R s := fun Γ p hc hΓ _ => h Γ p hc hΓ
theorem wpG_pure {a : α} {Q : α → Shared → Prop} (h : Q a s) : wpG M A (pure a) Q E s := fun _ _ _ _ => h
theorem wpG_mono {t : Sem α} {Q Q' : α → Shared → Prop} {E' : Value → Shared → Prop} (h : wpG M A t Q E s) (hQ : ∀ a s, Q a s → Q' a s) (hE : ∀ e s, E e s → E' e s) : wpG M A t Q' E' s :=
  fun Γ p hΓ hc => Sem.wp_mono M Γ t (fun a _ s => hQ a s) (fun e _ s => hE e s) p s (h Γ p hΓ hc)
theorem wpG_bind {m : Sem α} {f : α → Sem β} {Q : β → Shared → Prop} (h : wpG M A m (fun a s' => wpG M A (f a) Q E s') E s) : wpG M A (m >>= f) Q E s := fun Γ p hΓ hc => by
  rw [Sem.wp_bind']
  exact Sem.wp_mono M Γ m (fun a p' s' h' => h' Γ p' hΓ hc) (fun _ _ _ h' => h') p s (h Γ p hΓ hc)
/-- a step of the plain logic, then the rest in clean contexts -/
theorem wpG_then {m : Sem α} {f : α → Sem β} {Q : β → Shared → Prop} (h : wpAny M A m (fun a s' => wpG M A (f a) Q E s') E s) : wpG M A (m >>= f) Q E s := wpG_bind (wpG_of h)
theorem wpG_onRaise {m : Sem α} {k : Value → Sem Unit} {Q : α → Shared → Prop} (h : wpG M A m Q (fun _ _ => False) s) : wpG M A (m.onRaise k) Q E s := fun Γ p hΓ hc => by
  rw [Sem.wp_onRaise]
  exact Sem.wp_mono M Γ m (fun _ _ _ h' => h') (fun e p' s' h' => h'.elim) p s (h Γ p hΓ hc)
theorem wpG_holding {vs : List Value} {m : Sem α} {Q : α → Shared → Prop} (h : wpG M A m Q E s) : wpG M A (holding vs m) Q E s := fun Γ p hΓ hc => by rw [Sem.wp_holding]; exact h Γ p hΓ hc
theorem codeG_mono {c : Code} {R R' : Result → Shared → Prop} (h : codeG M A c R s) (hR : ∀ r s, R r s → R' r s) : codeG M A c R' s := fun Γ p hc hΓ hb => wpCode_mono hR (h Γ p hc hΓ hb)
theorem clean_enter {Γ : Ctx} (h : Clean Γ) (c : Code) (hd : Option Value) (p : Pos) : ∀ x ∈ (Γ.enter c hd p).below, okCode x.1 = true := fun x hx => by
  rcases List.mem_cons.mp hx with rfl | hx
  · exact h.1
  · exact h.2 x hx
theorem wpG_run {c : Code} {Q : Flow → Shared → Prop} (hc : codeG M A c (fun r s' => match r with | .ok f => Q f s' | .error e => E e s') s) : wpG M A (run c none) Q E s := fun Γ p hΓ hcl => by
  rw [Sem.wp_run]
  exact hc _ p rfl (hΓ.enter c none p (by intro x; cases x)) (clean_enter hcl c none p)
theorem wpG_call {f : Value} {pos : List Value} {kw : List (PySem.Str × Value)} {Q : Value → Shared → Prop}
    (hc : codeG M A (.call f ⟨pos, kw⟩) (fun r s' => match r with | .ok (.ret v) => Q v s' | .ok _ => False | .error e => E e s') s) : wpG M A (call f pos kw) Q E s := fun Γ p hΓ hcl => by
  show Sem.wp M Γ (runValue (.call f ⟨pos, kw⟩)) _ _ p s
  rw [Sem.wp_runValue]
  exact hc _ p rfl (hΓ.enter _ none p (by intro x; cases x)) (clean_enter hcl _ none p)
theorem codeG_of_tree {c : Code} {R : Result → Shared → Prop} (ok : okCode c = true)
    (h : wpG M (A.under c) (M.den c) (fun fin s' => match fin with | .done f => R (.ok f) s' | .again c' => c'.quiet = true ∧ codeG M A c' R s') (fun e s' => R (.error e) s') s) : codeG M A c R s := fun Γ p hc hΓ hb => by
  rw [wpCode_iff_wp, hc]
  refine Sem.wp_mono M Γ _ (fun fin p' s' h' => ?_) (fun _ _ _ h' => h') p s (h Γ p (hc ▸ hΓ.in) ⟨hc ▸ ok, hb⟩)
  cases fin with
  | done f => exact h'
  | again c' => exact ⟨h'.1, h'.2 (Γ.goto c') p' rfl (hΓ.goto c') hb⟩
theorem codeG_loop {c : Code} {R : Result → Shared → Prop} (ok : okCode c = true) (hq : c.quiet = true) (I : Nat → Shared → Prop)
    (turn : ∀ n s, I n s → wpG M (A.under c) (M.den c) (fun fin s' => match fin with | .done f => R (.ok f) s' | .again c' => c' = c ∧ ∃ m, m < n ∧ I m s') (fun e s' => R (.error e) s') s)
    (n : Nat) (h : I n s) : codeG M A c R s := by
  induction n using Nat.strongRecOn generalizing s with
  | ind n ih =>
    refine codeG_of_tree ok (wpG_mono (turn n s h) (fun fin s' hf => ?_) fun _ _ h' => h')
    cases fin with
    | done f => exact hf
    | again c' => obtain ⟨rfl, m, hm, hI⟩ := hf; exact ⟨hq, ih m hm hI⟩

theorem codeG_builtin {prog : Program} {w : World} {id : String} {args : Args} {b : Builtin} {R : Result → Shared → Prop} (ok : okId id = true) (hb : entryFor table id = some b)
    (h : wpG (model prog w) (A.under (.builtin id args)) (b args) (fun fin s' => match fin with | .done f => R (.ok f) s' | .again c' => c'.quiet = true ∧ codeG (model prog w) A c' R s') (fun e s' => R (.error e) s') s) :
    codeG (model prog w) A (.builtin id args) R s := by
  refine codeG_of_tree ok ?_
  show wpG _ _ (match entryFor table id with | some b => b args | none => unsupported ((withoutEnding? id "#data").getD id)) _ _ s
  rw [hb]
  exact h

open Builtin.Bytes in
theorem exported_G {v : Value} {Q : Bool → Shared → Prop} (h : Q false s) : wpG M A (exported v) Q E s := fun Γ p _ hc => by
  have hall : ∀ x ∈ (Γ.code, p) :: Γ.below, okCode x.1 = true := fun x hx => by
    rcases List.mem_cons.mp hx with rfl | hx
    · exact hc.1
    · exact hc.2 x hx
  unfold exported
  rw [Sem.wp_bind']
  show Sem.wp M Γ (.stack .pure) _ _ p s
  rw [Sem.wp_stack, Sem.wp_pure, Sem.wp_pure']
  generalize hb : List.any ((Γ.code, p) :: Γ.below) _ = b
  cases b with
  | false => exact h
  | true =>
    exfalso
    obtain ⟨⟨c, q⟩, hx, hf⟩ := List.any_eq_true.mp hb
    have hx' := hall _ hx
    dsimp only at hx' hf
    split at hf <;> simp_all [okCode, okId]
end
end Mine
end
section
open PySem PySem.W PySem.Calls PyProof.Rows
namespace Mine.Head

/-- the caller's own context, with nothing below it -/
abbrev ctx0 : Ctx := ⟨.builtin "claim.caller" {}, none, none, [], none⟩
theorem clean0 : Clean ctx0 := ⟨by decide +kernel, fun _ hx => nomatch hx⟩

theorem ends_at {prog : Program} {w : World} {t : Sem Fin} {s : Shared} {R : Result → Shared → Prop} (hreg : s.asleep)
    (h : wpG (model prog w) callerA t (fun fin s' => ∃ f, fin = .done f ∧ R (.ok f) s' ∧ leftWithCleanup s'.gens = false) (fun _ _ => False) s) :
    ∃ n r s' s'', runN (denote table) prog w n s ⟨t, .builtin "claim.caller" {}, default, []⟩ = .halted (outcomeOf r) s' ∧
      schedN (denote table) prog w n (.single s ⟨t, .builtin "claim.caller" {}, default, []⟩) = .halted (outcomeOf r) s' ∧ s'.forget = s''.forget ∧ R r s'' := by
  have h0 := h ctx0 default caller_in clean0
  have h1 := Sem.wp_mono (model prog w) ctx0 t (exc' := fun e _ s' => R (.error e) s' ∧ leftWithCleanup s'.gens = false)
    (post' := Sem.finPost (model prog w) ctx0 fun r s' => R r s' ∧ leftWithCleanup s'.gens = false)
    (fun fin p' s' z => by obtain ⟨f, rfl, z⟩ := z; exact z) (fun _ _ _ z => z.elim) default s h0
  obtain ⟨n, r, s₁, s₂, hs, hn, hf, hR⟩ := wp_halts_full (M := model prog w) (R := R) hreg h1
  exact ⟨n, r, s₂, s₁, hn, hs, hf, hR⟩

theorem called {c : ClaimW} {tree : List Value → Sem Fin} {w : World} {s : Shared} {free : Addr → Prop} {gens : Prop} {kept : Heap → Prop} (hz : s.asleep) (hgens : s.gens = #[])
    (hspec : ∀ args, c.pre args = true → WData.layableAll args = true → ∀ ord : List DictEntry → List DictEntry, (∀ l, (ord l).Perm l) →
      ∃ vs s₁, layAllW c.records (classAt s.heap) w.params ord args s = some (vs, s₁) ∧
        wpG (model c.prog w) callerA (tree vs) (fun fin s' => ∃ f, fin = .done f ∧ c.Ends s args vs s₁ (.ok f) s' ∧ s'.os = s.os ∧ AllBare s'.gens ∧ kept s'.heap) (fun _ _ => False) s₁) :
    c.CallFrom (fun vs => ⟨tree vs, .builtin "claim.caller" {}, default, []⟩) w free gens kept s := by
  intro args hpre hlay ord hord
  obtain ⟨vs, s₁, hlaid, hw⟩ := hspec args hpre hlay ord hord
  have rest := layAllW_rest _ _ _ hlaid
  obtain ⟨k, r, s', s'', hrun, hsched, hfo, he, ho, hk⟩ := ends_at (prog := c.prog) (w := w) (t := tree vs) (s := s₁) (R := fun r s' => c.Ends s args vs s₁ r s' ∧ s'.os = s.os ∧ kept s'.heap)
    (Shared.asleep_of_life rest.2.2.2 hz) (wpG_mono hw (fun fin s' z => by
      obtain ⟨f, e, z1, z2, z3, z4⟩ := z
      exact ⟨f, e, ⟨z1, z2, z4⟩, leftWithCleanup_false_of_bare z3⟩) fun _ _ z => z)
  obtain ⟨eh, _, _, eo, _⟩ := Shared.forget_eq hfo
  have he := he.congr eh
  rw [← eh] at hk
  rw [← eo] at ho
  have hl : s'.heap.life = s.heap.life := (runN_life _ _ _ hrun).trans rest.2.2.2
  refine ⟨vs, s₁, hlaid, k, _, s', hsched, ?_, (fun _ i x hx => by rw [hgens] at hx; simp at hx), hk, by rw [hl], Shared.rest_eq ho⟩
  rcases he with ⟨v, rfl, d1, d2, d3, d4, d5⟩ | ⟨e, ob, cls, rfl, d1, d2, d3, d4, d5⟩
  · exact .inl ⟨v, rfl, d1, d2, d3, fun b o y _ => d4 b o y, d5⟩
  · exact .inr ⟨e, ob, cls, rfl, d1, d2, d3, d4, fun b o y _ => d5 b o y⟩

abbrev WalkC (q : Program) (loose : List PySem.Str) (XP : (PySem.Str → Option Value) → Heap → Prop) (YP : World → Heap → Prop) (r : RowW) (d : DefRec) (kwd : List (PySem.Str × Expr)) : Prop :=
  ∀ (w : World) (s₀ s₁ : Shared) (mg mb : PySem.Str → Option Value), Ground q loose r.records XP w s₀ mg mb s₁.heap → YP w s₁.heap → ∀ (a : Addr) (o : Obj) (pm cd doc dV kV : Value), s₁.heap.get? a = some o →
    o.data = .func { docDef d.name d.params d.body d.scope pm cd doc with defaults := dV, kwdefaults := kV } → s₁.heap.CodeRec cd d.name → Dflts mg s₁.heap d.params kwd dV kV → mg d.name = some (.ref a) → s₁.gens = #[] →
    ∀ (args : List WData) (vals : List Value) (as : List Addr), r.claim.pre args = true → WData.layableAll args = true → ReadsAllW r.records (classAt s₀.heap) s₁.heap vals args as → WellAll w.params s₁.heap vals args → (∀ a ∈ as, (a == sysModules) = false) →
      wpG (model r.prog w) callerA (PySem.call (.ref a) vals) (fun v s' => GoodWG r.claim (classAt s₀.heap) (ExcName.means s₀.heap) args s₁ (.ok (.ret v)) s') (fun _ _ => False) s₁

end Mine.Head
namespace Mine.Head.PySem.W
/-- the head's last step, by the restricted walk; «o_head» finds it under this name -/
theorem holds_open {r : OpenRow} {q : Program} {loose : List PySem.Str} {Xt : Shared → Bool} {XP : (PySem.Str → Option Value) → Heap → Prop} {α : Type} {Yf : Shared → α} {Ya : World → α} {YP : World → Heap → Prop} {d : DefRec} {kwd : List (PySem.Str × Expr)} {N : Nat}
    (left : LeftO r.prog q loose Xt Yf Ya N) (hY : ∀ w s, Yf s = Ya w → YP w s.heap) (hYk : ∀ w h h', YP w h → (∀ b o, h.get? b = some o → h'.get? b = some o) → YP w h')
    (hX : ∀ s, Xt s = true → XP (s.heap.nsMap mainGlobals) s.heap) (hXk : ∀ mg h h', XP mg h → (∀ b o, h.get? b = some o → h'.get? b = some o) → XP mg h')
    (hdef : defOf q r.name = some (d, kwd)) (hp : r.prog.theDef r.name = some (d.params, d.body, d.scope)) (hk : kwWritten? d.params.kwonlyargs d.params.kw_defaults = some kwd) (hRf : ∀ s, Xt s = true → RecFacts r.records s.heap) (hwr : (!r.writes || r.records.isEmpty) = true)
    (k1 : r.wellSaid = true) (ok : (chainsOk q && opensWell r.prog && (frees r.toRowW && r.within.isEmpty)) = true) (hb : r.prog.bare) (hw : r.toRowW.promised)
    (call : WalkC q loose XP YP r.toRowW d kwd) : r.Holds := by
  obtain ⟨ok, k5⟩ := Bool.and_eq_true_iff.mp ok
  obtain ⟨hch, o1⟩ := Bool.and_eq_true_iff.mp ok
  obtain ⟨k5, k6⟩ := Bool.and_eq_true_iff.mp k5
  obtain ⟨hsame, hu, ha, hap, hm⟩ := frees_parts k5
  refine ⟨k1, hw, ⟨hb, o1, by show r.toRowW.makers.map _ = []; rw [hm]; rfl⟩, hw.witness, fun w => ?_⟩
  have B := left.behind (XP := fun mg h => XP mg h ∧ RecFacts r.records h) (fun s hs => ⟨hX s hs, hRf s hs⟩) hch w
  refine ⟨B.1, fun s' hs' => ?_⟩
  obtain ⟨s₀, hf, hg0, s, hT, hz, hgens, hg, G00, y⟩ := B.2 s' hs'
  have G0 : Ground q loose [] XP w s (s.heap.nsMap mainGlobals) (s.heap.nsMap builtinsNs) s.heap := ⟨G00.T, G00.B, G00.D, G00.TE, G00.TD, G00.W, G00.X.1, G00.cls, G00.has, G00.apart, G00.once, G00.K⟩
  have RF := G00.X.2
  have hT' := hT
  have G : Ground q loose r.records XP w s _ _ s.heap := RF.ground G0
  have hgens : s.gens = #[] := Array.eq_empty_of_size_eq_zero (beq_iff_eq.mp hgens)
  refine ⟨s₀, hf, hg0, s, hT, fun n hn => ?_, RF.1, RF.2.1, called (c := r.toRowW.claim) hz hgens fun args hpre hlay ord hord => ?_⟩
  · obtain rfl : n = r.name := by split at hn <;> simp_all
    exact pinned_of_view hg G0 hdef hp hk
  · obtain ⟨⟨vs, s₁⟩, hlaid⟩ := Option.isSome_iff_exists.mp (layAllW_isSome (P := w.params) (ord := ord) G.has args r.toRowW.args s (pre_splitW hpre).1)
    have keeps := layAllW_keeps _ _ _ hlaid
    have rest := layAllW_rest _ _ _ hlaid
    obtain ⟨as, hrd, hin, hold⟩ := reads_layAllW hord _ _ _ hlaid hlay s₁.heap (fun _ _ e => e)
    have L : Laid r.toRowW.records w s s₁ args vs as := ⟨⟨ord, hord, hlaid⟩, hrd, hin, hold, keeps, rest.1.trans hgens, rest.2.2.1⟩
    have G₁ := G.keeps hXk keeps
    obtain ⟨a, o, pm, cd, doc, dV, kV, h1, h2, h3, h4, h5⟩ := G₁.fn hdef
    have main := call w s s₁ _ _ G₁ (hYk _ _ _ (hY w s y) keeps) a o pm cd doc dV kV h2 h3 h4 h5 (defOf_name hdef ▸ h1) L.gens args vs as hpre hlay L.reads L.well (L.low G.low)
    refine ⟨vs, s₁, hlaid, wpG_then (wpAny_nsGet G₁.T.g ?_)⟩
    rw [h1]
    refine wpG_bind (wpG_mono main (fun v s' g => wpG_pure ⟨_, rfl, ?_⟩) fun _ _ z => z)
    have z := g.laid (c := r.toRowW.claim) hsame (List.isEmpty_iff.mp k6) (ident_freeW hu ha hap) L
    exact ⟨z.1, z.2.1, z.2.2, fun q => ⟨namesKept_of hT' hg r.keeps keeps g.2.1.old, noTable hwr q⟩⟩

end Mine.Head.PySem.W
namespace Mine.Head
set_option maxHeartbeats 8000000 in
open_top hd for PySem.Challenge.rw_io0040_01
end Mine.Head
end
section
open PySem PySem.W PySem.Calls PyProof.Rows
namespace Mine

abbrev AA (dp un : Nat) (gd : Option (List Code)) (outer : List Env) : Around := { handled := none, depth := dp, frames := some outer, guards := gd, units := un }


theorem enterP {prog : Program} {w : World} {A : Around} {s : Shared} {base : Heap} {outer : List Env} {K : Frag}
    {R : Result → Shared → Prop} {name qual : PySem.Str} {params : Arguments} {body : List Stmt} {scope : Scope} {dV kV doc pm cdv ct oc : Value} {an od : Option Addr} {osl : Array (Option Value)} {f : Addr} {args : Args} {binds : List (PySem.Str × Value)}
    (_B : Below A base outer s.heap) (X : K.In s.heap) (hlim : s.heap.NoLimit)
    (ho : K.lookup f = some ⟨oc, od, .func (fnOf name qual params body scope dV kV doc pm an cdv ct), osl⟩) (hcd : codeIn K cdv qual = true) (hroom : A.depth < recursionLimit)
    (hbind : BindsTo s (fnOf name qual params body scope dV kV doc pm an cdv ct) args binds) (hloc : ∀ y ∈ binds, scope.names.lookup y.1 = some .local)
    (h : ∀ L' h₁, Fr s.heap L' h₁ (fun y => binds.reverse.lookup y) → News s.heap L' h₁ [] →
      wpAny (model prog w) (A.deeper (envOf qual scope L' f cdv)) (execs body (envOf qual scope L' f cdv))
        (fun fl s' => R (.ok (.ret (match fl with | .ret v => v | _ => .none))) s')
        (fun e s' => wpAny (model prog w) (A.deeper (envOf qual scope L' f cdv)) (leaving (envOf qual scope L' f cdv) e) (fun _ s'' => R (.error e) s'') (fun e' s'' => R (.error e') s'') s')
        { s with heap := h₁, toks := s.toks + binds.length })
    (hco : scope.isCoroutine = false) (hgen : scope.isGenerator = false) (hk : scope.kind = .function)
    (hcell : ∀ x ∈ scope.names, x.2 ≠ .cell) : codeAny (model prog w) A (.call (.ref f) args) R s :=
  codeAny_call_def (fd := fnOf name qual params body scope dV kV doc pm an cdv ct) (body := body) (binds := binds) hroom (X _ _ ho) rfl hlim (codeRec_of X hcd) rfl hbind hcell hloc
    (fun h₁ hns hk₁ => h s.heap.objs.size h₁ ⟨hns, hk₁, Nat.le_refl _⟩ News.nil) hco hgen hk

theorem insert0 {prog : Program} {w : World} {A : Around} {E : Value → Shared → Prop} {s : Shared} {h₀ : Heap} {L D : Addr} {m : PySem.Str → Option Value} {news own : List (Addr × Obj)} {us : List Value} {row : List Int} {n : Nat} {u t : Tok} {y : Int} {Q : Value → Shared → Prop}
    (F : Fr h₀ L s.heap m) (N : News h₀ L s.heap news) (hm : (D, listOf us.toArray n) ∈ news) (ho : ∀ p ∈ own, p ∈ news) (hd : ∀ p ∈ own, p.1 ≠ D) (hz : us.length ≤ sizeLine) (hi : IntsAre us row)
    (h : ∀ h', Fr h₀ L h' m → News h₀ L h' ((D, listOf (.int y t :: us).toArray (n + 1)) :: own) → IntsAre (.int y t :: us) (y :: row) → Q .none { s with heap := h' }) :
    wpAny (model prog w) A (call (.builtin "list.insert") [.ref D, .int 0 u, .int y t]) Q E s := by
  have N' : News h₀ L s.heap ((D, listOf us.toArray n) :: own) := fun p hp => by
    rcases List.mem_cons.mp hp with rfl | hp
    · exact N _ hm
    · exact N _ (ho p hp)
  exact kl_insert F N' (by decide) (l := .int y t :: us) (by simp [kl_ins]) (Upd.head hd) hz fun h' F' N' => h h' F' N' (.cons y t hi)

def numOf (ns : List Int) : Int := ns.foldl (fun a n => a * 256 + n) 0
def places (n : Nat) : Nat := (n * 8 + 5) / 6
def figs (ms : List Int) (M : Int) : Nat → List Int
  | 0 => []
  | k + 1 => ms.getD (M / 64 ^ k % 64).toNat 0 :: figs ms M k
def padOf (n : Nat) : Nat := (3 - n % 3) % 3
def writtenM (ns : List Int) : Int := numOf ns * 2 ^ (places ns.length * 6 - ns.length * 8)
def writtenL (ns ms : List Int) : List Int := figs ms (writtenM ns) (places ns.length) ++ List.replicate (padOf ns.length) 61
def writtenB (ns ms : List Int) : Array UInt8 := byteArr (writtenL ns ms)

theorem fold_pair (ns : List Int) : ∀ a : Int, (List.foldl (fun (σ : Int × PUnit.{1}) n => (σ.fst * 256 + n, PUnit.unit)) (a, PUnit.unit) ns).fst = ns.foldl (fun a n => a * 256 + n) a := by
  induction ns with
  | nil => intro a; rfl
  | cons n r ih => intro a; simp only [List.foldl_cons]; exact ih _
theorem pl_fdiv (n : Nat) : Int.fdiv ((n : Int) * 8 + 5) 6 = (places n : Int) := by
  unfold places
  rw [Int.fdiv_eq_ediv_of_nonneg _ (by decide)]
  omega
theorem exp_pl (n : Nat) : (((places n : Nat) : Int) * 6 - (n : Int) * 8).toNat = places n * 6 - n * 8 := by omega
theorem bits_pow {e : Nat} (h : e ≤ 5) : Builtin.Int.intBits (2 ^ e) ≤ 64 := by
  have : e = 0 ∨ e = 1 ∨ e = 2 ∨ e = 3 ∨ e = 4 ∨ e = 5 := by omega
  rcases this with rfl | rfl | rfl | rfl | rfl | rfl <;> decide +kernel
theorem foldl_nonneg : ∀ {ns : List Int} {a : Int}, (∀ n ∈ ns, 0 ≤ n ∧ n < 256) → 0 ≤ a → 0 ≤ ns.foldl (fun a n => a * 256 + n) a
  | [], _, _, h => h
  | n :: r, a, h, ha => foldl_nonneg (ns := r) (fun k hk => h k (List.mem_cons_of_mem _ hk)) (by have := h n (List.mem_cons_self ..); show 0 ≤ a * 256 + n; omega)
theorem writtenM_nonneg {ns : List Int} (h : ∀ n ∈ ns, 0 ≤ n ∧ n < 256) : 0 ≤ writtenM ns :=
  Int.mul_nonneg (foldl_nonneg h (by decide)) (Int.le_of_lt (Int.pow_pos (by decide)))
theorem st0 (ms : List Int) (M : Int) : M = M / 64 ^ (([] : List Int).length) ∧ [] = figs ms M (([] : List Int).length) := ⟨by simp, rfl⟩
theorem pl_le {n : Nat} (h : n ≤ 66) : places n ≤ 88 := by unfold places; omega
theorem st1 {ms : List Int} {M a : Int} {pre : List Int} {k : Int} (ha : a = M / 64 ^ pre.length) : a.fdiv 64 = M / 64 ^ (pre ++ [k]).length ∧ ms.getD (a.fmod 64).toNat 0 :: figs ms M pre.length = figs ms M (pre ++ [k]).length := by
  subst ha
  rw [List.length_append, List.length_singleton]
  refine ⟨?_, ?_⟩
  · rw [Int.fdiv_eq_ediv_of_nonneg _ (by decide), Int.pow_succ, Int.ediv_ediv_of_nonneg (Int.le_of_lt (Int.pow_pos (by decide)))]
  · rw [Int.fmod_eq_emod_of_nonneg _ (by decide)]; rfl
theorem figs_length (ms : List Int) (M : Int) : ∀ k, (figs ms M k).length = k
  | 0 => rfl
  | k + 1 => by rw [figs, List.length_cons, figs_length ms M k]
theorem padOf_le (n : Nat) : padOf n ≤ 2 := by unfold padOf; omega
theorem pad_eq (n : Nat) : (List.replicate ((-(places n : Int)).fmod 4).toNat [(61 : Int)]).flatten = List.replicate (padOf n) 61 := by
  have h : ((-(places n : Int)).fmod 4).toNat = padOf n := by
    rw [Int.fmod_eq_emod_of_nonneg _ (by decide)]
    unfold padOf places
    obtain ⟨q, hq⟩ : ∃ q, q = n / 3 := ⟨_, rfl⟩
    have hr : n % 3 = 0 ∨ n % 3 = 1 ∨ n % 3 = 2 := by omega
    rcases hr with hr | hr | hr
    · have h1 : (n * 8 + 5) / 6 = 4 * q := by omega
      rw [h1, hr]; omega
    · have h1 : (n * 8 + 5) / 6 = 4 * q + 2 := by omega
      rw [h1, hr]; omega
    · have h1 : (n * 8 + 5) / 6 = 4 * q + 3 := by omega
      rw [h1, hr]; omega
  rw [h]
  generalize padOf n = k
  induction k with
  | zero => rfl
  | succ k ih => rw [List.replicate_succ, List.flatten_cons, ih]; rfl
theorem figs_in {ms : List Int} {M : Int} (hl : ms.length = 64) (h : ∀ n ∈ ms, 0 ≤ n ∧ n < 256) : ∀ k, ∀ n ∈ figs ms M k, 0 ≤ n ∧ n < 256
  | 0, _, hn => (nomatch hn)
  | k + 1, n, hn => by
    rcases List.mem_cons.mp hn with rfl | hn
    · have h1 := Int.emod_lt_of_pos (M / 64 ^ k) (show (0 : Int) < 64 by decide)
      have h2 := Int.emod_nonneg (M / 64 ^ k) (show (64 : Int) ≠ 0 by decide)
      have h3 : (M / 64 ^ k % 64).toNat < ms.length := by omega
      rw [List.getD_eq_getElem?_getD, List.getElem?_eq_getElem h3]
      exact h _ (List.getElem_mem h3)
    · exact figs_in hl h k n hn
theorem written_in {ms : List Int} {M : Int} (hl : ms.length = 64) (h : ∀ n ∈ ms, 0 ≤ n ∧ n < 256) (k j : Nat) : KBa.In (figs ms M k ++ List.replicate j 61) := fun n hn => by
  rcases List.mem_append.mp hn with hn | hn
  · exact figs_in hl h k n hn
  · rw [List.eq_of_mem_replicate hn]; decide
theorem exp_le (n : Nat) : places n * 6 - n * 8 ≤ 5 := by unfold places; omega

set_option maxHeartbeats 8000000 in
theorem written_call {w : World} {mg mb : PySem.Str → Option Value} {mean : ExcName → Option Value} {loose : List PySem.Str} {dp un : Nat} {gd : Option (List Code)} {outer : List Env} {base : Heap} {s : Shared} {lp ls : Addr} {vs us : List Value} {ns ms : List Int}
    {R : Result → Shared → Prop}
    (B : Below (AA dp un gd outer) base outer s.heap) (KX : (Mine.Head.hd.heap_39 w.params).In s.heap) (T : Top Mine.Head.hd.view_39 loose mean mg mb s.heap)
    (hlp : s.heap.IsList lp vs.toArray) (hip : IntsAre vs ns) (hnp : ns.length ≤ 66) (hrp : ∀ n ∈ ns, 0 ≤ n ∧ n < 256)
    (hls : s.heap.IsList ls us.toArray) (his : IntsAre us ms) (hns : ms.length = 64) (hrs : ∀ n ∈ ms, 0 ≤ n ∧ n < 256) (hd : dp + 3 < recursionLimit) (hu : un + 8 < cLine)
    (ret : ∀ h' tk' t, (∀ b o, s.heap.get? b = some o → h'.get? b = some o) → R (.ok (.ret (.bytes (writtenB ns ms) t))) { s with heap := h', toks := tk' }) :
    codeAny (model Challenge.rw_io0040_01.row.prog w) (AA dp un gd outer) (.call (.ref 58) ⟨[.ref lp, .ref ls], []⟩) R s := by
  w_top off
  k_with_none
  revert KX
  k_fill
  intro KX
  have hpl := pl_fdiv ns.length
  have hpb := pl_le hnp
  refine' enterP (binds := [(Str.ofString "octets", .ref lp), (Str.ofString "signs", .ref ls)]) B KX T.nolimit ?k6 ?k7 ?k8 ?k9 ?kB ?_ ?c2 ?c3 ?c4 ?c5
  (case k6 => k_is); (case k7 => k_is); (case k8 => show dp < recursionLimit; omega); (case k9 => exact BindsTo.of_eq rfl); (case kB => exact locs rfl); (case c2 => exact rfl); (case c3 => exact rfl); (case c4 => exact rfl); (case c5 => decide)
  intro L' h' F' N'
  try dsimp only
  try k_fold
  k_steps
  dsimp only
  erw [fold_pair]
  rw [pl_fdiv, exp_pl]
  refine mul_int ?_ (IntMulOk.of_right (bits_pow (exp_le ns.length)))
  have hM0 : 0 ≤ List.foldl (fun a n => a * 256 + n) 0 ns * 2 ^ (places ns.length * 6 - ns.length * 8) := writtenM_nonneg hrp
  have hMe : writtenM ns = List.foldl (fun a n => a * 256 + n) 0 ns * 2 ^ (places ns.length * 6 - ns.length * 8) := rfl
  generalize List.foldl (fun a n => a * 256 + n) 0 ns * 2 ^ (places ns.length * 6 - ns.length * 8) = M at hM0 hMe ⊢
  dsimp only
  try k_fold
  (k_with "pyIter ref" => k_state (fun pre number row => number = M / 64 ^ pre.length ∧ row = figs ms M pre.length) "number" "row")
  (k_with "state" => first | exact st0 _ _ | exact st1 (by assumption))
  k_steps
  · rename Fr _ _ _ _ => F9
    rename News _ _ _ _ => N9
    rename _ = figs _ _ _ => R9
    have hz9 := kFacts.length
    rw [R9, figs_length] at hz9
    refine insert0 F9 N9 (List.Mem.tail _ (List.Mem.head _)) (own := kOwn) (fun p hp => List.Mem.tail _ (List.Mem.tail _ hp)) (fun p hp => kOff p hp _ (List.mem_singleton.2 rfl)) (by rw [sizeLine_eq]; omega) kFacts ?_
    intro h5 F5 N5 I5
    clear F9 N9
    rw [R9] at I5
    dsimp only
    k_steps
  · rename Fr _ _ _ _ => F9
    rename News _ _ _ _ => N9
    rename IntsAre (List.flatten _) _ => i9
    rename _ = figs _ _ _ => R9
    rw [hpl] at i9
    rw [hpl] at R9
    rw [rangeKs_length, Int.sub_zero, Int.toNat_natCast] at R9
    subst R9
    refine kmk_add_ints F9 N9 (N9.isList (List.Mem.tail _ (List.Mem.tail _ (List.Mem.head _)))) (N9.isList (List.Mem.head _)) kFacts i9 ?_ ?_
    · intro D7 us7 h7 F7 N7 _ I7
      dsimp only
      rw [pad_eq] at I7
      have hIn := written_in (M := M) hns hrs (places ns.length) (padOf ns.length)
      k_steps
      refine KBa.make_K F7 N7 rfl (N7.isList (List.Mem.head _)) I7 hIn ?_ ?_
      · rw [List.length_append, List.length_replicate, figs_length]
        have := padOf_le ns.length
        omega
      · intro h8 t8 k8 F8 N8 _
        show R _ _
        dsimp only
        rw [← hMe]
        exact ret h8 k8 t8 F8.keep
    · rw [pad_eq, List.length_replicate, figs_length, sizeLine_eq]
      have := padOf_le ns.length
      omega
end Mine
end
section
open PySem PySem.W PySem.Calls PyProof.Rows
namespace Mine
open Builtin

/-! bytes.translate, bytes.maketrans -/
theorem slot_tr : Slot "bytes" "translate" "bytes.translate" :=
  .of (owner := "bytes") (n := "translate") (by rw [typeLookup_type, builtinLookup_eq_fast]; kernel_rfl) (by decide +kernel) (by decide +kernel) (by decide +kernel)
    (by first | exact .inl (by decide +kernel) | exact .inr (by decide +kernel)) (by rw [isSubtype_type]; kernel_rfl)
theorem type_tr : typeOf (.builtin "bytes.translate") = pure (.type "method_descriptor") := by show builtinType _ = _; rw [builtinType_eq_fast]; kernel_rfl
theorem entry_tr : entryFor table "bytes.translate" = some Builtin.«bytes.translate» := entryFor_of_tree (by kernel_rfl)
theorem args_tr (a b : Value) : argsOk "bytes.translate" ⟨[a, b], []⟩ := by unfold argsOk; kernel_rfl
theorem entry_mk : entryFor table "bytes.maketrans" = some Builtin.«bytes.maketrans» := entryFor_of_tree (by kernel_rfl)
theorem plain_mk : plainId "bytes.maketrans" = true := by decide +kernel
theorem check_mk (a b : Value) : checkBuiltinCall "bytes.maketrans" ⟨[a, b], []⟩ = pure () := by kernel_rfl

def trans (e tab : Array UInt8) : Array UInt8 := e.map fun c => tab.getD c.toNat c
def mkTab (frm to : Array UInt8) : Array UInt8 := (frm.toList.zip to.toList).foldl (fun t (p : UInt8 × UInt8) => t.setIfInBounds p.1.toNat p.2) ((Array.range 256).map (·.toUInt8))
section
variable {prog : Program} {w : World} {A : Around} {E : Value → Shared → Prop} {s : Shared} {e tab : Array UInt8} {t u : Tok} {Q : Value → Shared → Prop}
theorem meets_tr (ht : tab.size = 256) (he : e.size ≤ sizeLine) : Meets («bytes.translate» ⟨[.bytes e t, .bytes tab u], []⟩) (fun _ R s => ∀ t' k, R (.ok (.ret (.bytes (trans e tab) t'))) { s with toks := k }) := by
  refine .of_wp fun prog w A R s h => ?_
  unfold «bytes.translate» Bytes.translateM
  simp only [KBd.like_eq, List.length_cons, List.length_nil]
  refine wpAny_ite (KBy.ite_no (by decide) ?_)
  refine wpAny_ite (KBy.ite_no (by simp) ?_)
  refine wpAny_ite (KBy.ite_no (show ¬ ((Value.bytes tab u == Value.none) = true) from Bool.false_ne_true) ?_)
  refine wpAny_bind (wpAny_pure ?_)
  refine wpAny_ite (KBy.ite_no (by simp [ht]) ?_)
  refine wpAny_bind (wpAny_pure ?_)
  show wpAny _ _ (pure #[] >>= fun delete => _) _ _ _
  refine wpAny_bind (wpAny_pure ?_)
  refine wpAny_bind (wpAny_of_eq (a := e) rfl ?_)
  have h0 : Array.filter (fun x => !(#[] : Array UInt8).contains x) e = e := by simp
  rw [h0]
  have h1 : Array.map (fun c => match some tab with | some t => t.getD c.toNat c | none => c) e = trans e tab := rfl
  rw [h1]
  have hz : (trans e tab).size ≤ sizeLine := by simp [trans]; exact he
  by_cases hq : (trans e tab == e) = true
  · have hq' : trans e tab = e := eq_of_beq hq
    rw [if_pos hq]
    refine wpAny_bind (wpAny_rule ?_)
    refine wpAny_bind (m := Bytes.Kind.same .bytes (.bytes e t)) ?_
    show wpAny _ _ (typeOf (.bytes e t) >>= fun x => _) _ _ _
    refine wpAny_bind (wpAny_typeOf (typeIs_bytes s e t) ?_)
    refine wpAny_pure (wpAny_pure ⟨_, rfl, ?_⟩)
    have z := h t s.toks
    rw [hq'] at z
    exact z
  · rw [if_neg hq]
    refine wpAny_bind (m := mkBytes (trans e tab)) (wpAny_mkBytes (wpAny_pure ⟨_, rfl, h _ _⟩) hz)
theorem call_tr (ht : tab.size = 256) (he : e.size ≤ sizeLine) (h : ∀ t' k, Q (.bytes (trans e tab) t') { s with toks := k }) : wpAny (model prog w) A (call (.builtin "bytes.translate") [.bytes e t, .bytes tab u]) Q E s :=
  call_meets slot_tr (typeIs_bytes _ _ _) entry_tr (args_tr _ _) (meets_tr ht he) h
theorem getm_tr {M : Model} {pl : Sem Bool} {Q : Value × List Value → Shared → Prop} (h : Q (.builtin "bytes.translate", [.bytes e t]) s) : wpAny M A (getMethod (.bytes e t) "translate" pl) Q E s := by
  with_reducible exact KBd.method_of (.bytes e t) (typeIs_bytes _ _ _) slot_tr type_tr KBd.noRef h

theorem foldl_size : ∀ (l : List (UInt8 × UInt8)) (t : Array UInt8), (l.foldl (fun t (p : UInt8 × UInt8) => t.setIfInBounds p.1.toNat p.2) t).size = t.size
  | [], _ => rfl
  | p :: r, t => by rw [List.foldl_cons, foldl_size r, Array.size_setIfInBounds]
theorem mkTab_size (f g : Array UInt8) : (mkTab f g).size = 256 := by
  unfold mkTab
  rw [foldl_size]
  simp
theorem run_mk {R : Result → Shared → Prop} (hs : e.size = tab.size) (h : ∀ t' k, R (.ok (.ret (.bytes (mkTab e tab) t'))) { s with toks := k }) :
    wpAny (model prog w) A.in1 («bytes.maketrans» ⟨[.bytes e t, .bytes tab u], []⟩) (fun fin s' => match fin with | .done f => R (.ok f) s' | .again c' => c'.quiet = true ∧ codeAny (model prog w) A c' R s') (fun e s' => R (.error e) s') s := by
  unfold «bytes.maketrans» Bytes.maketransM
  simp only [List.headD_cons, List.getD_cons_succ, List.getD_cons_zero, KBd.like_eq, List.length_cons, List.length_nil]
  refine wpAny_bind (wpAny_of_eq (a := ()) rfl ?_)
  refine wpAny_bind (wpAny_of_eq (a := ()) rfl ?_)
  refine wpAny_bind (wpAny_pure ?_)
  refine wpAny_bind (wpAny_pure ?_)
  refine wpAny_ite (KBy.ite_no (by simp [hs]) ?_)
  refine wpAny_bind (m := mkBytes (mkTab e tab)) (wpAny_mkBytes (wpAny_pure (h _ _)) ?_)
  rw [mkTab_size, sizeLine_eq]
  decide
theorem call_mk (hs : e.size = tab.size) (h : ∀ t' k, Q (.bytes (mkTab e tab) t') { s with toks := k }) : wpAny (model prog w) A (call (.builtin "bytes.maketrans") [.bytes e t, .bytes tab u]) Q E s :=
  wpAny_call (codeAny_call_builtin plain_mk entry_mk (wpAny_of_eq (check_mk _ _) (run_mk (R := wants Q E) hs h)))
end

/-! bytes(a bytearray) -/
abbrev baObj (b : Array UInt8) : Obj := { cls := .type "bytearray", data := .bytearray b }
theorem ba_bytes : typeLookup (.type "bytearray") "__bytes__" = pure none := by rw [typeLookup_type, builtinLookup_eq_fast]; kernel_rfl
theorem ba_index : typeLookup (.type "bytearray") "__index__" = pure none := by rw [typeLookup_type, builtinLookup_eq_fast]; kernel_rfl
theorem ba_buffer : typeLookup (.type "bytearray") "__buffer__" = pure (some (.builtin "bytearray.__buffer__")) := by rw [typeLookup_type, builtinLookup_eq_fast]; kernel_rfl
theorem ba_release : typeLookup (.type "bytearray") "__release_buffer__" = pure (some (.builtin "bytearray.__release_buffer__")) := by rw [typeLookup_type, builtinLookup_eq_fast]; kernel_rfl
theorem ba_sub : isSubtype (.type "bytearray") (.type "bytearray") = pure true := by rw [isSubtype_type]; kernel_rfl
section
variable {prog : Program} {w : World} {A : Around} {E : Value → Shared → Prop} {s : Shared} {a : Addr} {b : Array UInt8} {Q : Value → Shared → Prop}
theorem ba_type (h : s.heap.get? a = some (baObj b)) : s.TypeIs (.ref a) "bytearray" := ⟨_, h, rfl⟩
theorem ba_own {M : Model} {nm : String} {id : String} {Q : Bool → Shared → Prop} (h : s.heap.get? a = some (baObj b)) (hl : typeLookup (.type "bytearray") (nm : PySem.Str) = pure (some (.builtin id))) (he : id.endsWith ("." ++ nm) = true) (hd : id.dropRight (nm.length + 1) = "bytearray") (hQ : Q true s) :
    wpAny M A (Bytes.slotIsOwn (.ref a) nm) Q E s := by
  unfold Bytes.slotIsOwn
  refine wpAny_bind (wpAny_specialOf (ba_type h) hl ?_)
  dsimp only
  refine wpAny_ite (KBy.ite_no (by simp [he]) ?_)
  rw [hd]
  exact wpAny_isInstance (ba_type h) ba_sub hQ
theorem ba_payload {M : Model} {Q : Array UInt8 → Shared → Prop} (h : s.heap.get? a = some (baObj b)) (hQ : Q b s) : wpAny M A (Bytes.payload (.ref a)) Q E s := by
  unfold Bytes.payload Bytes.payload?
  exact wpAny_bind (wpAny_bind (wpAny_load h (wpAny_pure (wpAny_pure hQ))))
theorem ba_buf {M : Model} {id : String} {full : Bool} {Q : Option (Array UInt8) → Shared → Prop} (h : s.heap.get? a = some (baObj b)) (hQ : Q (some b) s) : wpAny M A (Bytes.buffer? id (.ref a) full) Q E s := by
  unfold Bytes.buffer?
  refine wpAny_bind (wpAny_specialOf (ba_type h) ba_buffer ?_)
  refine wpAny_bind (ba_own h ba_buffer (by decide +kernel) (by decide +kernel) ?_)
  refine wpAny_ite (KBy.ite_no (by simp) ?_)
  refine wpAny_bind (wpAny_specialOf (ba_type h) ba_buffer ?_)
  dsimp only
  unfold Bytes.ownRelease
  refine wpAny_bind (wpAny_bind (ba_own h ba_release (by decide +kernel) (by decide +kernel) ?_))
  refine wpAny_pure ?_
  refine wpAny_ite (KBy.ite_no (by simp) ?_)
  exact wpAny_bind (ba_payload h (wpAny_pure hQ))
theorem ba_new (h : s.heap.get? a = some (baObj b)) (hz : b.size ≤ sizeLine) (hQ : ∀ t k, Q (.bytes b t) { s with toks := k }) :
    codeAny (model prog w) A (.call (.builtin "bytes.__new__") ⟨[.type "bytes", .ref a], []⟩) (wants Q E) s := by
  refine codeAny_of_tree ?_
  show wpAny _ A.in1 (do checkBuiltinCall "bytes.__new__" ⟨[.type "bytes", .ref a], []⟩; again (.builtin "bytes.__new__" ⟨[.type "bytes", .ref a], []⟩)) _ _ s
  refine wpAny_bind (wpAny_of_eq (F.bm_newCall _) (wpAny_pure ⟨plainId_quiet F.bm_plain _, codeAny_builtin F.bm_entry ?_⟩))
  rw [Around.under_plainId F.bm_plain _]
  unfold «bytes.__new__»
  refine wpAny_bind (wpAny_of_eq (a := true) rfl ?_)
  refine bm_if_false rfl ?_
  refine wpAny_bind (wpAny_of_eq F.bm_sub ?_)
  refine bm_if_false rfl ?_
  refine wpAny_bind (wpAny_of_eq (F.bm_bind _) ?_)
  refine wpAny_bind (wpAny_of_eq (a := ()) rfl ?_)
  refine wpAny_bind (wpAny_of_eq (a := ()) rfl ?_)
  refine bm_if_false rfl ?_
  refine wpAny_bind (wpAny_specialOf (ba_type h) ba_bytes ?_)
  refine wpAny_bind (wpAny_bind ?_)
  show wpAny _ _ (load a >>= _) _ _ _
  refine wpAny_bind (wpAny_load h ?_)
  refine wpAny_pure (wpAny_pure ?_)
  refine bm_if_false rfl ?_
  refine wpAny_bind (wpAny_specialOf (ba_type h) ba_index ?_)
  refine bm_if_true rfl ?_
  refine wpAny_bind (ba_buf h ?_)
  refine wpAny_bind (wpAny_rule (wpAny_bind (wpAny_mkBytes ?_ hz)))
  refine wpAny_of_eq (a := Fin.done (.ret (.bytes b s.toks))) rfl ?_
  exact hQ _ _
theorem call_bytes_ba (h : s.heap.get? a = some (baObj b)) (hz : b.size ≤ sizeLine) (hQ : ∀ t k, Q (.bytes b t) { s with toks := k }) : wpAny (model prog w) A (call (.type "bytes") [.ref a]) Q E s := by
  refine callType_codes (Q₁ := fun obj s₁ => s₁.TypeIs obj "bytes" ∧ Q obj s₁) F.bm_called (F.bm_typeCall _) F.entry_object_init
    (ba_new h hz fun t k => ⟨typeIs_bytes _ _ _, hQ t k⟩) fun obj s₁ h₁ => ?_
  exact ⟨h₁.1, F.args_object_init_2 obj _, object_init_meets F.bm_called.init.lookup F.bm_called.made (by decide) prog w A.in1 _ s₁ ⟨h₁.1, rfl, h₁.2⟩⟩
theorem call_type_ba (h : s.heap.get? a = some (baObj b)) (hQ : Q (.type "bytearray") s) : wpAny (model prog w) A (call (.type "type") [.ref a]) Q E s :=
  call_type_of (ba_type h) (by decide +kernel) hQ
end
end Mine
end
section
open PySem PySem.W PySem.Calls PyProof.Rows
namespace Mine
open Builtin

/-! bytearray(a list of ints), in clean contexts -/
theorem bn_mro : mroOf (.type "bytearray") = pure [.type "bytearray", .type "object"] := by rw [mroOf_type]; kernel_rfl
theorem bn_lookup : typeLookup (.type "bytearray") "__new__" = pure (some (.builtin "bytearray.__new__")) := by rw [typeLookup_type, builtinLookup_eq_fast]; kernel_rfl
theorem bn_create : ((Manifest.find? "bytearray").bind (fun x => x.mro.findSome? fun t => (Manifest.find? t).bind fun b => if b.noNew then some true else if b.attrs.any (·.1 == "__new__") then some false else none)).getD false = false := by decide +kernel
theorem bn_made : Bind.madeBy (.type "bytearray") = pure (some "bytearray.__new__") := madeBy_type bn_mro bn_lookup (by decide +kernel)
theorem bn_entry : entryFor table "bytearray.__new__" = some «list.__new__» := entryFor_alias (id' := "list.__new__") (by kernel_rfl) (by decide +kernel) (by decide +kernel) (by kernel_rfl)
theorem bn_plain : plainId "bytearray.__new__" = true := by decide +kernel
theorem bn_call (a : Value) : checkTypeCall "bytearray" ⟨[a], []⟩ = pure () := by kernel_rfl
theorem bn_check (a : Value) : checkBuiltinCall "bytearray.__new__" ⟨[.type "bytearray", a], []⟩ = pure () := by kernel_rfl
theorem bi_slot : Slot "bytearray" "__init__" "bytearray.__init__" :=
  .of (owner := "bytearray") (n := "__init__") (by rw [typeLookup_type, builtinLookup_eq_fast]; kernel_rfl) (by decide +kernel) (by decide +kernel) (by decide +kernel)
    (by first | exact .inl (by decide +kernel) | exact .inr (by decide +kernel)) (by rw [isSubtype_type]; kernel_rfl)
theorem bi_entry : entryFor table "bytearray.__init__" = some «bytearray.__init__» := entryFor_of_tree (by kernel_rfl)
theorem bi_args (a b : Value) : argsOk "bytearray.__init__" ⟨[a, b], []⟩ := by unfold argsOk; kernel_rfl
theorem bi_bind (v : Value) : Bytes.bindOptional "bytearray.__init__" "bytearray" ["source", "encoding", "errors"] [v] [] = pure [some v, none, none] := by kernel_rfl
theorem ls_index : typeLookup (.type "list") "__index__" = pure none := by rw [typeLookup_type, builtinLookup_eq_fast]; kernel_rfl
theorem ls_buffer : typeLookup (.type "list") "__buffer__" = pure none := by rw [typeLookup_type, builtinLookup_eq_fast]; kernel_rfl
set_option maxRecDepth 1000000 in
set_option maxHeartbeats 4000000 in
theorem bn_owner : ("bytearray.__new__".splitOn ".__new__").headD "" = "bytearray" := by simp +decide [String.splitOn, String.splitOnAux]

section
variable {prog : Program} {w : World} {A : Around} {E : Value → Shared → Prop} {s : Shared}
theorem wpG_no {α : Type} {M : Model} {c : Prop} [Decidable c] {x y : Sem α} {Q : α → Shared → Prop} (hc : ¬ c) (h : wpG M A y Q E s) : wpG M A (if c then x else y) Q E s := by rw [if_neg hc]; exact h
theorem wpG_yes {α : Type} {M : Model} {c : Prop} [Decidable c] {x y : Sem α} {Q : α → Shared → Prop} (hc : c) (h : wpG M A x Q E s) : wpG M A (if c then x else y) Q E s := by rw [if_pos hc]; exact h
theorem wpG_eq {α : Type} {M : Model} {x : Sem α} {a : α} {Q : α → Shared → Prop} (e : x = pure a) (h : Q a s) : wpG M A x Q E s := by rw [e]; exact wpG_pure h

theorem code_bn (a : Value) {Q₁ : Value → Shared → Prop} (h : Q₁ (.ref s.heap.objs.size) { s with heap := s.heap.push (baObj #[]) }) :
    codeAny (model prog w) A (.call (.builtin "bytearray.__new__") ⟨[.type "bytearray", a], []⟩) (wants Q₁ E) s := by
  refine codeAny_of_tree ?_
  show wpAny _ A.in1 (do checkBuiltinCall "bytearray.__new__" ⟨[.type "bytearray", a], []⟩; again (.builtin "bytearray.__new__" ⟨[.type "bytearray", a], []⟩)) _ _ s
  refine wpAny_bind (wpAny_of_eq (bn_check a) (wpAny_pure ⟨plainId_quiet bn_plain _, codeAny_builtin_stack bn_entry rfl fun p st => ?_⟩))
  rw [Around.under_plainId bn_plain _]
  have hsub := ba_sub
  have hown := bn_owner
  obtain ⟨hp, g, d, tk, os⟩ := s
  simp only [hown]
  wp_walk
  exact h

theorem ba_write {M : Model} {S : Addr} {b : Array UInt8} {f : Array UInt8 → Array UInt8} {Q : Unit → Shared → Prop} (h : s.heap.get? S = some (baObj b)) (hz : (f b).size ≤ sizeLine)
    (hQ : ∀ h', Heap.SameBut S s.heap h' → h'.get? S = some (baObj (f b)) → Q () { s with heap := h' }) : wpAny M A (Bytes.write (.ref S) f) Q E s := by
  show wpAny _ _ (updateBytearray S f) _ _ _
  unfold updateBytearray
  refine wpAny_bind (wpAny_load h ?_)
  show wpAny _ _ (update S (Obj.mapBytearray f) >>= fun _ => lookBehind S) _ _ _
  refine wpAny_bind (wpAny_update h ?_)
  have h2 : (s.heap.update S (Obj.mapBytearray f)).get? S = some (baObj (f b)) := Heap.get?_update_self (Obj.mapBytearray f) h rfl
  refine wpAny_lookBehind h2 ?_ (hQ _ (Heap.SameBut.update ..) h2)
  show (if (f b).size > sizeLine then some "bytearray:memory" else none) = none
  rw [if_neg (Nat.not_lt.mpr hz)]
theorem good1 {p : Value → Bool} (hp : ∀ i t, p (.int i t) = (decide (0 ≤ i) && decide (i < 256))) : ∀ {vs : List Value} {ns : List Int}, IntsAre vs ns → (∀ n ∈ ns, 0 ≤ n ∧ n < 256) → vs.takeWhile p = vs
  | _, _, .nil, _ => rfl
  | _, _, .cons n t r, h => by
    obtain ⟨a, b⟩ := h n (List.mem_cons_self ..)
    rw [List.takeWhile_cons_of_pos (by simp [hp, a, b]), good1 hp r fun k hk => h k (List.mem_cons_of_mem _ hk)]
theorem good2 {f : Value → Option UInt8} (hf : ∀ i t, f (.int i t) = some i.toNat.toUInt8) : ∀ {vs : List Value} {ns : List Int}, IntsAre vs ns → vs.filterMap f = ns.map fun n => n.toNat.toUInt8
  | _, _, .nil => rfl
  | _, _, .cons n t r => by simp only [List.filterMap_cons, hf, good2 hf r, List.map_cons]
/-- what bytearray.__init__ does to a fresh, empty one -/
theorem run_bi {l S : Addr} {vs : List Value} {ns : List Int} {Q : PySem.Fin → Shared → Prop} (hS : s.heap.get? S = some (baObj #[])) (hl : s.heap.IsList l vs.toArray) (hi : IntsAre vs ns) (hr : ∀ n ∈ ns, 0 ≤ n ∧ n < 256) (hz : ns.length ≤ sizeLine)
    (h : ∀ h', Heap.SameBut S s.heap h' → h'.get? S = some (baObj (byteArr ns)) → Q (.done (.ret .none)) { s with heap := h' }) :
    wpG (model prog w) A («bytearray.__init__» ⟨[.ref S, .ref l], []⟩) Q E s := by
  unfold «bytearray.__init__»
  unfold Bytes.ownRelease
  refine wpG_then (wpAny_bind (ba_own hS ba_release (by decide +kernel) (by decide +kernel) (wpAny_pure ?_)))
  refine wpG_no (by simp) ?_
  refine wpG_bind (wpG_eq (bi_bind _) ?_)
  refine wpG_bind (wpG_eq (a := ()) rfl ?_)
  refine wpG_bind (wpG_eq (a := ()) rfl ?_)
  refine wpG_bind ?_
  show wpG _ _ (Bytes.exported (.ref S) >>= fun b => _) _ _ _
  refine wpG_bind (exported_G ?_)
  show wpG _ _ (Bytes.exportsOf (.ref S) >>= fun n => pure (decide (n > 0))) _ _ _
  refine wpG_bind ?_
  show wpG _ _ (load S >>= fun o => _) _ _ _
  refine wpG_then (wpAny_load hS ?_)
  refine wpG_pure (wpG_pure ?_)
  refine wpG_no (by decide) ?_
  refine wpG_then (ba_write hS (Nat.zero_le _) fun h1 hb1 hS1 => ?_)
  have hne : l ≠ S := fun e => by
    obtain ⟨o, ho, hc, n, hd⟩ := hl
    rw [e, hS] at ho
    have z := Option.some.inj ho
    subst z
    exact absurd hc (by decide)
  have hl1 : h1.IsList l vs.toArray := hl.extBut hb1.extBut hne
  have hT1 : ({ s with heap := h1 } : Shared).TypeIs (.ref l) "list" := Heap.IsList.typeIs (s := { s with heap := h1 }) hl1
  obtain ⟨ol, hol, hoc, nl, hod⟩ := id hl1
  refine wpG_bind ?_
  show wpG _ _ (load l >>= fun o => _) _ _ _
  refine wpG_then (wpAny_load hol ?_)
  rw [hod]
  refine wpG_pure ?_
  refine wpG_no (by simp) ?_
  refine wpG_bind (wpG_eq (a := ()) rfl ?_)
  refine wpG_then (wpAny_specialOf hT1 ls_index ?_)
  refine wpG_no (by simp) ?_
  refine wpG_bind ?_
  show wpG _ _ (Bytes.buffer? "bytearray.__init__" (.ref l) true) _ _ _
  unfold Bytes.buffer?
  refine wpG_then (wpAny_specialOf hT1 ls_buffer ?_)
  refine wpG_then (wpAny_specialOf hT1 ls_buffer ?_)
  refine wpG_pure ?_
  dsimp only
  refine wpG_then (wpAny_typeOf hT1 ?_)
  refine wpG_yes (by decide) ?_
  refine wpG_then (wpAny_seqItems hol hod ?_)
  dsimp only
  rw [good1 (fun _ _ => rfl) hi hr, good2 (fun _ _ => rfl) hi]
  rw [show vs.toArray[vs.length]? = none from by simp]
  refine wpG_then (wpAny_rule ?_)
  refine wpG_then (ba_write hS1 (by show (byteArr ns).size ≤ sizeLine; rw [byteArr_size]; exact hz) fun h2 hb2 hS2 => ?_)
  exact wpG_pure (h h2 (hb1.trans hb2) hS2)
theorem call_ba_G {l : Addr} {vs : List Value} {ns : List Int} {Q : Value → Shared → Prop} (hl : s.heap.IsList l vs.toArray) (hi : IntsAre vs ns) (hr : ∀ n ∈ ns, 0 ≤ n ∧ n < 256) (hz : ns.length ≤ sizeLine)
    (hQ : ∀ h', (∀ b o, s.heap.get? b = some o → h'.get? b = some o) → h'.get? s.heap.objs.size = some (baObj (byteArr ns)) → Q (.ref s.heap.objs.size) { s with heap := h' }) :
    wpG (model prog w) A (call (.type "bytearray") [.ref l]) Q E s := by
  refine wpG_call (codeG_of_tree rfl ?_)
  show wpG _ _ (callAny (.type "bytearray") _) _ _ _
  refine wpG_pure ⟨Code.quiet_builtin _ (by decide +kernel), codeG_builtin (by decide +kernel) F.entry_type_call ?_⟩
  rw [Around.under_plain (weight_type_call_type "bytearray" [.ref l] []) rfl]
  unfold «type.__call__»
  refine wpG_no (by decide) ?_
  dsimp only
  refine wpG_no (by rw [bn_create]; simp) ?_
  refine wpG_bind (wpG_eq (bn_call _) ?_)
  refine wpG_bind (wpG_eq bn_mro ?_)
  refine wpG_no (by simp) ?_
  refine wpG_bind (wpG_eq bn_made ?_)
  refine wpG_bind (wpG_pure ?_)
  have hfr : s.heap.get? s.heap.objs.size = none := by
    cases h : s.heap.get? s.heap.objs.size with
    | none => rfl
    | some o => exact absurd (Heap.lt_size h) (Nat.lt_irrefl _)
  have kp : ∀ b o, s.heap.get? b = some o → (s.heap.push (baObj #[])).get? b = some o := fun b o e => Heap.get?_push_of_some _ e
  refine wpG_then (wpAny_holding (wpAny_call (code_bn (.ref l) ?_)))
  have hS : (s.heap.push (baObj #[])).get? s.heap.objs.size = some (baObj #[]) := Heap.get?_push_size _ rfl
  refine wpG_then (wpAny_isInstance (ba_type (s := { s with heap := s.heap.push (baObj #[]) }) hS) ba_sub ?_)
  refine wpG_no (by simp) ?_
  refine wpG_bind (wpG_holding ?_)
  simp only [callSpecial?]
  refine wpG_then (wpAny_specialOf (ba_type (s := { s with heap := s.heap.push (baObj #[]) }) hS) bi_slot.lookup ?_)
  dsimp only
  rw [bi_slot.bind]
  refine wpG_holding (wpG_bind (wpG_pure (wpG_bind ?_)))
  refine wpG_call (codeG_of_tree rfl ?_)
  show wpG _ _ (do checkBuiltinCall "bytearray.__init__" ⟨[.ref s.heap.objs.size, .ref l], []⟩; again (.builtin "bytearray.__init__" ⟨[.ref s.heap.objs.size, .ref l], []⟩)) _ _ _
  refine wpG_then (bi_slot.check _ _ _ _ _ _ _ _ (ba_type (s := { s with heap := s.heap.push (baObj #[]) }) hS) (bi_args _ _) ?_)
  refine wpG_pure ⟨plainId_quiet bi_slot.plain _, codeG_builtin (by decide +kernel) bi_entry ?_⟩
  refine run_bi hS (hl.push _) hi hr hz fun h' hb hS' => ?_
  refine wpG_pure (wpG_pure ?_)
  exact hQ h' (fun b o e => (hb.2 b fun q => by rw [q, hfr] at e; cases e).trans (kp b o e)) hS'
end
end Mine
end
section
open PySem PySem.W PySem.Calls PyProof.Rows
namespace Mine

def IsBuf (h : Heap) (v : Value) (b : Array UInt8) : Prop := (∃ t, v = .bytes b t) ∨ ∃ a, v = .ref a ∧ h.get? a = some (baObj b)
theorem IsBuf.keeps {h h' : Heap} {v : Value} {b : Array UInt8} (x : IsBuf h v b) (hk : ∀ b o, h.get? b = some o → h'.get? b = some o) : IsBuf h' v b :=
  x.imp id fun ⟨a, e, g⟩ => ⟨a, e, hk _ _ g⟩

set_option maxHeartbeats 8000000 in
theorem buffer_call {w : World} {mg mb : PySem.Str → Option Value} {mean : ExcName → Option Value} {loose : List PySem.Str} {dp un : Nat} {gd : Option (List Code)} {outer : List Env} {base : Heap} {s : Shared} {v : Value} {b : Array UInt8}
    {R : Result → Shared → Prop}
    (B : Below (AA dp un gd outer) base outer s.heap) (KX : (Mine.Head.hd.heap_39 w.params).In s.heap) (T : Top Mine.Head.hd.view_39 loose mean mg mb s.heap)
    (hv : IsBuf s.heap v b) (hz : b.size ≤ sizeLine) (hd : dp + 3 < recursionLimit) (hu : un + 8 < cLine)
    (ret : ∀ h' tk' t, (∀ b o, s.heap.get? b = some o → h'.get? b = some o) → R (.ok (.ret (.bytes b t))) { s with heap := h', toks := tk' }) :
    codeAny (model Challenge.rw_io0040_01.row.prog w) (AA dp un gd outer) (.call (.ref 28) ⟨[v], []⟩) R s := by
  w_top off
  k_with_none
  revert KX
  k_fill
  intro KX
  refine' enterP (binds := [(Str.ofString "data", v)]) B KX T.nolimit ?k6 ?k7 ?k8 ?k9 ?kB ?_ ?c2 ?c3 ?c4 ?c5
  (case k6 => k_is); (case k7 => k_is); (case k8 => show dp < recursionLimit; omega); (case k9 => exact BindsTo.of_eq rfl); (case kB => exact locs rfl); (case c2 => exact rfl); (case c3 => exact rfl); (case c4 => exact rfl); (case c5 => decide)
  intro L' h' F' N'
  try dsimp only
  rcases hv with ⟨t, rfl⟩ | ⟨a, rfl, ha⟩
  · try k_fold
    k_steps
    refine call_type_of (typeIs_bytes _ _ _) (by decide +kernel) ?_
    try dsimp only
    k_steps
    rename Fr _ _ _ _ => F9
    exact ret _ _ t F9.keep
  · try k_fold
    k_steps
    have ha' := F'.keep _ _ ha
    refine call_type_ba ha' ?_
    try dsimp only
    k_steps
    rename Fr _ _ _ _ => F9
    refine call_bytes_ba (F9.keep _ _ ha) hz fun t k => ?_
    exact ret _ _ t F9.keep

/-- _truth(False) -/
theorem truth_call {w : World} {mg mb : PySem.Str → Option Value} {mean : ExcName → Option Value} {loose : List PySem.Str} {dp un : Nat} {gd : Option (List Code)} {outer : List Env} {base : Heap} {s : Shared}
    {R : Result → Shared → Prop}
    (B : Below (AA dp un gd outer) base outer s.heap) (KX : (Mine.Head.hd.heap_39 w.params).In s.heap) (T : Top Mine.Head.hd.view_39 loose mean mg mb s.heap)
    (hd : dp + 3 < recursionLimit) (hu : un + 8 < cLine)
    (ret : ∀ h' tk', (∀ b o, s.heap.get? b = some o → h'.get? b = some o) → R (.ok (.ret (.bool false))) { s with heap := h', toks := tk' }) :
    codeAny (model Challenge.rw_io0040_01.row.prog w) (AA dp un gd outer) (.call (.ref 35) ⟨[.bool false], []⟩) R s := by
  w_top off
  k_with_none
  revert KX
  k_fill
  intro KX
  refine' enterP (binds := [(Str.ofString "x", .bool false)]) B KX T.nolimit ?k6 ?k7 ?k8 ?k9 ?kB ?_ ?c2 ?c3 ?c4 ?c5
  (case k6 => k_is); (case k7 => k_is); (case k8 => show dp < recursionLimit; omega); (case k9 => exact BindsTo.of_eq rfl); (case kB => exact locs rfl); (case c2 => exact rfl); (case c3 => exact rfl); (case c4 => exact rfl); (case c5 => decide)
  intro L' h' F' N'
  try dsimp only
  try k_fold
  k_steps
  rename Fr _ _ _ _ => F9
  exact ret _ _ F9.keep

section
variable {w : World} {mg mb : PySem.Str → Option Value} {mean : ExcName → Option Value} {loose : List PySem.Str} {dp un : Nat} {gd : Option (List Code)} {outer : List Env} {base h₀ : Heap} {s : Shared} {L a : Addr} {m : PySem.Str → Option Value} {news : List (Addr × Obj)}
  {cn : PySem.Str} {cs : Scope} {ccd : Value} {Q E : Value → Shared → Prop} {v : Value} {b : Array UInt8}
theorem use_buffer (B : Below (AA dp un gd outer) base outer h₀) (F : Fr h₀ L s.heap m) (N : News h₀ L s.heap news) (KX : (Mine.Head.hd.heap_39 w.params).In h₀) (T : Top Mine.Head.hd.view_39 loose mean mg mb h₀)
    (hv : IsBuf s.heap v b) (hz : b.size ≤ sizeLine) (hd : dp + 4 < recursionLimit) (hu : un + 11 < cLine) (hk : cs.kind = .function)
    (h : ∀ h' tk' t, Fr h₀ L h' m → News h₀ L h' news → Q (.bytes b t) { s with heap := h', toks := tk' }) :
    wpAny (model Challenge.rw_io0040_01.row.prog w) ((AA dp un gd outer).deeper (envOf cn cs L a ccd)) (call (.ref 28) [v]) Q E s :=
  wpAny_call (buffer_call (dp := dp + 1) (un := un + 3) (gd := gd) (outer := envOf cn cs L a ccd :: outer) (B.push F hk) (KX.keeps F.keep) (T.keeps F.keep) hv hz (by omega) (by omega) fun h' tk' t hk' => h h' tk' t (F.keptAll hk') (N.grown hk'))
theorem use_truth (B : Below (AA dp un gd outer) base outer h₀) (F : Fr h₀ L s.heap m) (N : News h₀ L s.heap news) (KX : (Mine.Head.hd.heap_39 w.params).In h₀) (T : Top Mine.Head.hd.view_39 loose mean mg mb h₀)
    (hd : dp + 4 < recursionLimit) (hu : un + 11 < cLine) (hk : cs.kind = .function)
    (h : ∀ h' tk', Fr h₀ L h' m → News h₀ L h' news → Q (.bool false) { s with heap := h', toks := tk' }) :
    wpAny (model Challenge.rw_io0040_01.row.prog w) ((AA dp un gd outer).deeper (envOf cn cs L a ccd)) (call (.ref 35) [.bool false]) Q E s :=
  wpAny_call (truth_call (dp := dp + 1) (un := un + 3) (gd := gd) (outer := envOf cn cs L a ccd :: outer) (B.push F hk) (KX.keeps F.keep) (T.keeps F.keep) (by omega) (by omega) fun h' tk' hk' => h h' tk' (F.keptAll hk') (N.grown hk'))
end
end Mine
end
section
open PySem PySem.W PySem.Calls PyProof.Rows
namespace Mine
def alpha : List Int := [65, 66, 67, 68, 69, 70, 71, 72, 73, 74, 75, 76, 77, 78, 79, 80, 81, 82, 83, 84, 85, 86, 87, 88, 89, 90, 97, 98, 99, 100, 101, 102, 103, 104, 105, 106, 107, 108, 109, 110, 111, 112, 113, 114, 115, 116, 117, 118, 119, 120, 121, 122, 48, 49, 50, 51, 52, 53, 54, 55, 56, 57, 43, 47]
def sx (c : Int) : Int := alpha.getD (c % 64).toNat 0
def stepL (st : List Int × Int × Int) (n : Int) : List Int × Int × Int :=
  let c := (st.2.2 * 256 + n) % 65536
  if st.2.1 = 0 then (st.1 ++ [sx (c / 4)], 2, c) else if st.2.1 = 2 then (st.1 ++ [sx (c / 16)], 4, c) else (st.1 ++ [sx (c / 64), sx c], 0, c)
def B2 (pre out : List Int) (lb lc : Int) : Prop := (lb = 0 ∨ lb = 2 ∨ lb = 4) ∧ 0 ≤ lc ∧ lc < 65536 ∧ pre.foldl stepL ([], 0, 0) = (out, lb, lc)
theorem b2_start : B2 [] [] 0 0 := ⟨.inl rfl, by decide, by decide, rfl⟩
def b2aL (b : List Int) : List Int :=
  let st := b.foldl stepL ([], 0, 0)
  if st.2.1 = 2 then st.1 ++ [sx (st.2.2 * 16), 61, 61] else if st.2.1 = 4 then st.1 ++ [sx (st.2.2 * 4), 61] else st.1
def b2aB (b : Array UInt8) : Array UInt8 := byteArr (b2aL (KBw.bInts b))
theorem or_nat (p q : Nat) : Builtin.bitOr (p : Int) (q : Int) = ((p ||| q : Nat) : Int) := by
  unfold Builtin.bitOr Builtin.bitAnd
  have hp : decide (0 ≤ Builtin.bitNot (p : Int)) = false := decide_eq_false (by rw [kbt_not]; omega)
  have hq : decide (0 ≤ Builtin.bitNot (q : Int)) = false := decide_eq_false (by rw [kbt_not]; omega)
  rw [hp, hq]
  dsimp only
  have n2 : ∀ k : Nat, Builtin.bitNot (Builtin.bitNot (k : Int)) = k := fun k => by rw [kbt_not, kbt_not]; omega
  rw [n2, n2, n2]
  rfl
theorem or8 {a n : Int} (ha : 0 ≤ a) (h0 : 0 ≤ n) (h1 : n < 256) : Builtin.bitOr (a * 2 ^ Int.toNat 8) n = a * 256 + n := by
  obtain ⟨p, rfl⟩ := Int.eq_ofNat_of_zero_le ha
  obtain ⟨q, rfl⟩ := Int.eq_ofNat_of_zero_le h0
  have hq : q < 2 ^ 8 := by omega
  have e : ((p : Int) * (2 : Int) ^ Int.toNat 8) = ((p <<< 8 : Nat) : Int) := by
    rw [Nat.shiftLeft_eq]; rfl
  rw [e, or_nat, ← Nat.shiftLeft_add_eq_or_of_lt hq, Nat.shiftLeft_eq]
  omega
theorem c_eq {a n : Int} (ha : 0 ≤ a) (h0 : 0 ≤ n) (h1 : n < 256) : Builtin.bitAnd (Builtin.bitOr (a * 2 ^ Int.toNat 8) n) 65535 = (a * 256 + n) % 65536 := by
  rw [or8 ha h0 h1, bitAnd_m16]
theorem b64_item {prog : Program} {w : World} {A : Around} {E : Value → Shared → Prop} {s : Shared} {value slice : PySem.Expr} {b : Array UInt8} {t ui : Tok} {e c : Int} {Q : Value → Shared → Prop} (hb : KBw.bInts b = alpha) (he : e = c % 64)
    (h : ∀ t' k, Q (.int (sx c) t') { s with toks := k })
    (hs : subscripted slice false (.bytes b t) (.int e ui) = operate [.bytes b t, .int e ui] (getItem (.bytes b t) (.int e ui)))
    (ht : ∀ r, letTemporaryGo value (.bytes b t) r = pure ()) : wpAny (model prog w) A (subscriptTail value slice (.bytes b t) (.int e ui)) Q E s := by
  subst he
  exact KBw.item_K hb (by decide) (Int.emod_nonneg _ (by decide)) (Int.emod_lt_of_pos _ (by decide)) (fun t' k _ _ => h t' k) hs ht
theorem stepL_len (st : List Int × Int × Int) (n : Int) : (stepL st n).1.length ≤ st.1.length + 2 := by
  unfold stepL
  dsimp only
  split
  · simp
  · split <;> simp
theorem foldL_len : ∀ (pre : List Int) (st : List Int × Int × Int), (pre.foldl stepL st).1.length ≤ st.1.length + 2 * pre.length
  | [], _ => by simp
  | n :: r, st => by
    have h1 := foldL_len r (stepL st n)
    have h2 := stepL_len st n
    rw [List.foldl_cons, List.length_cons]
    omega
theorem alpha_in : ∀ i : Fin 64, 0 ≤ alpha.getD i.val 0 ∧ alpha.getD i.val 0 < 256 := by decide +kernel
theorem sx_in (c : Int) : 0 ≤ sx c ∧ sx c < 256 := by
  have h1 := Int.emod_lt_of_pos c (show (0 : Int) < 64 by decide)
  have h2 := Int.emod_nonneg c (show (64 : Int) ≠ 0 by decide)
  exact alpha_in ⟨(c % 64).toNat, by omega⟩
theorem in_app {l : List Int} {x : Int} (h : KBa.In l) (hx : 0 ≤ x ∧ x < 256) : KBa.In (l ++ [x]) := fun n hn => by
  rcases List.mem_append.mp hn with hn | hn
  · exact h n hn
  · rw [List.mem_singleton.mp hn]; exact hx
theorem stepL_in {st : List Int × Int × Int} {n : Int} (h : KBa.In st.1) : KBa.In (stepL st n).1 := by
  unfold stepL
  dsimp only
  split
  · exact in_app h (sx_in _)
  · split
    · exact in_app h (sx_in _)
    · have := in_app (in_app h (sx_in ((st.2.2 * 256 + n) % 65536 / 64))) (sx_in ((st.2.2 * 256 + n) % 65536))
      simpa using this
theorem foldL_in : ∀ (pre : List Int) {st : List Int × Int × Int}, KBa.In st.1 → KBa.In (pre.foldl stepL st).1
  | [], _, h => h
  | n :: r, _, h => foldL_in r (stepL_in h)
theorem b2_in {pre row : List Int} {lb lc : Int} (_ : ∀ k ∈ pre, 0 ≤ k ∧ k < 256) (h : B2 pre row lb lc) : KBa.In row := by
  have := foldL_in pre (st := ([], 0, 0)) (fun _ h => nomatch h)
  rw [h.2.2.2] at this
  exact this
theorem b2aL_eq {ks row : List Int} {lb lc : Int} (h : ks.foldl stepL ([], 0, 0) = (row, lb, lc)) : b2aL ks = if lb = 2 then row ++ [sx (lc * 16)] ++ [61] ++ [61] else if lb = 4 then row ++ [sx (lc * 4)] ++ [61] else row := by
  unfold b2aL
  rw [h]
  simp only [List.append_assoc, List.cons_append, List.nil_append]
theorem and_small {x m : Int} (h0 : 0 ≤ m) (h1 : m < 2 ^ 60) : (Builtin.bitAnd x m).natAbs < 2 ^ 64 := by
  have := bitAnd_range x h0
  omega
theorem ints_snoc {x : Int} {t : Tok} : ∀ {us : List Value} {row : List Int}, IntsAre us row → IntsAre (us ++ [.int x t]) (row ++ [x])
  | _, _, .nil => .cons x t .nil
  | _, _, .cons n u r => .cons n u (ints_snoc r)
theorem ints_arr {us : List Value} {row : List Int} (h : IntsAre us row) : IntsAre us.toArray.toList row := h
theorem ints_push {x : Int} {t : Tok} {its : Array Value} {row : List Int} (h : IntsAre its.toList row) : IntsAre (its.push (.int x t)).toList (row ++ [x]) := by
  rw [Array.toList_push]
  exact ints_snoc h
theorem make_A {prog : Program} {w : World} {A : Around} {E : Value → Shared → Prop} {s : Shared} {h₀ : Heap} {L D : Addr} {m : PySem.Str → Option Value} {news : List (Addr × Obj)} {its : Array Value} {n : Nat} {ns : List Int} {Q : Value → Shared → Prop}
    (F : Fr h₀ L s.heap m) (N : News h₀ L s.heap news) (hh : A.handled = none) (hm : (D, listOf its n) ∈ news) (hi : IntsAre its.toList ns) (hr : KBa.In ns) (hn : ns.length ≤ 16777216)
    (h : ∀ h' t' k, Fr h₀ L h' m → News h₀ L h' news → Q (.bytes (byteArr ns) t') { s with heap := h', toks := k }) : wpAny (model prog w) A (call (.type "bytes") [.ref D]) Q E s :=
  KBa.make_K F N hh (by have := N.isList hm; rw [Array.toArray_toList]; exact this) hi hr hn fun h' t' k F' N' _ => h h' t' k F' N'
theorem b2_len {pre row : List Int} {lb lc : Int} (h : B2 pre row lb lc) : row.length ≤ 2 * pre.length := by
  have h1 := foldL_len pre ([], 0, 0)
  rw [h.2.2.2] at h1
  simpa using h1
section
variable {a n : Int} (ha : 0 ≤ a) (h0 : 0 ≤ n) (h1 : n < 256)
include ha h0 h1
theorem idx4 : Builtin.bitAnd ((Builtin.bitAnd (Builtin.bitOr (a * 2 ^ Int.toNat 8) n) 65535).fdiv (2 ^ ((0 : Int) + 8 - 6).toNat)) 63 = ((a * 256 + n) % 65536 / 4) % 64 := by
  rw [c_eq ha h0 h1, bitAnd_m6, Int.fdiv_eq_ediv_of_nonneg _ (by decide)]; rfl
theorem idx16 : Builtin.bitAnd ((Builtin.bitAnd (Builtin.bitOr (a * 2 ^ Int.toNat 8) n) 65535).fdiv (2 ^ ((2 : Int) + 8 - 6).toNat)) 63 = ((a * 256 + n) % 65536 / 16) % 64 := by
  rw [c_eq ha h0 h1, bitAnd_m6, Int.fdiv_eq_ediv_of_nonneg _ (by decide)]; rfl
theorem idx64 : Builtin.bitAnd ((Builtin.bitAnd (Builtin.bitOr (a * 2 ^ Int.toNat 8) n) 65535).fdiv (2 ^ ((4 : Int) + 8 - 6).toNat)) 63 = ((a * 256 + n) % 65536 / 64) % 64 := by
  rw [c_eq ha h0 h1, bitAnd_m6, Int.fdiv_eq_ediv_of_nonneg _ (by decide)]; rfl
theorem idx1 : Builtin.bitAnd ((Builtin.bitAnd (Builtin.bitOr (a * 2 ^ Int.toNat 8) n) 65535).fdiv (2 ^ ((4 : Int) + 8 - 6 - 6).toNat)) 63 = ((a * 256 + n) % 65536) % 64 := by
  rw [c_eq ha h0 h1, bitAnd_m6, Int.fdiv_eq_ediv_of_nonneg _ (by decide)]
  rw [show ((2 : Int) ^ ((4 : Int) + 8 - 6 - 6).toNat) = 1 from rfl, Int.ediv_one]
omit h0 h1 in
theorem idx3 : Builtin.bitAnd a 3 * 2 ^ Int.toNat 4 = (a * 16) % 64 := by rw [bitAnd_m2, show (2 : Int) ^ Int.toNat 4 = 16 from rfl]; omega
omit h0 h1 in
theorem idx15 : Builtin.bitAnd a 15 * 2 ^ Int.toNat 2 = (a * 4) % 64 := by rw [bitAnd_m4, show (2 : Int) ^ Int.toNat 2 = 4 from rfl]; omega
theorem b2_s0 {pre row : List Int} (hf : pre.foldl stepL ([], 0, 0) = (row, 0, a)) : B2 (pre ++ [n]) (row ++ [sx ((a * 256 + n) % 65536 / 4)]) (0 + 8 - 6) (Builtin.bitAnd (Builtin.bitOr (a * 2 ^ Int.toNat 8) n) 65535) := by
  rw [c_eq ha h0 h1]
  refine ⟨.inr (.inl rfl), Int.emod_nonneg _ (by decide), Int.emod_lt_of_pos _ (by decide), ?_⟩
  rw [List.foldl_append, hf]
  rfl
theorem b2_s2 {pre row : List Int} (hf : pre.foldl stepL ([], 0, 0) = (row, 2, a)) : B2 (pre ++ [n]) (row ++ [sx ((a * 256 + n) % 65536 / 16)]) (2 + 8 - 6) (Builtin.bitAnd (Builtin.bitOr (a * 2 ^ Int.toNat 8) n) 65535) := by
  rw [c_eq ha h0 h1]
  refine ⟨.inr (.inr rfl), Int.emod_nonneg _ (by decide), Int.emod_lt_of_pos _ (by decide), ?_⟩
  rw [List.foldl_append, hf]
  rfl
theorem b2_s4 {pre row : List Int} (hf : pre.foldl stepL ([], 0, 0) = (row, 4, a)) : B2 (pre ++ [n]) (row ++ [sx ((a * 256 + n) % 65536 / 64)] ++ [sx ((a * 256 + n) % 65536)]) (4 + 8 - 6 - 6) (Builtin.bitAnd (Builtin.bitOr (a * 2 ^ Int.toNat 8) n) 65535) := by
  rw [c_eq ha h0 h1]
  refine ⟨.inl rfl, Int.emod_nonneg _ (by decide), Int.emod_lt_of_pos _ (by decide), ?_⟩
  rw [List.foldl_append, hf, List.append_assoc]
  rfl
end
local macro_rules | `(tactic| walk_at "binaryOp LShift int int") => `(tactic| ((with_reducible show wpAny _ _ (binaryOp Operator.LShift (Value.int (Builtin.bitAnd _ _) _) (Value.int _ _)) _ _ _); refine lshift_int_small (by decide) (by decide) (and_small (by decide) (by decide)) ?_))
local macro_rules | `(tactic| walk_at "subscriptTail") => `(tactic| ((with_reducible show wpAny _ _ (subscriptTail _ _ (Value.bytes _ _) (Value.int _ _)) _ _ _); refine b64_item (by decide +kernel) (by first | exact idx4 (by assumption) (by assumption) (by assumption) | exact idx16 (by assumption) (by assumption) (by assumption) | exact idx64 (by assumption) (by assumption) (by assumption) | exact idx1 (by assumption) (by assumption) (by assumption) | exact idx3 (by assumption) | exact idx15 (by assumption)) ?_ (by with_unfolding_all rfl) (by intro _; with_unfolding_all rfl); intro _ _))
local macro_rules | `(tactic| walk_at "call ref") => `(tactic| ((with_reducible show wpAny _ _ (call (Value.ref 28) _) _ _ _); refine use_buffer (by assumption) (by assumption) (by assumption) (by assumption) (by assumption) (by assumption) (by assumption) (by omega) (by omega) rfl ?_; intro h' tk' t' F' N'))
local macro_rules | `(tactic| walk_at "call ref") => `(tactic| ((with_reducible show wpAny _ _ (call (Value.ref 35) _) _ _ _); refine use_truth (by assumption) (by assumption) (by assumption) (by assumption) (by assumption) (by omega) (by omega) rfl ?_; intro h' tk' F' N'))

set_option maxHeartbeats 8000000 in
theorem b2a_call {w : World} {mg mb : PySem.Str → Option Value} {mean : ExcName → Option Value} {loose : List PySem.Str} {dp un : Nat} {gd : Option (List Code)} {outer : List Env} {base : Heap} {s : Shared} {v : Value} {b : Array UInt8}
    {R : Result → Shared → Prop}
    (B : Below (AA dp un gd outer) base outer s.heap) (KX : (Mine.Head.hd.heap_39 w.params).In s.heap) (T : Top Mine.Head.hd.view_39 loose mean mg mb s.heap)
    (hv : IsBuf s.heap v b) (hz : b.size ≤ 66) (hd : dp + 6 < recursionLimit) (hu : un + 20 < cLine)
    (ret : ∀ h' tk' t, (∀ b o, s.heap.get? b = some o → h'.get? b = some o) → R (.ok (.ret (.bytes (b2aB b) t))) { s with heap := h', toks := tk' }) :
    codeAny (model Challenge.rw_io0040_01.row.prog w) (AA dp un gd outer) (.call (.ref 43) ⟨[v], [(Str.ofString "newline", .bool false)]⟩) R s := by
  w_top off
  k_with_none
  revert KX
  k_fill
  intro KX
  have hz' : b.size ≤ sizeLine := by rw [sizeLine_eq]; omega
  refine' enterP (binds := [(Str.ofString "data", v), (Str.ofString "newline", .bool false)]) B KX T.nolimit ?k6 ?k7 ?k8 ?k9 ?kB ?_ ?c2 ?c3 ?c4 ?c5
  (case k6 => k_is); (case k7 => k_is); (case k8 => show dp < recursionLimit; omega); (case k9 => first | exact BindsTo.of_eq rfl | exact binds_K KX rfl (by k_is) rfl rfl rfl); (case kB => exact locs rfl); (case c2 => exact rfl); (case c3 => exact rfl); (case c4 => exact rfl); (case c5 => decide)
  intro L' h' F' N'
  try dsimp only
  have hv' : IsBuf h' v b := hv.keeps F'.keep
  try k_fold
  k_steps
  obtain ⟨ks, hks⟩ : ∃ ks, KBw.bInts b = ks := ⟨_, rfl⟩
  have hkl : ks.length ≤ 66 := by rw [← hks, KBw.ints_length]; exact hz
  (k_with "state" => first | exact b2_s0 (by assumption) (by assumption) (by assumption) (by assumption) | exact b2_s2 (by assumption) (by assumption) (by assumption) (by assumption) | exact b2_s4 (by assumption) (by assumption) (by assumption) (by assumption))
  rename Fr _ _ _ _ => F9
  rename News _ _ _ _ => N9
  refine' KStb.kst_bytes (σ := List Value × List Int × Nat × Int × Nat × Int × Nat) (fun c => [(_, listOf c.1.toArray c.2.2.1)]) (fun c => [(Str.ofString "leftbits", .int c.2.2.2.1 c.2.2.2.2.1), (Str.ofString "leftchar", .int c.2.2.2.2.2.1 c.2.2.2.2.2.2)]) (fun c => IntsAre c.1 c.2.1) [] (fun pre c => B2 pre c.2.1 c.2.2.2.1 c.2.2.2.2.2.1) ([], [], 0, 0, _, 0, _) hks rfl rfl F9 ?kn ?kf ?kk ?kp ?_ ?_
  case kn => exact N9
  case kf => exact .nil
  case kp => exact b2_start
  case kk => exact List.forall_mem_cons.mpr ⟨by with_unfolding_all rfl, List.forall_mem_cons.mpr ⟨by with_unfolding_all rfl, List.forall_mem_nil _⟩⟩
  · clear F9 N9
    rintro ⟨us, row, nn, lb, tl, lc, tc⟩ pre post n t u h tk own hks' hlen h0 h1 hoff hI hP F N
    dsimp only [kstB] at hoff hI hP F N ⊢
    have kMark := kstMark
    have hul : us.length ≤ 132 := by
      have := b2_len hP
      have := hI.length
      omega
    obtain ⟨hlb, hc0, hc1, hf⟩ := hP
    simp only [List.cons_append, List.nil_append] at N
    rcases hlb with rfl | rfl | rfl
    · try k_fold
      k_steps
    · try k_fold
      k_steps
    · try k_fold
      k_steps
  · clear F9 N9
    rintro ⟨us, row, nn, lb, tl, lc, tc⟩ u h tk hlen hI hP F N
    dsimp only [kstB] at hI hP F N ⊢
    have hul : us.length ≤ 132 := by
      have := b2_len hP
      have := hI.length
      omega
    have hrl : row.length ≤ 132 := by
      have := hI.length
      omega
    have hri := b2_in (fun k hk => KBw.ints_in (b := b) (hks ▸ hk)) hP
    obtain ⟨hlb, hc0, hc1, hf⟩ := hP
    have hB : b2aL ks = _ := b2aL_eq hf
    rcases hlb with rfl | rfl | rfl
    · have hin : KBa.In row := hri
      try k_fold
      k_steps
      rename Fr _ _ _ _ => F9
      rw [if_neg (by decide), if_neg (by decide)] at hB
      rw [b2aB, hks, hB] at ret
      exact ret _ _ _ F9.keep
    · have hin : KBa.In (row ++ [sx (lc * 16)] ++ [61] ++ [61]) := in_app (in_app (in_app hri (sx_in _)) (by decide)) (by decide)
      try k_fold
      k_steps
      rename Fr _ _ _ _ => F9
      rename News _ _ _ _ => N9
      rw [if_pos rfl] at hB
      refine make_A F9 N9 rfl (List.Mem.head _) (ints_push (ints_push (ints_push (ints_arr hI)))) hin ?_ fun h9 t9 k9 F9 N9 => ?_
      · simp only [List.length_append, List.length_singleton]
        omega
      · have z := ret _ k9 t9 F9.keep
        rw [b2aB, hks, hB] at z
        exact z
    · have hin : KBa.In (row ++ [sx (lc * 4)] ++ [61]) := in_app (in_app hri (sx_in _)) (by decide)
      try k_fold
      k_steps
      rename Fr _ _ _ _ => F9
      rename News _ _ _ _ => N9
      rw [if_neg (by decide), if_pos rfl] at hB
      refine make_A F9 N9 rfl (List.Mem.head _) (ints_push (ints_push (ints_arr hI))) hin ?_ fun h9 t9 k9 F9 N9 => ?_
      · simp only [List.length_append, List.length_singleton]
        omega
      · have z := ret _ k9 t9 F9.keep
        rw [b2aB, hks, hB] at z
        exact z
end Mine
end
section
open PySem PySem.W PySem.Calls PyProof.Rows
namespace Mine
/-! the plain law: what b2a_base64 makes is the writing to the base 64 -/
theorem figs_snoc (ms : List Int) : ∀ (k : Nat) {M : Int}, 0 ≤ M → figs ms M (k + 1) = figs ms (M / 64) k ++ [ms.getD (M % 64).toNat 0]
  | 0, M, _ => by simp [figs]
  | k + 1, M, h => by
    rw [figs, figs_snoc ms k h, figs, List.cons_append]
    congr 1
    rw [Int.ediv_ediv_of_nonneg (by decide), Int.pow_succ, Int.mul_comm]
theorem sx_snoc {k : Nat} {M X : Int} (h : 0 ≤ M) (hX : X % 64 = M % 64) : figs alpha (M / 64) k ++ [sx X] = figs alpha M (k + 1) := by
  rw [figs_snoc alpha k h]
  unfold sx
  rw [hX]
def Inv (ns : List Int) (st : List Int × Int × Int) : Prop :=
  st.2.1 = 2 * ((ns.length % 3 : Nat) : Int) ∧ st.2.2 = numOf ns % 65536 ∧ 0 ≤ numOf ns ∧ st.1 = figs alpha (numOf ns / (if ns.length % 3 = 0 then 1 else if ns.length % 3 = 1 then 4 else 16)) (ns.length * 8 / 6)
theorem numOf_snoc (ns : List Int) (x : Int) : numOf (ns ++ [x]) = numOf ns * 256 + x := by unfold numOf; rw [List.foldl_append]; rfl
theorem inv_step {ns : List Int} {st : List Int × Int × Int} {x : Int} (h : Inv ns st) (h0 : 0 ≤ x) (h1 : x < 256) : Inv (ns ++ [x]) (stepL st x) := by
  obtain ⟨out, lb, lc⟩ := st
  obtain ⟨hb, hc, hN, ho⟩ := h
  dsimp only at hb hc ho
  obtain ⟨N, hNe⟩ : ∃ N, numOf ns = N := ⟨_, rfl⟩
  have hlen : (ns ++ [x]).length = ns.length + 1 := by simp
  unfold Inv
  rw [numOf_snoc, hlen]
  rw [hNe] at hc hN ho ⊢
  obtain ⟨n, hn⟩ : ∃ n, ns.length = n := ⟨_, rfl⟩
  rw [hn] at hb ho ⊢
  have hcc : (lc * 256 + x) % 65536 = (N * 256 + x) % 65536 := by omega
  have h3 : n % 3 = 0 ∨ n % 3 = 1 ∨ n % 3 = 2 := by omega
  rcases h3 with h3 | h3 | h3
  · rw [h3] at hb
    rw [if_pos h3] at ho
    have e1 : (n + 1) % 3 = 1 := by omega
    have e2 : (n + 1) * 8 / 6 = n * 8 / 6 + 1 := by omega
    unfold stepL
    dsimp only
    rw [if_pos (by omega), e1, e2, if_neg (by decide), if_pos rfl]
    refine ⟨by show (2 : Int) = _; omega, hcc, by omega, ?_⟩
    rw [ho, hcc, Int.ediv_one]
    rw [show N = (N * 256 + x) / 4 / 64 from by omega]
    rw [show ((N * 256 + x) / 4 / 64 * 256 + x) = N * 256 + x from by omega]
    exact sx_snoc (by omega) (by omega)
  · rw [h3] at hb
    rw [if_neg (by omega), if_pos h3] at ho
    have e1 : (n + 1) % 3 = 2 := by omega
    have e2 : (n + 1) * 8 / 6 = n * 8 / 6 + 1 := by omega
    unfold stepL
    dsimp only
    rw [if_neg (by omega), if_pos (by omega), e1, e2, if_neg (by decide), if_neg (by decide)]
    refine ⟨by show (4 : Int) = _; omega, hcc, by omega, ?_⟩
    rw [ho, hcc]
    rw [show N / 4 = (N * 256 + x) / 16 / 64 from by omega]
    exact sx_snoc (by omega) (by omega)
  · rw [h3] at hb
    rw [if_neg (by omega), if_neg (by omega)] at ho
    have e1 : (n + 1) % 3 = 0 := by omega
    have e2 : (n + 1) * 8 / 6 = n * 8 / 6 + 1 + 1 := by omega
    unfold stepL
    dsimp only
    rw [if_neg (by omega), if_neg (by omega), e1, e2, if_pos rfl]
    refine ⟨by show (0 : Int) = _; omega, hcc, by omega, ?_⟩
    rw [ho, hcc, Int.ediv_one]
    rw [show N / 16 = (N * 256 + x) / 64 / 64 from by omega]
    rw [show ∀ (l : List Int) (a b : Int), l ++ [a, b] = (l ++ [a]) ++ [b] from fun l a b => by simp]
    rw [sx_snoc (M := (N * 256 + x) / 64) (by omega) (by omega)]
    exact sx_snoc (by omega) (by omega)
theorem inv_fold : ∀ (r : List Int) {ns : List Int} {st : List Int × Int × Int}, Inv ns st → (∀ x ∈ r, 0 ≤ x ∧ x < 256) → Inv (ns ++ r) (r.foldl stepL st)
  | [], ns, st, h, _ => by simpa using h
  | x :: r, ns, st, h, hr => by
    have hx := hr x (List.mem_cons_self ..)
    have := inv_fold r (inv_step h hx.1 hx.2) fun y hy => hr y (List.mem_cons_of_mem _ hy)
    simpa using this
theorem b2aL_written {ks : List Int} (hk : ∀ x ∈ ks, 0 ≤ x ∧ x < 256) : b2aL ks = writtenL ks alpha := by
  have h : Inv ks (ks.foldl stepL ([], 0, 0)) := by
    have := inv_fold ks (ns := []) (st := ([], 0, 0)) ⟨rfl, rfl, by decide, rfl⟩ hk
    simpa using this
  unfold b2aL
  dsimp only
  generalize ks.foldl stepL ([], 0, 0) = st at h
  obtain ⟨out, lb, lc⟩ := st
  obtain ⟨hb, hc, hN, ho⟩ := h
  dsimp only at hb hc ho ⊢
  unfold writtenL writtenM
  obtain ⟨N, hNe⟩ : ∃ N, numOf ks = N := ⟨_, rfl⟩
  rw [hNe] at hc hN ho ⊢
  obtain ⟨n, hn⟩ : ∃ n, ks.length = n := ⟨_, rfl⟩
  rw [hn] at hb ho ⊢
  have h3 : n % 3 = 0 ∨ n % 3 = 1 ∨ n % 3 = 2 := by omega
  rcases h3 with h3 | h3 | h3
  · have e1 : padOf n = 0 := by unfold padOf; omega
    have e2 : places n = n * 8 / 6 := by unfold places; omega
    have e3 : places n * 6 - n * 8 = 0 := by unfold places; omega
    rw [if_neg (by omega), if_neg (by omega), e3, e2, e1, ho, if_pos h3]
    simp
  · have e1 : padOf n = 2 := by unfold padOf; omega
    have e2 : places n = n * 8 / 6 + 1 := by unfold places; omega
    have e3 : places n * 6 - n * 8 = 4 := by unfold places; omega
    rw [if_pos (by omega), e3, e2, e1, ho, if_neg (by omega), if_pos h3]
    rw [show N / 4 = (N * 2 ^ 4) / 64 from by omega]
    rw [show ∀ (l : List Int) (a : Int), l ++ [a, 61, 61] = (l ++ [a]) ++ List.replicate 2 61 from fun l a => by simp [List.replicate]]
    rw [sx_snoc (M := N * 2 ^ 4) (by omega) (by omega)]
  · have e1 : padOf n = 1 := by unfold padOf; omega
    have e2 : places n = n * 8 / 6 + 1 := by unfold places; omega
    have e3 : places n * 6 - n * 8 = 2 := by unfold places; omega
    rw [if_neg (by omega), if_pos (by omega), e3, e2, e1, ho, if_neg (by omega), if_neg (by omega)]
    rw [show N / 16 = (N * 2 ^ 2) / 64 from by omega]
    rw [show ∀ (l : List Int) (a : Int), l ++ [a, 61] = (l ++ [a]) ++ List.replicate 1 61 from fun l a => by simp [List.replicate]]
    rw [sx_snoc (M := N * 2 ^ 2) (by omega) (by omega)]
abbrev signs62 : List Int := rangeInts 65 1 ((91 : Int) - 65).toNat ++ rangeInts 97 1 ((123 : Int) - 97).toNat ++ rangeInts 48 1 ((58 : Int) - 48).toNat
theorem alpha_eq : signs62 ++ [43, 47] = alpha := by decide +kernel
theorem law1 {ks : List Int} (hk : ∀ x ∈ ks, 0 ≤ x ∧ x < 256) : b2aB (byteArr ks) = writtenB ks (signs62 ++ [43, 47]) := by
  unfold b2aB writtenB
  rw [KBa.ints_make hk, b2aL_written hk, alpha_eq]
theorem tab_at (a b : UInt8) : mkTab #[43, 47] #[a, b] = ((((Array.range 256).map (·.toUInt8)).setIfInBounds 43 a).setIfInBounds 47 b) := rfl
theorem tab_getD (a b c : UInt8) : (mkTab #[43, 47] #[a, b]).getD c.toNat c = if c = 47 then b else if c = 43 then a else c := by
  have hc := c.toNat_lt
  rw [tab_at, Array.getD_eq_getD_getElem?, Array.getElem?_setIfInBounds, Array.getElem?_setIfInBounds]
  have e1 : (47 = c.toNat) ↔ c = 47 := ⟨fun h => UInt8.toNat_inj.mp h.symm, fun h => by rw [h]; rfl⟩
  have e2 : (43 = c.toNat) ↔ c = 43 := ⟨fun h => UInt8.toNat_inj.mp h.symm, fun h => by rw [h]; rfl⟩
  by_cases h1 : c = 47
  · subst h1; simp
  · rw [if_neg (fun h => h1 (e1.mp h)), if_neg h1]
    by_cases h2 : c = 43
    · subst h2; simp
    · rw [if_neg (fun h => h2 (e2.mp h)), if_neg h2]
      simp [hc]
theorem head_ok : ∀ i : Fin 62, (signs62.getD i.val 0).toNat.toUInt8 ≠ 47 ∧ (signs62.getD i.val 0).toNat.toUInt8 ≠ 43 := by decide +kernel
theorem signs62_len : signs62.length = 62 := by decide +kernel
theorem tr_fig (a b : UInt8) {i : Nat} (hi : i < 64) :
    (mkTab #[43, 47] #[a, b]).getD ((signs62 ++ [43, 47]).getD i 0).toNat.toUInt8.toNat ((signs62 ++ [43, 47]).getD i 0).toNat.toUInt8 = ((signs62 ++ [(a.toNat : Int), (b.toNat : Int)]).getD i 0).toNat.toUInt8 := by
  rw [tab_getD]
  rcases Nat.lt_or_ge i 62 with h | h
  · have hl : ∀ l : List Int, (signs62 ++ l).getD i 0 = signs62.getD i 0 := fun l => by
      rw [List.getD_eq_getElem?_getD, List.getD_eq_getElem?_getD, List.getElem?_append_left (by rw [signs62_len]; exact h)]
    rw [hl, hl]
    obtain ⟨x, y⟩ := head_ok ⟨i, h⟩
    dsimp only at x y
    rw [if_neg x, if_neg y]
  · have hl : ∀ l : List Int, (signs62 ++ l).getD i 0 = l.getD (i - 62) 0 := fun l => by
      rw [List.getD_eq_getElem?_getD, List.getD_eq_getElem?_getD, List.getElem?_append_right (by rw [signs62_len]; exact h), signs62_len]
    rw [hl, hl]
    rcases (by omega : i = 62 ∨ i = 63) with rfl | rfl
    · simp
    · simp
theorem tr_figs (a b : UInt8) (M : Int) : ∀ k, (figs (signs62 ++ [43, 47]) M k).map (fun n => (mkTab #[43, 47] #[a, b]).getD n.toNat.toUInt8.toNat n.toNat.toUInt8) = (figs (signs62 ++ [(a.toNat : Int), (b.toNat : Int)]) M k).map fun n => n.toNat.toUInt8
  | 0 => rfl
  | k + 1 => by
    rw [figs, figs, List.map_cons, List.map_cons, tr_figs a b M k]
    congr 1
    have h1 := Int.emod_lt_of_pos (M / 64 ^ k) (show (0 : Int) < 64 by decide)
    have h2 := Int.emod_nonneg (M / 64 ^ k) (show (64 : Int) ≠ 0 by decide)
    exact tr_fig a b (by omega)
theorem law2 {ks : List Int} {a b : UInt8} (hk : ∀ x ∈ ks, 0 ≤ x ∧ x < 256) : trans (b2aB (byteArr ks)) (mkTab #[43, 47] #[a, b]) = writtenB ks (signs62 ++ [(a.toNat : Int), (b.toNat : Int)]) := by
  rw [law1 hk]
  unfold trans writtenB writtenL byteArr
  rw [List.map_toArray, List.map_map]
  congr 1
  rw [List.map_append, List.map_append, ← tr_figs a b]
  congr 1
  rw [List.map_replicate, List.map_replicate]
  congr 1
  show (mkTab #[43, 47] #[a, b]).getD (61 : Int).toNat.toUInt8.toNat (61 : Int).toNat.toUInt8 = _
  rw [tab_getD]
  rfl
end Mine
end
section
open PySem PySem.W PySem.Calls PyProof.Rows
namespace Mine
section
variable {w : World} {mg mb : PySem.Str → Option Value} {mean : ExcName → Option Value} {loose : List PySem.Str} {dp un : Nat} {gd : Option (List Code)} {outer : List Env} {base h₀ : Heap} {s : Shared} {L a : Addr} {m : PySem.Str → Option Value} {news : List (Addr × Obj)}
  {cn : PySem.Str} {cs : Scope} {ccd : Value} {Q E : Value → Shared → Prop} {v : Value} {b : Array UInt8}
theorem use_b2a (B : Below (AA dp un gd outer) base outer h₀) (F : Fr h₀ L s.heap m) (N : News h₀ L s.heap news) (KX : (Mine.Head.hd.heap_39 w.params).In h₀) (T : Top Mine.Head.hd.view_39 loose mean mg mb h₀)
    (hv : IsBuf s.heap v b) (hz : b.size ≤ 66) (hd : dp + 7 < recursionLimit) (hu : un + 23 < cLine) (hk : cs.kind = .function)
    (h : ∀ h' tk' t, Fr h₀ L h' m → News h₀ L h' news → Q (.bytes (b2aB b) t) { s with heap := h', toks := tk' }) :
    wpAny (model Challenge.rw_io0040_01.row.prog w) ((AA dp un gd outer).deeper (envOf cn cs L a ccd)) (call (.ref 43) [v] [(Str.ofString "newline", .bool false)]) Q E s :=
  wpAny_call (b2a_call (dp := dp + 1) (un := un + 3) (gd := gd) (outer := envOf cn cs L a ccd :: outer) (B.push F hk) (KX.keeps F.keep) (T.keeps F.keep) hv hz (by omega) (by omega) fun h' tk' t hk' => h h' tk' t (F.keptAll hk') (N.grown hk'))
end
local macro_rules | `(tactic| walk_at "call ref") => `(tactic| ((with_reducible show wpAny _ _ (call (Value.ref 43) _ _) _ _ _); refine use_b2a (by assumption) (by assumption) (by assumption) (by assumption) (by assumption) (by assumption) (by assumption) (by omega) (by omega) rfl ?_; intro h' tk' t' F' N'))

set_option maxHeartbeats 8000000 in
theorem enc1_call {w : World} {mg mb : PySem.Str → Option Value} {mean : ExcName → Option Value} {loose : List PySem.Str} {dp un : Nat} {gd : Option (List Code)} {outer : List Env} {base : Heap} {s : Shared} {v : Value} {b : Array UInt8}
    {R : Result → Shared → Prop}
    (B : Below (AA dp un gd outer) base outer s.heap) (KX : (Mine.Head.hd.heap_39 w.params).In s.heap) (T : Top Mine.Head.hd.view_39 loose mean mg mb s.heap)
    (hv : IsBuf s.heap v b) (hz : b.size ≤ 66) (hd : dp + 8 < recursionLimit) (hu : un + 30 < cLine)
    (ret : ∀ h' tk' t, (∀ b o, s.heap.get? b = some o → h'.get? b = some o) → R (.ok (.ret (.bytes (b2aB b) t))) { s with heap := h', toks := tk' }) :
    codeAny (model Challenge.rw_io0040_01.row.prog w) (AA dp un gd outer) (.call (.ref 51) ⟨[v], []⟩) R s := by
  w_top off
  k_with_none
  revert KX
  k_fill
  intro KX
  refine' enterP (binds := [(Str.ofString "s", v), (Str.ofString "altchars", .none)]) B KX T.nolimit ?k6 ?k7 ?k8 ?k9 ?kB ?_ ?c2 ?c3 ?c4 ?c5
  (case k6 => k_is); (case k7 => k_is); (case k8 => show dp < recursionLimit; omega); (case k9 => first | exact BindsTo.of_eq rfl | exact binds_K KX rfl (by k_is) rfl rfl rfl); (case kB => exact locs rfl); (case c2 => exact rfl); (case c3 => exact rfl); (case c4 => exact rfl); (case c5 => decide)
  intro L' h' F' N'
  try dsimp only
  have hv' : IsBuf h' v b := hv.keeps F'.keep
  try k_fold
  k_steps
  rename Fr _ _ _ _ => F9
  exact ret _ _ _ F9.keep

theorem two_of : ∀ {l : List Int}, l.length = 2 → ∃ a b, l = [a, b]
  | [a, b], _ => ⟨a, b, rfl⟩
theorem b2aB_size {b : Array UInt8} (h : b.size ≤ 66) : (b2aB b).size ≤ sizeLine := by
  unfold b2aB b2aL
  rw [byteArr_size, sizeLine_eq]
  have h1 := foldL_len (KBw.bInts b) ([], 0, 0)
  rw [KBw.ints_length] at h1
  simp only [List.length_nil] at h1
  dsimp only
  split
  · simp only [List.length_append, List.length_cons, List.length_nil]; omega
  · split
    · simp only [List.length_append, List.length_cons, List.length_nil]; omega
    · omega
theorem meta_bytes : typeOf (.type "bytes") = pure (.type "type") := by first | rfl | kernel_rfl
local macro_rules | `(tactic| walk_at "getMethod bytes") => `(tactic| ((with_reducible show wpAny _ _ (getMethod (Value.bytes _ _) (PySem.Str.ofString "translate") _) _ _ _); refine getm_tr ?_))
local macro_rules | `(tactic| walk_at "getMethod type:bytes") => `(tactic| (k_here; refine' method_type ?F ?X meta_bytes (by decide +kernel) ?e ?h ?_; (case F => k_asm); (case X => k_asm); (case e => k_dflt k_is); (case h => k_handed)))
local macro_rules | `(tactic| walk_at "call builtin:bytes.maketrans") => `(tactic| (refine call_mk (by first | assumption | (show 2 = _; omega)) ?_; intro _ _))
local macro_rules | `(tactic| walk_at "call builtin:bytes.translate") => `(tactic| (refine call_tr (mkTab_size _ _) (b2aB_size (by assumption)) ?_; intro _ _))

set_option maxHeartbeats 8000000 in
theorem enc2_call {w : World} {mg mb : PySem.Str → Option Value} {mean : ExcName → Option Value} {loose : List PySem.Str} {dp un : Nat} {gd : Option (List Code)} {outer : List Env} {base : Heap} {s : Shared} {v : Value} {b alt : Array UInt8} {ta : Tok}
    {R : Result → Shared → Prop}
    (B : Below (AA dp un gd outer) base outer s.heap) (KX : (Mine.Head.hd.heap_39 w.params).In s.heap) (T : Top Mine.Head.hd.view_39 loose mean mg mb s.heap)
    (hv : IsBuf s.heap v b) (hz : b.size ≤ 66) (hlt : alt.size = 2) (hd : dp + 8 < recursionLimit) (hu : un + 30 < cLine)
    (ret : ∀ h' tk' t, (∀ b o, s.heap.get? b = some o → h'.get? b = some o) → R (.ok (.ret (.bytes (trans (b2aB b) (mkTab #[43, 47] alt)) t))) { s with heap := h', toks := tk' }) :
    codeAny (model Challenge.rw_io0040_01.row.prog w) (AA dp un gd outer) (.call (.ref 51) ⟨[v, .bytes alt ta], []⟩) R s := by
  w_top off
  k_with_none
  revert KX
  k_fill
  intro KX
  refine' enterP (binds := [(Str.ofString "s", v), (Str.ofString "altchars", .bytes alt ta)]) B KX T.nolimit ?k6 ?k7 ?k8 ?k9 ?kB ?_ ?c2 ?c3 ?c4 ?c5
  (case k6 => k_is); (case k7 => k_is); (case k8 => show dp < recursionLimit; omega); (case k9 => first | exact BindsTo.of_eq rfl | exact binds_K KX rfl (by k_is) rfl rfl rfl); (case kB => exact locs rfl); (case c2 => exact rfl); (case c3 => exact rfl); (case c4 => exact rfl); (case c5 => decide)
  intro L' h' F' N'
  try dsimp only
  have hv' : IsBuf h' v b := hv.keeps F'.keep
  obtain ⟨a0, a1, has⟩ : ∃ a0 a1, KBw.bInts alt = [a0, a1] := by
    have hal : (KBw.bInts alt).length = 2 := by rw [KBw.ints_length]; exact hlt
    exact two_of hal
  try k_fold
  k_steps
  · rename Fr _ _ _ _ => F9
    exact ret _ _ _ F9.keep
  · rename _ ≠ _ => hne
    exact absurd rfl hne
end Mine
end
section
open PySem PySem.W PySem.Calls PyProof.Rows
namespace Mine
section
variable {prog : Program} {w : World} {A : Around} {E : Value → Shared → Prop} {s : Shared} {env : Env}

theorem wpG_execs_cons {M : Model} {st : Stmt} {rest : List Stmt} {Q : Flow → Shared → Prop} (h : wpG M A (exec st env) (fun f s' => match f with | .next => wpG M A (execs rest env) Q E s' | f => Q f s') E s) : wpG M A (execs (st :: rest) env) Q E s := by
  rw [execs_cons]
  refine wpG_bind (wpG_mono h (fun f s' z => ?_) fun _ _ z => z)
  cases f with
  | next => exact z
  | brk => exact wpG_pure z
  | cont => exact wpG_pure z
  | ret v => exact wpG_pure z

/-- a for whose turns never leave it and never raise -/
theorem codeG_forLoop {R : Result → Shared → Prop} {target : PySem.Expr} {it : Value} {body : List Stmt} (I : Nat → Shared → Prop)
    (turn : ∀ n s, I n s → wpAny (model prog w) A (pyNext it) (fun r s₁ => match r with
      | none => R (.ok .next) s₁
      | some v => wpAny (model prog w) A (assign target env v) (fun _ s₂ => wpG (model prog w) A (execs body env) (fun f s₃ => f = .next ∧ ∃ m, m < n ∧ I m s₃) (fun _ _ => False) s₂) (fun _ _ => False) s₁) (fun _ _ => False) s)
    (n : Nat) (h : I n s) (ht : ∀ v, letOwnedTupleGo target it v = pure () := by intro _; rfl) : codeG (model prog w) A (.forLoop target it body [] env) R s := by
  induction n using Nat.strongRecOn generalizing s with
  | ind n ih =>
    refine codeG_of_tree rfl ?_
    rw [show A.under (.forLoop target it body [] env) = A from Around.under_of_weight rfl]
    show wpG _ _ ((forTurn target it body [] env).onRaise (fun x => do noteFrame x env; theTreesLotGoes x)) _ _ s
    refine wpG_onRaise ?_
    simp only [forTurn]
    refine wpG_then (wpAny_standAt (wpG_then (wpAny_onRaise (wpAny_mono (turn n s h) (fun r s₁ h₁ => ?_) fun _ _ z => z.elim))))
    cases r with
    | none => exact wpG_pure ⟨rfl, codeG_of (codeAny_block (wpAny_execs_nil h₁))⟩
    | some v =>
      refine wpG_bind (wpG_eq (ht v) ?_)
      refine wpG_then (wpAny_mono h₁ (fun _ s₂ h₂ => wpG_bind (wpG_mono h₂ (fun f s₃ h₃ => ?_) fun _ _ z => z)) fun _ _ z => z)
      obtain ⟨rfl, m, hm, hI⟩ := h₃
      exact wpG_pure ⟨rfl, ih m hm hI⟩

theorem wpG_For {M : Model} {target iter : PySem.Expr} {body orelse : List Stmt} {pos : Pos} {Q : Flow → Shared → Prop}
    (h : wpG M A (eval iter env) (fun x s₁ => wpAny M A (pyIter x) (fun it s₂ => codeG M A (.forLoop target it body orelse env) (fun r s' => match r with | .ok f => Q f s' | .error _ => False) s₂) E s₁) E s)
    (hs : ∀ x, foldedSetIterable iter env x = pure x := by intro _; rfl) : wpG M A (exec (.For target iter body orelse pos) env) Q E s := by
  rw [exec_For]
  refine wpG_then (wpAny_standAt (wpG_bind (wpG_mono h (fun x s₁ h₁ => ?_) fun _ _ z => z)))
  refine wpG_bind (wpG_eq (hs x) ?_)
  refine wpG_then (wpAny_standAt (wpG_then (wpAny_holding (wpAny_mono h₁ (fun it s₂ h₂ => ?_) fun _ _ z => z))))
  unfold runOwn
  refine wpG_onRaise (wpG_run (codeG_mono h₂ fun r s' z => ?_))
  cases r with
  | ok f => exact z
  | error e => exact z

theorem codeG_func {R : Result → Shared → Prop} {body : List Stmt} (h : wpG (model prog w) (A.deeper env) (execs body env) (fun f s' => R (.ok (.ret (match f with | .ret v => v | _ => .none))) s') (fun _ _ => False) s) :
    codeG (model prog w) A (.func body env) R s := by
  refine codeG_of_tree rfl ?_
  show wpG _ (A.deeper env) (do point; match ← (execs body env).onRaise (leaving env) with | .ret v => ret v | _ => ret .none) _ _ s
  refine wpG_then (wpAny_point (wpG_bind (wpG_onRaise (wpG_mono h (fun f s' z => ?_) fun _ _ z => z))))
  cases f <;> exact wpG_pure z

theorem enterLaw {K : Frag} {R : Result → Shared → Prop} {name qual : PySem.Str} {params : Arguments} {body : List Stmt} {scope : Scope} {dV kV doc pm cdv ct oc : Value} {an od : Option Addr} {osl : Array (Option Value)} {f : Addr} {args : Args} {binds : List (PySem.Str × Value)}
    (X : K.In s.heap) (hlim : s.heap.NoLimit)
    (ho : K.lookup f = some ⟨oc, od, .func (fnOf name qual params body scope dV kV doc pm an cdv ct), osl⟩) (hcd : codeIn K cdv qual = true) (hroom : A.depth < recursionLimit)
    (hbind : BindsTo s (fnOf name qual params body scope dV kV doc pm an cdv ct) args binds) (hkind : (binds.all fun y => scope.names.lookup y.1 == some .local || scope.names.lookup y.1 == some .cell) = true)
    (hnd : ((cellsFrom 0 scope.names []).map (·.1)).Nodup)
    (h : ∀ L' h₁ tk cells, Fr s.heap L' h₁ (bindL (envOfC qual scope L' f cdv).kindOf binds fun _ => none) → News s.heap L' h₁ cells → CellsAre (bindC (envOfC qual scope L' f cdv).kindOf binds fun _ => none) (cellsFrom (L' + 1) scope.names []) cells →
      wpG (model prog w) (A.deeper (envOfC qual scope L' f cdv)) (execs body (envOfC qual scope L' f cdv)) (fun fl s' => R (.ok (.ret (match fl with | .ret v => v | _ => .none))) s') (fun _ _ => False) { s with heap := h₁, toks := tk })
    (hco : scope.isCoroutine = false) (hgen : scope.isGenerator = false) (hk : scope.kind = .function) : codeG (model prog w) A (.call (.ref f) args) R s := by
  refine codeG_of_tree rfl ?_
  rw [show A.under (.call (.ref f) args) = A.in1 from Around.under_plain rfl rfl]
  show wpG _ A.in1 (callAny (.ref f) args) _ _ s
  simp only [callAny]
  have hcd := codeRec_of X hcd
  refine wpG_then (wpAny_load (X _ _ ho) ?_)
  obtain ⟨c, ob, vs, tq, rfl, hoc, hdc, hq⟩ := hcd
  simp only [callFunction, hco, hgen]
  refine wpG_bind (m := field (.ref c) 1) (wpG_of (wpAny_field hoc hdc hq ?_))
  refine wpG_bind (wpG_pure ?_)
  refine wpG_then (hbind _ _ _ _ ?_)
  refine wpG_then (wpAny_newFunctionEnv_cells hk (kindsX hkind _) fun env' he s' x => ?_)
  subst he
  refine wpG_then (wpAny_enterFrame (hlim.keeps x.toInCall.keep) hroom ?_)
  refine wpG_pure ⟨rfl, codeG_func ?_⟩
  obtain ⟨h₁, tk, rfl, _⟩ := x.done
  have hk₁ := x.toInCall.keep
  obtain ⟨cells, NC, Y⟩ := Cl.news (h₀ := s.heap) (Nat.le_refl _) fun n c hm => ⟨x.cell n c (lookup_of_mem_nodup (cellsFrom_names scope.names 0 (s.heap.objs.size + 1) [] [] rfl ▸ hnd) hm), x.above n c hm⟩
  exact h s.heap.objs.size h₁ tk cells ⟨x.toInCall.ns, hk₁, Nat.le_refl _⟩ NC Y
end
end Mine
end
section
open PySem PySem.W PySem.Calls PyProof.Rows
namespace Mine
section
variable {prog : Program} {w : World} {A : Around} {E : Value → Shared → Prop} {s : Shared} {env : Env} {R : Result → Shared → Prop}

/-- an element that a turn has made: an object at or above a line, that later turns leave as it is -/
def MadeAt (line : Nat) (H : Nat → Obj → Prop) (h : Heap) (ys : List Value) : Prop := ∀ j y, ys[j]? = some y → ∃ c o, y = .ref c ∧ line ≤ c ∧ h.get? c = some o ∧ H j o

theorem MadeAt.keeps {line : Nat} {H : Nat → Obj → Prop} {h h' : Heap} {ys : List Value} (x : MadeAt line H h ys) (hk : ∀ b o, line ≤ b → h.get? b = some o → h'.get? b = some o) : MadeAt line H h' ys := fun j y e => by
  obtain ⟨c, o, rfl, hc, ho, hH⟩ := x j y e
  exact ⟨c, o, rfl, hc, hk c o hc ho, hH⟩
theorem MadeAt.snoc {line : Nat} {H : Nat → Obj → Prop} {h : Heap} {ys : List Value} {c : Addr} {o : Obj} (x : MadeAt line H h ys) (hc : line ≤ c) (ho : h.get? c = some o) (hH : H ys.length o) : MadeAt line H h (ys ++ [.ref c]) := fun j y e => by
  rcases Nat.lt_trichotomy j ys.length with hj | hj | hj
  · exact x j y (by rwa [List.getElem?_append_left hj] at e)
  · subst hj
    simp at e
    exact ⟨c, o, e.symm, hc, ho, hH⟩
  · have hnone : (ys ++ [Value.ref c])[j]? = none := List.getElem?_eq_none (by rw [List.length_append, List.length_singleton]; omega)
    rw [hnone] at e; cases e

theorem MadeAt.down {line line' : Nat} {H : Nat → Obj → Prop} {h : Heap} {ys : List Value} (x : MadeAt line H h ys) (hl : line' ≤ line) : MadeAt line' H h ys := fun j y e => by
  obtain ⟨c, o, rfl, hc, ho, hH⟩ := x j y e
  exact ⟨c, o, rfl, Nat.le_trans hl hc, ho, hH⟩
theorem ns_lt {h : Heap} {C : Addr} {m : PySem.Str → Option Value} (x : h.Ns C m) : C < h.objs.size := let ⟨_, _, _, e, _⟩ := x; Heap.lt_size e

theorem codeAny_compLoop_made {elt iter : PySem.Expr} {x : PySem.Str} {px : Pos} {scope : Scope} {pos : Pos} {I D : Addr} {fp wr : List Addr} {n : Nat} {P : Nat → Value → Prop} {St : Nat → Heap → Prop}
    {cenv : Env} {m : PySem.Str → Option Value} (W : Walks prog w A I fp wr n P St) (H : Nat → Obj → Prop)
    (hx : cenv.kindOf x = some .local) (hp : (cenv.scope.kind == .class || (cenv.scope.kind == .module && cenv.locals != cenv.globals)) = false)
    (hDf : D ∉ fp) (hCf : cenv.locals ∉ fp) (hDl : D < cenv.locals) (hIl : ∀ b ∈ wr, b < cenv.locals)
    (hst : St 0 s.heap) (hacc : s.heap.PlainList D #[]) (hn : s.heap.Ns cenv.locals m)
    (helt : ∀ i v s₂ m₂, P i v → i < n → s₂.heap.Ns cenv.locals m₂ → m₂ x = some v → (∀ b o, b ≠ cenv.locals → b ∉ wr → b ≠ D → s.heap.get? b = some o → s₂.heap.get? b = some o) →
      wpAny (model prog w) A (eval elt cenv) (fun y s₃ => (∃ c o, y = .ref c ∧ s₂.heap.objs.size ≤ c ∧ s₃.heap.get? c = some o ∧ H i o) ∧ Keeps s₂ s₃) (fun _ _ => False) s₂)
    (hR : ∀ h' tk m' (ys : Array Value), h'.Ns cenv.locals m' → h'.PlainList D ys → ys.size = n → MadeAt (cenv.locals + 1) H h' ys.toList →
      (∀ b o, b ≠ cenv.locals → b ∉ wr → b ≠ D → s.heap.get? b = some o → h'.get? b = some o) → R (.ok .next) { s with heap := h', toks := tk })
    (hsz : n ≤ sizeLine) :
    codeAny (model prog w) A (.compLoop (.ListComp elt [⟨.Name x px, iter, [], 0⟩] scope pos) 0 (.ref I) (.ref D) cenv) R s := by
  have hCw : cenv.locals ∉ wr := fun h => hCf (W.sub _ h)
  have hDw : D ∉ wr := fun h => hDf (W.sub _ h)
  have hDC : D ≠ cenv.locals := Nat.ne_of_lt hDl
  refine codeAny_compLoop_tests
    (fun k s' => ∃ h' tk m', ∃ ys : Array Value, s' = { s with heap := h', toks := tk } ∧ St ys.size h' ∧ h'.PlainList D ys ∧ h'.Ns cenv.locals m' ∧ MadeAt (cenv.locals + 1) H h' ys.toList ∧ ys.size ≤ n ∧ k = n + 1 - ys.size ∧
      (∀ b o, b ≠ cenv.locals → b ∉ wr → b ≠ D → s.heap.get? b = some o → h'.get? b = some o)) ?_ (n + 1)
    ⟨s.heap, s.toks, m, #[], rfl, hst, hacc, hn, fun j y e => by simp at e, Nat.zero_le _, rfl, fun _ _ _ _ _ e => e⟩
  rintro k s' ⟨h', tk, m', ys, rfl, hst', hacc', hn', hM, hi, rfl, hk⟩
  have up : ∀ {h₁ : Heap}, (∀ b o, b ∉ wr → h'.get? b = some o → h₁.get? b = some o) → MadeAt (cenv.locals + 1) H h₁ ys.toList := fun hk₁ =>
    hM.keeps fun b o hb e => hk₁ b o (fun h => Nat.lt_irrefl _ (Nat.lt_trans (hIl b h) hb)) e
  by_cases hlt : ys.size < n
  · refine W.item ys.size _ _ _ hlt hst' fun v h₁ tk₁ hPv hst₁ hk₁ => ?_
    refine wpAny_assign_Name (wpAny_storeName_local hx (hn'.at' fun o e => hk₁ _ o hCw e) (fun h₂ hn₂ hs₂ => ?_) hp)
    have hM₂ : MadeAt (cenv.locals + 1) H h₂ ys.toList := (up hk₁).keeps fun b o hb e => hs₂.extBut b o (Ne.symm (Nat.ne_of_lt hb)) e
    have up₂ : ∀ b o, b ≠ cenv.locals → b ∉ wr → h'.get? b = some o → h₂.get? b = some o := fun b o hbC hbf e => hs₂.extBut b o hbC (hk₁ b o hbf e)
    have hst₂ : St (ys.size + 1) h₂ := W.frame _ _ _ hst₁ fun b hb o e => hs₂.extBut b o (fun h => hCf (h ▸ hb)) e
    refine wpAny_tests_nil ?_
    simp only [if_true]
    refine wpAny_mono (helt ys.size v _ _ hPv hlt hn₂ (by simp) (fun b o hbC hbf hbD e => up₂ b o hbC hbf (hk b o hbC hbf hbD e))) (fun y s₄ h₄ => ?_) fun _ _ e => e.elim
    obtain ⟨⟨c, o, rfl, hc, ho, hH⟩, h₄, tk₄, rfl, hk₄⟩ := h₄
    have hcl : cenv.locals + 1 ≤ c := Nat.le_trans (ns_lt hn₂) hc
    have hM₄ : MadeAt (cenv.locals + 1) H h₄ (ys.toList ++ [.ref c]) := (hM₂.keeps fun b o _ e => hk₄ b o e).snoc hcl ho (by rw [Array.length_toList]; exact hH)
    refine wpAny_list_append_plain (hsz := by omega) (hacc'.at fun o e => hk₄ _ o (up₂ D o hDC hDw e)) fun h₅ hl₅ hs₅ => ?_
    refine ⟨n + 1 - (ys.size + 1), by omega, h₅, tk₄, _, ys.push (.ref c), rfl, ?_, hl₅, (hn₂.keeps hk₄).sameBut hs₅ (Ne.symm hDC), ?_, (by rw [Array.size_push]; exact hlt), (by rw [Array.size_push]),
      fun b o hbC hbf hbD e => hs₅.extBut b o hbD (hk₄ b o (up₂ b o hbC hbf (hk b o hbC hbf hbD e)))⟩
    · rw [Array.size_push]
      exact W.frame _ _ h₅ hst₂ fun b hb o e => hs₅.extBut b o (fun h => hDf (h ▸ hb)) (hk₄ b o e)
    · rw [Array.toList_push]
      exact hM₄.keeps fun b o hb e => hs₅.extBut b o (fun h => Nat.lt_irrefl _ (Nat.lt_trans hDl (h ▸ hb))) e
  · have hin : ys.size = n := by omega
    refine W.done _ _ _ (hin ▸ hst') fun h₁ tk₁ hk₁ => ?_
    exact hR h₁ tk₁ m' ys (hn'.at' fun o e => hk₁ _ o hCw e) (hacc'.at fun o e => hk₁ _ o hDw e) hin (up hk₁) fun b o hbC hbf hbD e => hk₁ b o hbf (hk b o hbC hbf hbD e)

/-- a comprehension over a range whose elements are objects that the turns make -/
theorem ListComp_made {elt iter : PySem.Expr} {x : PySem.Str} {px : Pos} {scope : Scope} {cl : List (PySem.Str × Addr)} {pos : Pos} {Q : Value → Shared → Prop} (H : Nat → Obj → Prop)
    (hh : A.handled = none) (hclos : closureFor scope env = pure cl) (hcell : ∀ y ∈ scope.names, y.2 ≠ .cell) (hkind : scope.kind = .function)
    (hnames : ∀ y ∈ scope.names, y.2 = .local → scope.names.lookup y.1 = some .local) (hx : scope.names.lookup x = some .local)
    (h : wpAny (model prog w) A (eval iter env) (fun xv s₁ => ∃ r a₀ b₀ c₀ t₀ u₀ v₀, ∃ n : Nat, xv = .ref r ∧ IsRange s₁.heap r a₀ b₀ c₀ t₀ u₀ v₀ ∧ Builtin.Range.small a₀ b₀ c₀ = true ∧ Builtin.Range.rangeSize a₀ b₀ c₀ = (n : Int) ∧ n ≤ sizeLine ∧
      (∀ C i t s₂ m₂, s₁.heap.objs.size ≤ C → i < n → s₂.heap.Ns C m₂ → m₂ x = some (.int (a₀ + (i : Nat) * c₀) t) → (∀ b o, s₁.heap.get? b = some o → s₂.heap.get? b = some o) →
        wpAny (model prog w) A (eval elt (compEnvC scope cl C env)) (fun y s₃ => (∃ c o, y = .ref c ∧ s₂.heap.objs.size ≤ c ∧ s₃.heap.get? c = some o ∧ H i o) ∧ Keeps s₂ s₃) (fun _ _ => False) s₂) ∧
      (∀ D (ys : Array Value) h' tk, s₁.heap.objs.size ≤ D → h'.PlainList D ys → ys.size = n → MadeAt (s₁.heap.objs.size) H h' ys.toList → (∀ b o, s₁.heap.get? b = some o → h'.get? b = some o) → Q (.ref D) { s₁ with heap := h', toks := tk })) E s)
    (hs : ∀ x, foldedSetIterable iter env x = pure x) :
    wpAny (model prog w) A (eval (.ListComp elt [⟨.Name x px, iter, [], 0⟩] scope pos) env) Q E s := by
  rw [eval_ListComp]
  refine wpAny_comprehension_free (use := none) rfl hs hclos hkind hnames (wpAny_mono h (fun xv s₁ h₁ => ?_) fun _ _ e => e)
  obtain ⟨r, a₀, b₀, c₀, t₀, u₀, v₀, n, rfl, hr, hsmall, hn, hsz, helt, hQ⟩ := h₁
  refine wpAny_pyIter_range hr hsmall ?_
  rw [hn]
  generalize hs2 : ({ s₁ with heap := s₁.heap.push { cls := .type "range_iterator", data := .fields #[rawInt a₀, rawInt (n : Int), rawInt c₀] } } : Shared) = s₂
  have hz2 : s₂.heap.objs.size = s₁.heap.objs.size + 1 := by rw [← hs2]; exact Heap.size_push ..
  have hk2 : ∀ b o, s₁.heap.get? b = some o → s₂.heap.get? b = some o := fun b o e => by rw [← hs2]; exact Heap.get?_push_of_some _ e
  have hit : IsRangeIter s₂.heap s₁.heap.objs.size (a₀ + ((0 : Nat) : Int) * c₀) ((n : Int) - ((0 : Nat) : Int)) c₀ := by
    rw [← hs2]
    show IsRangeIter _ _ _ _ _
    simpa using Heap.get?_push_size _ rfl
  refine wpAny_newObj_type (wpAny_newFunctionEnv hcell (by intro y hy; simp at hy) (fun h₁ hns₁ hsb₁ => ?_) hkind)
  dsimp only at hns₁ hsb₁ ⊢
  generalize hH2 : s₂.heap.push { cls := .type "list", dict := none, data := .seq ([] : List Value).toArray } = H2 at hns₁ hsb₁ ⊢
  have hC : H2.objs.size = s₂.heap.objs.size + 1 := by rw [← hH2, Heap.size_push]
  have hDC : s₂.heap.objs.size < H2.objs.size := by rw [hC]; exact Nat.lt_succ_self _
  have hIC : s₁.heap.objs.size < H2.objs.size := by omega
  have old : ∀ b o, s₂.heap.get? b = some o → h₁.get? b = some o := fun b o e =>
    hsb₁.extBut b o (Nat.ne_of_lt (Nat.lt_trans (Heap.lt_size e) hDC)) (Heap.get?_push_of_some _ (hH2 ▸ Heap.get?_push_of_some _ e))
  have hacc : h₁.PlainList s₂.heap.objs.size #[] := ⟨_, hsb₁.extBut _ _ (Nat.ne_of_lt hDC) (Heap.get?_push_of_some _ (hH2 ▸ Heap.get?_push_size _ rfl))⟩
  have W := Walks.range (prog := prog) (w := w) (A := A) hh s₁.heap.objs.size a₀ c₀ n
  have hst₁ := W.frame 0 _ h₁ hit fun b _ o e => old b o e
  have loop : ∀ s₃ : Shared, s₃ = { s₂ with heap := h₁, toks := s₂.toks + ([] : List (PySem.Str × Value)).length } →
      codeAny (model prog w) A (.compLoop (.ListComp elt [⟨.Name x px, iter, [], 0⟩] scope pos) 0 (.ref s₁.heap.objs.size) (.ref s₂.heap.objs.size) (compEnvC scope cl H2.objs.size env))
        (compPost (model prog w) A E none Q (.ref s₂.heap.objs.size) H2.objs.size) s₃ := by
    rintro s₃ rfl
    refine codeAny_compLoop_made (cenv := compEnvC scope cl H2.objs.size env) W H (lookup_relabel_local hx) (by simp [compEnvC, relabel, hkind]) ?_ ?_ hDC ?_ hst₁ hacc hns₁
      (fun i v s₃ m₃ hP hi hn' hm hk => ?_) (fun h' tk m' ys hn' hpl hlen hM hk => ?_) hsz
    · intro hb
      exact Nat.ne_of_gt (by omega : s₁.heap.objs.size < s₂.heap.objs.size) (List.mem_singleton.1 hb)
    · intro hb
      exact Nat.ne_of_gt hIC (List.mem_singleton.1 hb)
    · intro b hb
      have h := List.mem_singleton.1 hb
      rw [h]
      exact hIC
    · obtain ⟨t, rfl⟩ := hP
      refine helt _ i t s₃ m₃ (by omega) hi hn' hm fun b o e => hk b o ?_ ?_ ?_ (old b o (hk2 b o e))
      · exact Nat.ne_of_lt (Nat.lt_trans (Heap.lt_size e) hIC)
      · intro hb
        exact Nat.ne_of_lt (Heap.lt_size e) (List.mem_singleton.1 hb)
      · exact Nat.ne_of_lt (Nat.lt_of_lt_of_le (Heap.lt_size e) (by omega))
    · refine ⟨m', hn', fun h'' hs'' => ?_⟩
      have keep : ∀ b o, s₁.heap.get? b = some o → h''.get? b = some o := fun b o e => by
        have h1 : b ≠ H2.objs.size := Nat.ne_of_lt (Nat.lt_trans (Heap.lt_size e) hIC)
        refine hs''.extBut b o h1 (hk b o h1 ?_ (Nat.ne_of_lt (Nat.lt_of_lt_of_le (Heap.lt_size e) (by omega))) (old b o (hk2 b o e)))
        intro hm
        exact Nat.ne_of_lt (Heap.lt_size e) (List.mem_singleton.1 hm)
      have hz : s₂ = { s₁ with heap := s₂.heap } := by rw [← hs2]
      have fin := hQ s₂.heap.objs.size ys h'' tk (by omega) (hpl.at fun o e => hs''.extBut _ _ (Nat.ne_of_lt hDC) e) hlen
        ((hM.keeps fun b o hb e => hs''.extBut b o (fun h => Nat.lt_irrefl _ (h ▸ hb)) e).down (by show s₁.heap.objs.size ≤ H2.objs.size + 1; omega)) keep
      rw [hz]
      exact fin
  exact codeAny_compStart_list (loop _ rfl) (W.self 0 _ _ _ hst₁ (loop _ rfl))
end
end Mine
end
section
open PySem PySem.W PySem.Calls PyProof.Rows
open Builtin
namespace Mine
namespace BaI
theorem slot_next : Slot "bytearray_iterator" "__next__" "bytearray_iterator.__next__" :=
  .of (owner := "bytearray_iterator") (n := "__next__") (by rw [typeLookup_type, builtinLookup_eq_fast]; kernel_rfl) (by decide +kernel) (by decide +kernel) (by decide +kernel)
    (by first | exact .inl (by decide +kernel) | exact .inr (by decide +kernel)) (by rw [isSubtype_type]; kernel_rfl)
theorem slot_self : Slot "bytearray_iterator" "__iter__" "bytearray_iterator.__iter__" :=
  .of (owner := "bytearray_iterator") (n := "__iter__") (by rw [typeLookup_type, builtinLookup_eq_fast]; kernel_rfl) (by decide +kernel) (by decide +kernel) (by decide +kernel)
    (by first | exact .inl (by decide +kernel) | exact .inr (by decide +kernel)) (by rw [isSubtype_type]; kernel_rfl)
theorem slot_iter : Slot "bytearray" "__iter__" "bytearray.__iter__" :=
  .of (owner := "bytearray") (n := "__iter__") (by rw [typeLookup_type, builtinLookup_eq_fast]; kernel_rfl) (by decide +kernel) (by decide +kernel) (by decide +kernel)
    (by first | exact .inl (by decide +kernel) | exact .inr (by decide +kernel)) (by rw [isSubtype_type]; kernel_rfl)
theorem entry_next : entryFor table "bytearray_iterator.__next__" = some Builtin.«bytearray_iterator.__next__» := entryFor_of_tree (by kernel_rfl)
theorem entry_self : entryFor table "bytearray_iterator.__iter__" = some Builtin.«dict_keyiterator.__iter__» := entryFor_alias (id' := "dict_keyiterator.__iter__") (by kernel_rfl) rfl (by decide +kernel) (by kernel_rfl)
theorem entry_iter : entryFor table "bytearray.__iter__" = some Builtin.«bytearray.__iter__» := entryFor_of_tree (by kernel_rfl)
theorem args_next (a : Value) : argsOk "bytearray_iterator.__next__" ⟨[a], []⟩ := by unfold argsOk; kernel_rfl
theorem args_self (a : Value) : argsOk "bytearray_iterator.__iter__" ⟨[a], []⟩ := by unfold argsOk; kernel_rfl
theorem args_iter (a : Value) : argsOk "bytearray.__iter__" ⟨[a], []⟩ := by unfold argsOk; kernel_rfl

def IsIter (h : Heap) (I a : Addr) (i : Nat) : Prop := ∃ o, h.get? I = some o ∧ o.cls = .type "bytearray_iterator" ∧ o.data = .fields #[.ref a, .int i 0]
theorem iter_typeIs {s : Shared} {I a : Addr} {i : Nat} (y : IsIter s.heap I a i) : s.TypeIs (.ref I) "bytearray_iterator" := let ⟨o, ho, hc, _⟩ := y; ⟨o, ho, hc⟩
theorem ba_len : typeLookup (.type "bytearray") "__len__" = pure (some (.builtin "bytearray.__len__")) := by rw [typeLookup_type, builtinLookup_eq_fast]; kernel_rfl
theorem b_len : typeLookup (.type "bytes") "__len__" = pure (some (.builtin "bytes.__len__")) := by rw [typeLookup_type, builtinLookup_eq_fast]; kernel_rfl

section
variable {prog : Program} {w : World} {A : Around} {E : Value → Shared → Prop} {s : Shared} {a : Addr} {b : Array UInt8}
theorem pyIter_ba {Q : Value → Shared → Prop} (h : s.heap.get? a = some (baObj b)) (hQ : Q (.ref s.heap.objs.size) { s with heap := s.heap.push { cls := .type "bytearray_iterator", data := .fields #[.ref a, .int 0 0] } }) : wpAny (model prog w) A (pyIter (.ref a)) Q E s := by
  refine wpAny_pyIter_slot (ba_type h) slot_iter (wpAny_call_entry slot_iter (ba_type h) entry_iter ?_ (args_iter _))
  show wpAny _ _ (do ret (← newFields "bytearray_iterator" [.ref a, rawInt 0])) _ _ s
  exact wpAny_bind (wpAny_newObj_type (wpAny_pure ⟨_, rfl, "bytearray_iterator", _, ⟨_, Heap.get?_push_size _ rfl, rfl⟩, slot_next.lookup, hQ⟩))
theorem pyIter_self {it : Addr} {i : Nat} {Q : Value → Shared → Prop} (hit : IsIter s.heap it a i) (h : Q (.ref it) s) : wpAny (model prog w) A (pyIter (.ref it)) Q E s := by
  refine wpAny_pyIter_slot (iter_typeIs hit) slot_self (wpAny_call_entry slot_self (iter_typeIs hit) entry_self ?_ (args_self _))
  show wpAny _ _ (ret (.ref it)) _ _ s
  exact wpAny_pure ⟨_, rfl, "bytearray_iterator", _, iter_typeIs hit, slot_next.lookup, h⟩

theorem next_item {it : Addr} {i : Nat} {c : UInt8} {Q : Option Value → Shared → Prop} (hit : IsIter s.heap it a i) (hb : s.heap.get? a = some (baObj b)) (hx : b[i]? = some c)
    (hQ : ∀ h', IsIter h' it a (i + 1) → Heap.SameBut it s.heap h' → Q (some (.int (c.toNat : Int) s.toks)) { s with heap := h', toks := s.toks + 1 }) : wpAny (model prog w) A (pyNext (.ref it)) Q E s := by
  obtain ⟨o, ho, hc, hd⟩ := id hit
  unfold pyNext
  refine wpAny_bind (wpAny_attempt (wpAny_callSpecial?_slot (name := PySem.Str.ofString "__next__") (iter_typeIs hit) slot_next
    (wpAny_call_entry slot_next (iter_typeIs hit) entry_next ?_ (args_next _))))
  show wpAny _ _ (field (.ref it) 0 >>= _) _ _ s
  refine wpAny_bind (wpAny_field ho hd (x := .ref a) rfl ?_)
  show wpAny _ _ (load a >>= _) _ _ s
  refine wpAny_bind (wpAny_load hb ?_)
  show wpAny _ _ (field (.ref it) 1 >>= _) _ _ s
  refine wpAny_bind (wpAny_field ho hd (x := .int i 0) rfl ?_)
  simp only [Int.toNat_natCast, hx]
  refine wpAny_bind (wpAny_setField ho hd (by simp) (wpAny_bind (wpAny_mkInt (wpAny_pure ⟨_, rfl, wpAny_pure (hQ _ ?_ (Heap.SameBut.update ..))⟩))))
  exact ⟨_, Heap.get?_update_self _ ho (Obj.isFreed_of_fields (Obj.data_mapFields hd _)), (Obj.cls_mapFields ..).trans hc, by
    rw [Obj.data_mapFields hd]; simp [rawInt]⟩

theorem next_end {it : Addr} {i : Nat} {Q : Option Value → Shared → Prop} (hh : A.handled = none) (hit : IsIter s.heap it a i) (hb : s.heap.get? a = some (baObj b)) (hx : b[i]? = none)
    (hQ : ∀ h', Heap.ExtBut it s.heap h' → Q none { s with heap := h' }) : wpAny (model prog w) A (pyNext (.ref it)) Q E s := by
  obtain ⟨o, ho, hc, hd⟩ := id hit
  unfold pyNext
  refine wpAny_bind (wpAny_attempt (wpAny_callSpecial?_slot (name := PySem.Str.ofString "__next__") (iter_typeIs hit) slot_next
    (wpAny_call_entry slot_next (iter_typeIs hit) entry_next ?_ (args_next _))))
  show wpAny _ _ (field (.ref it) 0 >>= _) _ _ s
  refine wpAny_bind (wpAny_field ho hd (x := .ref a) rfl ?_)
  show wpAny _ _ (load a >>= _) _ _ s
  refine wpAny_bind (wpAny_load hb ?_)
  show wpAny _ _ (field (.ref it) 1 >>= _) _ _ s
  refine wpAny_bind (wpAny_field ho hd (x := .int i 0) rfl ?_)
  simp only [Int.toNat_natCast, hx]
  refine wpAny_bind (wpAny_rule (wpAny_bind (wpAny_setField ho hd (by simp) ?_)))
  refine wpAny_bind (wpAny_letGo ?_)
  show wpAny _ _ (newExc (.type "StopIteration") [] >>= _) _ _ _
  refine wpAny_bind ?_
  simp only [newExc, newTuple]
  refine wpAny_bind (wpAny_newObj_type ?_ (by size_fits))
  refine wpAny_bind (m := firstArgMember _ _) (wpAny_of_eq (a := Value.none) (by first | rfl | (simp only [firstArgMember]; rfl)) ?_)
  refine wpAny_newObj_type ?_ (by size_fits)
  simp only [raiseNew]
  refine wpAny_bind (wpAny_handled ?_)
  rw [show A.in1.handled = none from hh]
  refine wpAny_bind (wpAny_pure (wpAny_throw ?_))
  refine wpAny_bind (wpAny_isInstance (T := "StopIteration") (b := true) ⟨_, Heap.get?_push_size _ rfl, rfl⟩ isSubtype_stop ?_)
  exact wpAny_pure (hQ _ (((Heap.SameBut.update ..).extBut.push _).push _))
end

theorem walks {prog : Program} {w : World} {A : Around} (hh : A.handled = none) (I a : Addr) (hne : a ≠ I) (b : Array UInt8) :
    Walks prog w A I [I, a] [I] b.size (fun i v => ∃ c u, b[i]? = some c ∧ v = .int (c.toNat : Int) u) (fun i h => IsIter h I a i ∧ h.get? a = some (baObj b)) where
  sub := fun b hb => by simp at hb; simp [hb]
  frame := fun _ _ _ st hk => ⟨let ⟨o, ho, r⟩ := st.1; ⟨o, hk I (by simp) o ho, r⟩, hk a (by simp) _ st.2⟩
  item := fun i s Q E hi st hQ => by
    refine next_item st.1 st.2 (c := b[i]) (by simp [hi]) fun h' hit' hs' => ?_
    exact hQ _ h' (s.toks + 1) ⟨_, _, by simp [hi], rfl⟩ ⟨hit', hs'.extBut a _ hne st.2⟩ fun b o hb e => hs'.extBut b o (fun h => hb (by simp [h])) e
  done := fun s Q E st hQ => next_end hh st.1 st.2 (by simp) fun h' he' => hQ h' s.toks fun b o hb e => he' b o (fun h => hb (by simp [h])) e
  self := fun _ _ _ _ st hQ => pyIter_self st.1 hQ
end BaI

section
variable {prog : Program} {w : World} {A : Around} {E : Value → Shared → Prop} {s : Shared}

theorem extend_any {R : Result → Shared → Prop} {v : Value} {T id owner rest : String} {S : Addr} {res : Value} {c₀ n : Nat} {P : Nat → Value → Prop} {St : Nat → Heap → Prop} {fp : List Addr} {o : Obj} (hh : A.handled = none)
    (hT : s.TypeIs v T) (hT2 : ({ s with heap := s.heap.push o } : Shared).TypeIs v T) (hsame : Builtin.List.listSameRef (.ref S) v = false) (h2 : (Value.type T == Value.type "list") = false) (h3 : (Value.type T == Value.type "tuple") = false)
    (hlen : typeLookup (.type T) "__len__" = pure (some (.builtin id)))
    (hit : ∀ Q : Value → Shared → Prop, ∀ E', Q (.ref s.heap.objs.size) { s with heap := s.heap.push o } → wpAny (model prog w) A.in1 (pyIter v) Q E' s)
    (hhint : ∀ Q : Bool → Shared → Prop, ∀ E', Q false { s with heap := s.heap.push o } → wpAny (model prog w) A.in1 (Builtin.List.listLengthHint v) Q E' { s with heap := s.heap.push o })
    (hres : T = "bytes" ∨ T = "bytearray")
    (W : Walks prog w A.in1 s.heap.objs.size fp [s.heap.objs.size] n P St) (hst : St 0 (s.heap.push o)) (hSf : S ∉ fp)
    (hS : s.heap.get? S = some { cls := .type "list", data := .seq #[] c₀ })
    (hR : ∀ h' tk acc' c', (∀ b o, b ≠ S → s.heap.get? b = some o → h'.get? b = some o) → h'.get? S = some { cls := .type "list", dict := none, data := .seq acc' c', slots := #[] } →
      ItemsOf P acc' n → R (.ok (.ret res)) { s with heap := h', toks := tk }) (hn : n ≤ sizeLine) :
    wpAny (model prog w) A.in1 (Builtin.List.listExtendWith (.ref S) v res)
      (fun fin s' => match fin with | .done f => R (.ok f) s' | .again c' => c'.quiet = true ∧ codeAny (model prog w) A c' R s') (fun e s' => R (.error e) s') s := by
  unfold Builtin.List.listExtendWith
  refine wpAny_bind (wpAny_typeOf hT ?_)
  simp only [hsame, h2, h3, Bool.or_false, Bool.false_eq_true, if_false]
  refine wpAny_bind (hit _ _ ?_)
  refine wpAny_bind (wpAny_holding (hhint _ _ ?_))
  rcases hres with rfl | rfl
  all_goals
    rw [if_neg (by decide)]
    refine wpAny_pure ⟨plainId_quiet F.plain_extend_loop _, codeAny_extend_loopS W.toS hn _ hSf _ n 0 _ _ _ rfl (Nat.zero_le _) hst (Heap.get?_push_of_some _ hS) (ItemsOf.nil _) fun s' acc' c' hm hS' hacc => ?_⟩
    rw [Moved.eq_with hm]
    refine hR s'.heap s'.toks acc' c' (fun b ob hb e => hm.heap b ob (fun hmem => ?_) (Heap.get?_push_of_some _ e)) hS' hacc
    rcases List.mem_cons.mp hmem with e' | hmem
    · exact hb e'
    · exact absurd (Heap.lt_size e) (by rw [List.mem_singleton.mp hmem]; exact Nat.lt_irrefl _)

theorem hint_b {b : Array UInt8} {t : Tok} {Q : Bool → Shared → Prop} (hQ : Q false s) : wpAny (model prog w) A (Builtin.List.listLengthHint (.bytes b t)) Q E s := by
  unfold Builtin.List.listLengthHint
  refine wpAny_bind (wpAny_specialOf (typeIs_bytes s b t) BaI.b_len ?_)
  wp_delta
  refine wpAny_bind (wpAny_isInstance (T := "bytes") (b := true) (typeIs_bytes s b t) (by rw [isSubtype_type]; kernel_rfl) ?_)
  show wpAny _ _ (typeOf (Value.bytes b t) >>= _) _ _ _
  refine wpAny_bind (wpAny_typeOf (typeIs_bytes s b t) ?_)
  exact wpAny_pure hQ
theorem hint_ba {a : Addr} {b : Array UInt8} {Q : Bool → Shared → Prop} (h : s.heap.get? a = some (baObj b)) (hQ : Q false s) : wpAny (model prog w) A (Builtin.List.listLengthHint (.ref a)) Q E s := by
  unfold Builtin.List.listLengthHint
  refine wpAny_bind (wpAny_specialOf (ba_type h) BaI.ba_len ?_)
  wp_delta
  refine wpAny_bind (wpAny_isInstance (T := "bytearray") (b := true) (ba_type h) (by rw [isSubtype_type]; kernel_rfl) ?_)
  show wpAny _ _ (typeOf (Value.ref a) >>= _) _ _ _
  refine wpAny_bind (wpAny_typeOf (ba_type h) ?_)
  exact wpAny_pure hQ

theorem init_any {R : Result → Shared → Prop} {v : Value} {S : Addr} (hS : s.heap.get? S = some { cls := .type "list", data := .seq #[] })
    (hext : ∀ s₁ : Shared, s₁ = { s with heap := s.heap.update S (Obj.mapSeq (fun _ => (#[] : Array Value))) } →
      wpAny (model prog w) A.in1 (Builtin.List.listExtendWith (.ref S) v .none)
        (fun fin s' => match fin with | .done f => R (.ok f) s' | .again c' => c'.quiet = true ∧ codeAny (model prog w) A c' R s') (fun e s' => R (.error e) s') s₁) :
    wpAny (model prog w) A.in1 (Builtin.«list.__init__» ⟨[.ref S, v], []⟩)
      (fun fin s' => match fin with | .done f => R (.ok f) s' | .again c' => c'.quiet = true ∧ codeAny (model prog w) A c' R s') (fun e s' => R (.error e) s') s := by
  show wpAny _ _ (do let old ← Builtin.List.listItems (.ref S); Builtin.List.listUpdate (.ref S) (fun _ => #[]); letGo old.toList.reverse; Builtin.List.listExtendWith (.ref S) v .none) _ _ s
  refine wpAny_bind ?_
  unfold Builtin.List.listItems
  refine wpAny_bind (wpAny_seqItems hS rfl (wpAny_pure ?_))
  show wpAny _ _ (updateSeq S (fun _ => #[]) >>= fun _ => letGo (#[] : Array Value).toList.reverse >>= fun _ => Builtin.List.listExtendWith (.ref S) v .none) _ _ s
  refine wpAny_bind (wpAny_updateSeq hS rfl ?_)
  exact wpAny_bind (wpAny_letGo (hext _ rfl))

/-- list(bytes) and list(bytearray) -/
theorem call_list_buf {v : Value} {b : Array UInt8} {Q : Value → Shared → Prop} (hh : A.handled = none) (hv : IsBuf s.heap v b) (hz : b.size ≤ sizeLine)
    (hQ : ∀ h' tk (ys : List Value) c', (∀ b o, s.heap.get? b = some o → h'.get? b = some o) →
      h'.get? s.heap.objs.size = some (listOf ys.toArray c') → IntsAre ys (KBw.bInts b) → Q (.ref s.heap.objs.size) { s with heap := h', toks := tk }) :
    wpAny (model prog w) A (call (.type "list") [v]) Q E s := by
  refine callType_codes (Q₁ := fun obj s₁ => obj = .ref s.heap.objs.size ∧ s₁ = { s with heap := s.heap.push { cls := .type "list", data := .seq #[] } }) F.called_list (F.typeCall_list_1 _) F.entry_list_init
    (code_list_new _ ⟨rfl, rfl⟩) fun obj s₁ h₁ => ?_
  obtain ⟨rfl, rfl⟩ := h₁
  have hS : (s.heap.push { cls := .type "list", data := .seq #[] }).get? s.heap.objs.size = some { cls := .type "list", data := .seq #[] } := Heap.get?_push_size _ rfl
  have fin : ∀ (h' : Heap) (tk : Nat) (acc' : Array Value) (c' : Nat), (∀ b o, s.heap.get? b = some o → h'.get? b = some o) → h'.get? s.heap.objs.size = some { cls := .type "list", dict := none, data := .seq acc' c', slots := #[] } →
      ItemsOf (fun i v => ∃ c u, b[i]? = some c ∧ v = .int (c.toNat : Int) u) acc' b.size → Q (.ref s.heap.objs.size) { s with heap := h', toks := tk } := fun h' tk acc' c' hk hg hacc => by
    refine hQ h' tk acc'.toList c' hk (by rw [Array.toArray_toList]; exact hg) (IntsAre.ofCarried (carriedAll_of_get _ _ (by simp [hacc.1, KBw.ints_length]) fun j v hv => ?_))
    obtain ⟨c, u, hc, rfl⟩ := hacc.2 j v (by simpa using hv)
    exact ⟨.int (c.toNat : Int), by rw [List.getElem?_map, KBw.ints_get hc]; rfl, .int _ _⟩
  refine ⟨⟨_, hS, rfl⟩, F.args_list_init_2 _ _, init_any (A := A.in1) hS ?_⟩
  rintro s₁ rfl
  have hS₂ := Heap.get?_update_self (Obj.mapSeq (fun _ => (#[] : Array Value))) hS rfl
  have oth : ∀ b o, s.heap.get? b = some o → ((s.heap.push { cls := .type "list", data := .seq #[] }).update s.heap.objs.size (Obj.mapSeq (fun _ => (#[] : Array Value)))).get? b = some o :=
    fun b o e => (Heap.get?_update_other _ _ (Ne.symm (Nat.ne_of_lt (Heap.lt_size e)))).trans (Heap.get?_push_of_some _ e)
  have hne := Nat.ne_of_lt (Heap.lt_size hS₂)
  rcases hv with ⟨t, rfl⟩ | ⟨a, rfl, ha⟩
  · refine extend_any (T := "bytes") (id := "bytes.__len__") (owner := "") (rest := "") (P := fun i v => ∃ c u, b[i]? = some c ∧ v = .int (c.toNat : Int) u) hh (typeIs_bytes _ b t) (typeIs_bytes _ b t) rfl (by decide) (by decide) BaI.b_len
      (fun Q E' h => KBw.pyIter_bytes h) (fun Q E' h => hint_b h) (.inl rfl) (KBw.walks (A := A.in1.in1) hh _ b t) ⟨_, Heap.get?_push_size _ rfl, rfl, rfl⟩ (fun hm => hne (List.mem_singleton.1 hm)) hS₂ ?_ hz
    intro h' tk acc' c' hk hg hacc
    exact ⟨rfl, fin h' tk acc' c' (fun b o e => hk b o (Nat.ne_of_lt (Heap.lt_size e)) (oth b o e)) hg hacc⟩
  · have ha₁ := oth _ _ ha
    have ha₂ := Heap.get?_push_of_some { cls := .type "bytearray_iterator", data := .fields #[.ref a, .int 0 0] } ha₁
    have haS : s.heap.objs.size ≠ a := Ne.symm (Nat.ne_of_lt (Heap.lt_size ha))
    refine extend_any (T := "bytearray") (id := "bytearray.__len__") (owner := "") (rest := "") (P := fun i v => ∃ c u, b[i]? = some c ∧ v = .int (c.toNat : Int) u) hh (ba_type ha₁) (ba_type ha₂) (by simp [Builtin.List.listSameRef, haS]) (by decide) (by decide) BaI.ba_len
      (fun Q E' h => BaI.pyIter_ba ha₁ h) (fun Q E' h => hint_ba ha₂ h) (.inr rfl) (BaI.walks (A := A.in1.in1) hh _ a (Nat.ne_of_lt (Heap.lt_size ha₁)) b) ⟨⟨_, Heap.get?_push_size _ rfl, rfl, rfl⟩, ha₂⟩ ?_ hS₂ ?_ hz
    · intro hm
      rcases List.mem_cons.1 hm with e | hm
      · exact hne e
      · exact haS (List.mem_singleton.1 hm)
    intro h' tk acc' c' hk hg hacc
    exact ⟨rfl, fin h' tk acc' c' (fun b o e => hk b o (Nat.ne_of_lt (Heap.lt_size e)) (oth b o e)) hg hacc⟩
end
end Mine
end
section
open PySem PySem.W PySem.Calls PyProof.Rows
namespace Mine
section
variable {w : World} {mg mb : PySem.Str → Option Value} {mean : ExcName → Option Value} {loose : List PySem.Str} {dp un : Nat} {gd : Option (List Code)} {outer : List Env} {base h₀ : Heap} {s : Shared} {env : Env} {m : PySem.Str → Option Value} {news : List (Addr × Obj)}
  {Q : Value → Shared → Prop} {E : Value → Shared → Prop}
theorem useC_written {lp ls : Addr} {vs us : List Value} {ns ms : List Int} (B : Below (AA dp un gd outer) base outer h₀) (F : Fr h₀ env.locals s.heap m) (N : News h₀ env.locals s.heap news) (KX : (Mine.Head.hd.heap_39 w.params).In h₀) (T : Top Mine.Head.hd.view_39 loose mean mg mb h₀)
    (hlp : s.heap.IsList lp vs.toArray) (hip : IntsAre vs ns) (hnp : ns.length ≤ 66) (hrp : ∀ n ∈ ns, 0 ≤ n ∧ n < 256)
    (hls : s.heap.IsList ls us.toArray) (his : IntsAre us ms) (hns : ms.length = 64) (hrs : ∀ n ∈ ms, 0 ≤ n ∧ n < 256) (hd : dp + 6 < recursionLimit) (hu : un + 20 < cLine) (hk : env.scope.kind = .function) (hf : env.frame = some env.locals)
    (h : ∀ h' tk' t, Fr h₀ env.locals h' m → News h₀ env.locals h' news → Q (.bytes (writtenB ns ms) t) { s with heap := h', toks := tk' }) :
    wpAny (model Challenge.rw_io0040_01.row.prog w) ((AA dp un gd outer).deeper env) (call (.ref 58) [.ref lp, .ref ls]) Q E s :=
  wpAny_call (written_call (dp := dp + 1) (un := un + 3) (gd := gd) (outer := env :: outer) (pushX B F hf hk) (KX.keeps F.keep) (T.keeps F.keep) hlp hip hnp hrp hls his hns hrs (by omega) (by omega) fun h' tk' t hk' => h h' tk' t (F.keptAll hk') (N.grown hk'))
theorem useC_enc1 {v : Value} {b : Array UInt8} (B : Below (AA dp un gd outer) base outer h₀) (F : Fr h₀ env.locals s.heap m) (N : News h₀ env.locals s.heap news) (KX : (Mine.Head.hd.heap_39 w.params).In h₀) (T : Top Mine.Head.hd.view_39 loose mean mg mb h₀)
    (hv : IsBuf s.heap v b) (hz : b.size ≤ 66) (hd : dp + 12 < recursionLimit) (hu : un + 40 < cLine) (hk : env.scope.kind = .function) (hf : env.frame = some env.locals)
    (h : ∀ h' tk' t, Fr h₀ env.locals h' m → News h₀ env.locals h' news → IsBuf h' v b → Q (.bytes (b2aB b) t) { s with heap := h', toks := tk' }) :
    wpAny (model Challenge.rw_io0040_01.row.prog w) ((AA dp un gd outer).deeper env) (call (.ref 51) [v]) Q E s :=
  wpAny_call (enc1_call (dp := dp + 1) (un := un + 3) (gd := gd) (outer := env :: outer) (pushX B F hf hk) (KX.keeps F.keep) (T.keeps F.keep) hv hz (by omega) (by omega) fun h' tk' t hk' => h h' tk' t (F.keptAll hk') (N.grown hk') (hv.keeps hk'))
theorem useC_enc2 {v : Value} {b alt : Array UInt8} {ta : Tok} (B : Below (AA dp un gd outer) base outer h₀) (F : Fr h₀ env.locals s.heap m) (N : News h₀ env.locals s.heap news) (KX : (Mine.Head.hd.heap_39 w.params).In h₀) (T : Top Mine.Head.hd.view_39 loose mean mg mb h₀)
    (hv : IsBuf s.heap v b) (hz : b.size ≤ 66) (ha : alt.size = 2) (hd : dp + 12 < recursionLimit) (hu : un + 40 < cLine) (hk : env.scope.kind = .function) (hf : env.frame = some env.locals)
    (h : ∀ h' tk' t, Fr h₀ env.locals h' m → News h₀ env.locals h' news → IsBuf h' v b → Q (.bytes (trans (b2aB b) (mkTab #[43, 47] alt)) t) { s with heap := h', toks := tk' }) :
    wpAny (model Challenge.rw_io0040_01.row.prog w) ((AA dp un gd outer).deeper env) (call (.ref 51) [v, .bytes alt ta]) Q E s :=
  wpAny_call (enc2_call (dp := dp + 1) (un := un + 3) (gd := gd) (outer := env :: outer) (pushX B F hf hk) (KX.keeps F.keep) (T.keeps F.keep) hv hz ha (by omega) (by omega) fun h' tk' t hk' => h h' tk' t (F.keptAll hk') (N.grown hk') (hv.keeps hk'))
theorem useC_list {v : Value} {b : Array UInt8} {A : Around} {prog : Program} {L : Addr} (F : Fr h₀ L s.heap m) (N : News h₀ L s.heap news) (hh : A.handled = none) (hv : IsBuf s.heap v b) (hz : b.size ≤ 66)
    (h : ∀ D ys c h' tk, Fr h₀ L h' m → News h₀ L h' ((D, listOf (List.toArray ys) c) :: news) → IntsAre ys (KBw.bInts b) → IsBuf h' v b → Q (.ref D) { s with heap := h', toks := tk }) : wpAny (model prog w) A (call (.type "list") [v]) Q E s :=
  call_list_buf hh hv (by rw [sizeLine_eq]; omega) fun h' tk ys c hk hg hi => h _ ys c h' tk (F.keptAll hk) (fun p hp => by
    rcases List.mem_cons.1 hp with rfl | hp
    · exact ⟨hg, Ne.symm (Nat.ne_of_lt F.ns.lt), by
        cases e : h₀.get? s.heap.objs.size with
        | none => rfl
        | some o => exact absurd (Heap.lt_size (F.keep _ _ e)) (Nat.lt_irrefl _)⟩
    · exact N.grown hk p hp) hi (hv.keeps hk)
end
end Mine
end
section
open PySem PySem.W PySem.Calls PyProof.Rows
namespace Mine
section
variable {M : Model} {A : Around} {E : Value → Shared → Prop} {s : Shared} {env : Env}
theorem wpG_spliced_nil {Q : List Value → Shared → Prop} (h : Q [] s) : wpG M A (spliced []) Q E s := wpG_pure h
theorem wpG_spliced_cons {x : Sem Value} {rest : List (Bool × Sem Value)} {Q : List Value → Shared → Prop}
    (h : wpG M A x (fun v s₁ => wpG M A (spliced rest) (fun vs s₂ => Q (v :: vs) s₂) E s₁) E s) : wpG M A (spliced ((false, x) :: rest)) Q E s := by
  rw [spliced]
  refine wpG_bind (wpG_mono h (fun v s₁ h₁ => ?_) fun _ _ x => x)
  simp only [Bool.false_eq_true, if_false]
  exact wpG_bind (wpG_pure (wpG_bind (wpG_holding (wpG_mono h₁ (fun vs s₂ h₂ => wpG_pure h₂) fun _ _ x => x))))
theorem wpG_Tuple2 {e1 e2 : PySem.Expr} {k : Nat} {pos : Pos} {Q : Value → Shared → Prop}
    (h : wpG M A (eval e1 env) (fun v1 s₁ => wpG M A (eval e2 env) (fun v2 s₂ => wpAny M A (newTuple [v1, v2]) Q E s₂) E s₁) E s)
    (he : backTo pos (starEach [e1, e2] env) = [(false, eval e1 env), (false, eval e2 env)] := by rfl) : wpG M A (eval (.Tuple [e1, e2] k pos) env) Q E s := by
  rw [arm_eval_Tuple, he]
  refine wpG_then (wpAny_standAt (wpG_bind (wpG_spliced_cons (wpG_mono h (fun v1 s₁ h₁ => ?_) fun _ _ x => x))))
  exact wpG_spliced_cons (wpG_mono h₁ (fun v2 s₂ h₂ => wpG_spliced_nil (wpG_of h₂)) fun _ _ x => x)
theorem wpG_Call_type1 {T : String} {x : PySem.Str} {p pos : Pos} {e : PySem.Expr} {Q : Value → Shared → Prop}
    (h : wpAny M A (eval (.Name x p) env) (fun f s₁ => f = .type T ∧ wpAny M A (eval e env) (fun v s₂ => wpG M A (call (.type T) [v]) Q E s₂) E s₁) E s)
    (he : backTo pos (starEach [e] env) = [(false, eval e env)] := by rfl) : wpG M A (eval (.Call (.Name x p) [e] [] pos) env) Q E s := by
  rw [arm_eval_Call_Name', he]
  refine wpG_then (wpAny_mono h (fun f s₁ h₁ => ?_) fun _ _ x => x)
  obtain ⟨rfl, h₁⟩ := h₁
  unfold callWith
  refine wpG_then (wpAny_holding (evalArgs_plain (spliced_cons (wpAny_mono h₁ (fun v s₂ h₂ => spliced_nil ?_) fun _ _ x => x))))
  refine wpG_then (wpAny_standAt ?_)
  simp only [List.any_cons, List.any_nil, Bool.or_false]
  refine wpG_bind (wpG_pure ?_)
  exact wpG_bind (wpG_mono h₂ (fun r s₃ hr => wpG_then (wpAny_holding (wpAny_point (wpG_pure hr)))) fun _ _ x => x)
end
section
variable {prog : Program} {w : World} {A : Around} {E : Value → Shared → Prop} {s : Shared} {h₀ : Heap} {L : Addr} {m : PySem.Str → Option Value} {news : List (Addr × Obj)}
theorem oldFresh {h h₀ : Heap} {L : Addr} {m : PySem.Str → Option Value} (F : Fr h₀ L h m) (a : Addr) (ha : h.objs.size ≤ a) : h₀.get? a = none := by
  cases e : h₀.get? a with
  | none => rfl
  | some o => exact absurd (Heap.lt_size (F.keep _ _ e)) (Nat.not_lt.mpr ha)
/-- a written tuple and a walk over it -/
theorem tuple_iter {items : List Value} {Q : Value → Shared → Prop} (F : Fr h₀ L s.heap m) (N : News h₀ L s.heap news) (hz : items.length ≤ 8)
    (h : ∀ T I h', Fr h₀ L h' m → News h₀ L h' ((T, { cls := .type "tuple", data := .seq items.toArray }) :: news) →
      (∀ p ∈ ((T, { cls := .type "tuple", data := .seq items.toArray }) :: news : List (Addr × Obj)), p.1 ≠ I) → h'.IsTupleIter I T 0 → I ≠ L → h₀.get? I = none → Q (.ref I) { s with heap := h' }) :
    wpAny (model prog w) A (newTuple items) (fun x s₁ => wpAny (model prog w) A (pyIter x) Q E s₁) E s := by
  refine wpAny_newTuple ?_ (by rw [sizeLine_eq]; omega)
  have F1 := F.push { cls := .type "tuple", data := .seq items.toArray }
  have N1 : News h₀ L (s.heap.push { cls := .type "tuple", data := .seq items.toArray }) ((s.heap.objs.size, { cls := .type "tuple", data := .seq items.toArray }) :: news) := fun p hp => by
    rcases List.mem_cons.1 hp with rfl | hp
    · exact ⟨Heap.get?_push_size _ rfl, Ne.symm (Nat.ne_of_lt F.ns.lt), oldFresh F _ (Nat.le_refl _)⟩
    · exact N.grown (fun b o e => Heap.get?_push_of_some _ e) p hp
  refine wpAny_pyIter_tuple ⟨_, (N1 _ (List.Mem.head _)).1, rfl, _, rfl⟩ ?_
  exact h _ _ _ (F1.push _) (N1.grown fun b o e => Heap.get?_push_of_some _ e) (fun p hp => Nat.ne_of_lt (Heap.lt_size (N1 p hp).1)) ⟨_, Heap.get?_push_size _ rfl, rfl, rfl⟩ (Ne.symm (Nat.ne_of_lt F1.ns.lt)) (oldFresh F1 _ (Nat.le_refl _))
theorem pair_get {h : Heap} {T a : Addr} {b : Array UInt8} {t : Tok} (N : News h₀ L h ((T, { cls := .type "tuple", data := .seq #[Value.bytes b t, Value.ref a] }) :: (a, baObj b) :: news)) (i : Nat) (hi : i < 2) :
    ∃ v, (#[Value.bytes b t, Value.ref a] : Array Value)[i]? = some v ∧ IsBuf h v b := by
  rcases (by omega : i = 0 ∨ i = 1) with rfl | rfl
  · exact ⟨_, rfl, .inl ⟨_, rfl⟩⟩
  · exact ⟨_, rfl, .inr ⟨_, rfl, N.get (List.Mem.tail _ (List.Mem.head _))⟩⟩
theorem signs_len (a b : Int) : ((rangeInts 65 1 ((91 : Int) - 65).toNat ++ rangeInts 97 1 ((123 : Int) - 97).toNat ++ rangeInts 48 1 ((58 : Int) - 48).toNat) ++ [a, b]).length = 64 := by
  rw [List.length_append]
  have : (rangeInts 65 1 ((91 : Int) - 65).toNat ++ rangeInts 97 1 ((123 : Int) - 97).toNat ++ rangeInts 48 1 ((58 : Int) - 48).toNat).length = 62 := by decide +kernel
  rw [this]; rfl
theorem signs_in {a b : Int} (ha : 0 ≤ a ∧ a < 256) (hb : 0 ≤ b ∧ b < 256) : ∀ n ∈ (rangeInts 65 1 ((91 : Int) - 65).toNat ++ rangeInts 97 1 ((123 : Int) - 97).toNat ++ rangeInts 48 1 ((58 : Int) - 48).toNat) ++ [a, b], 0 ≤ n ∧ n < 256 := fun n hn => by
  rcases List.mem_append.1 hn with h | h
  · have : ∀ n ∈ (rangeInts 65 1 ((91 : Int) - 65).toNat ++ rangeInts 97 1 ((123 : Int) - 97).toNat ++ rangeInts 48 1 ((58 : Int) - 48).toNat), 0 ≤ n ∧ n < 256 := by decide +kernel
    exact this n h
  · simp only [List.mem_cons, List.not_mem_nil, or_false] at h
    rcases h with rfl | rfl
    · exact ha
    · exact hb
theorem u8_in (c : UInt8) : 0 ≤ (c.toNat : Int) ∧ (c.toNat : Int) < 256 := by
  have := c.toNat_lt
  omega
end
end Mine
end
section
open PySem PySem.W PySem.Calls PyProof.Rows
namespace Mine
open Builtin
/-! repr of bytes; b64encode with altchars of another length raises -/
def reprB (b : Array UInt8) : PySem.Str := Bytes.literal b
theorem slot_brepr : Slot "bytes" "__repr__" "bytes.__repr__" :=
  .of (owner := "bytes") (n := "__repr__") (by rw [typeLookup_type, builtinLookup_eq_fast]; kernel_rfl) (by decide +kernel) (by decide +kernel) (by decide +kernel)
    (by first | exact .inl (by decide +kernel) | exact .inr (by decide +kernel)) (by rw [isSubtype_type]; kernel_rfl)
theorem entry_brepr : entryFor table "bytes.__repr__" = some Builtin.«bytes.__repr__» := entryFor_of_tree (by kernel_rfl)
theorem args_brepr (a : Value) : argsOk "bytes.__repr__" ⟨[a], []⟩ := by unfold argsOk; kernel_rfl
theorem foldl_len {f : UInt8 → Array Nat} (hf : ∀ c, (f c).size ≤ 4) : ∀ (l : List UInt8) (a : Array Nat), (l.foldl (fun acc c => acc ++ f c) a).size ≤ a.size + 4 * l.length
  | [], a => by simp
  | c :: r, a => by
    have h1 := foldl_len hf r (a ++ f c)
    have h2 := hf c
    rw [List.foldl_cons, List.length_cons]
    rw [Array.size_append] at h1
    omega
theorem reprB_len (b : Array UInt8) : (reprB b).length ≤ 4 * b.size + 3 := by
  unfold reprB Bytes.literal
  dsimp only
  show (Array.push _ _).size ≤ _
  rw [Array.size_push, ← Array.foldl_toList]
  refine Nat.le_trans (Nat.succ_le_succ (foldl_len (fun c => ?_) b.toList _)) ?_
  · repeat' split
    all_goals (first | exact Nat.le_add_right 2 2 | exact Nat.le_refl 4 | exact Nat.le_add_right 1 3)
  · rw [Array.length_toList]
    show 2 + 4 * b.size + 1 ≤ _
    omega
theorem gives_brepr {b : Array UInt8} {t : Tok} (hb : b.size ≤ 100) : Gives («bytes.__repr__» ⟨[.bytes b t], []⟩) (.str (reprB b)) := .of_wp fun M A E s Q h => by
  unfold «bytes.__repr__»
  refine wpAny_bind (wpAny_of_eq (a := (Value.bytes b t, [])) rfl ?_)
  refine wpAny_bind (wpAny_of_eq (a := b) rfl ?_)
  refine wpAny_bind (wpAny_of_eq (a := reprB b) ?_ ?_)
  · unfold Bytes.literalAsked
    rw [if_neg (by rw [show (Bytes.tooLong (4 * b.size + 3 + 0)) = false from by unfold Bytes.tooLong; exact decide_eq_false (by rw [sizeLine_eq]; omega)]; exact Bool.false_ne_true)]
    rfl
  · exact wpAny_bind (wpAny_mkStr (wpAny_pure ⟨_, rfl, h.2⟩) h.1)
theorem call_repr_b {prog : Program} {w : World} {A : Around} {E : Value → Shared → Prop} {s : Shared} {b : Array UInt8} {t : Tok} {Q : Value → Shared → Prop} (hb : b.size ≤ 100)
    (h : ∀ u k, Q (.str (reprB b) u) { s with toks := k }) : wpAny (model prog w) A (call (.builtin "repr") [.bytes b t]) Q E s :=
  call_repr_gives (typeIs_bytes s b t) slot_brepr entry_brepr (args_brepr _) (gives_brepr hb) (h _ _) (hx := by
    have := reprB_len b
    rw [sizeLine_eq]; omega)
theorem ff_hide {g base : Heap} {as : List Addr} : ∀ {l : List Env}, g.FunFrames base l → (∀ env ∈ l, ∀ a ∈ as, env.frame ≠ some a) → (hideAll g as).FunFrames base l
  | [], _, _ => trivial
  | env :: _, ⟨hk, ⟨L, o, hf, hn, ho, hd⟩, hr⟩, hin => ⟨hk, ⟨L, o, hf, hn, hideAll_get _ ho (fun hm => hin env (.head _) L hm hf), hd⟩, ff_hide hr fun e he => hin e (.tail _ he)⟩
/-- a def is left by an exception that it made: the caller's own objects stay in sight -/
theorem leave_hid {M : Model} {A : Around} {E : Value → Shared → Prop} {s' : Shared} {base g h : Heap} {outer : List Env} {L a e : Addr} {m : PySem.Str → Option Value} {name : PySem.Str} {scope : Scope} {cd : Value} {Q : Unit → Shared → Prop} {newsC : List (Addr × Obj)} {cls : Value} {vs : List Value}
    (K : Below A base outer g) (hx : Heap.MadeExcOf h s'.heap e cls vs) (F : Fr g L h m) (hnc : ∀ q ∈ newsC, g.get? q.1 = some q.2 ∧ base.get? q.1 = none ∧ ∀ env ∈ outer, env.frame ≠ some q.1)
    (hQ : ∀ h' t, RaisedK base outer e cls t vs newsC h' → g.UpToSlots h' → Q () { s' with heap := h' }) (hk : scope.kind = .function) :
    wpAny M (A.deeper (envOf name scope L a cd)) (leaving (envOf name scope L a cd) (.ref e)) Q E s' := by
  have K' : Below A base outer (hideAll g (newsC.map (·.1))) := ⟨K.stack, fun b o e => hideAll_get _ (K.stays b o e) (fun hm => by
    obtain ⟨q, hq, rfl⟩ := List.mem_map.1 hm
    rw [(hnc q hq).2.1] at e; cases e), ff_hide K.frames fun env he a ha => by
      obtain ⟨q, hq, rfl⟩ := List.mem_map.1 ha
      exact (hnc q hq).2.2 env he⟩
  have F' : Fr (hideAll g (newsC.map (·.1))) L h m := ⟨F.ns, fun b o e => F.keep b o (of_hideAll _ e), by rw [hideAll_size]; exact F.above⟩
  have N' : News (hideAll g (newsC.map (·.1))) L h newsC := fun q hq => ⟨F.keep _ _ (hnc q hq).1, Nat.ne_of_lt (Nat.lt_of_lt_of_le (Heap.lt_size (hnc q hq).1) F.above), hideAll_none _ (List.mem_map.2 ⟨q, hq, rfl⟩)⟩
  refine leave_raiseK K' hx F' N' (fun h' t R U => hQ h' t R fun b o hb hn => ?_) hk
  by_cases hm : b ∈ newsC.map (·.1)
  · obtain ⟨q, hq, rfl⟩ := List.mem_map.1 hm
    rw [(hnc q hq).1] at hb
    cases hb
    obtain ⟨⟨B, _, hl, hfl, _⟩, _⟩ := R
    exact ⟨q.2.slots, hfl.1 _ _ (hl q hq).1⟩
  · exact U b o (hideAll_get _ hb hm) hn
def Hold (P : Prop) : Prop := P
theorem holdAt {α : Type} {M : Model} {A : Around} {t : Sem α} {Q : α → Shared → Prop} {E : Value → Shared → Prop} {s : Shared} (h : Hold (wpAny M A t Q E s)) : wpAny M A t Q E s := h
theorem holdOut {α : Type} {M : Model} {A : Around} {t : Sem α} {Q : α → Shared → Prop} {E : Value → Shared → Prop} {s : Shared} (h : wpAny M A t Q E s) : Hold (wpAny M A t Q E s) := h
local macro_rules | `(tactic| walk_at "call ref") => `(tactic| ((with_reducible show wpAny _ _ (call (Value.ref 43) _ _) _ _ _); refine use_b2a (by assumption) (by assumption) (by assumption) (by assumption) (by assumption) (by assumption) (by assumption) (by omega) (by omega) rfl ?_; intro h' tk' t' F' N'))
local macro_rules | `(tactic| walk_at "exec Assert") => `(tactic| refine wpAny_Assert_msg rfl ?_)
local macro_rules | `(tactic| walk_at "call builtin:repr") => `(tactic| (refine call_repr_b (by assumption) ?_; intro _ _))
local macro_rules | `(tactic| walk_at "leaving ref") => `(tactic| refine holdAt ?_)

set_option maxHeartbeats 8000000 in
theorem enc3_call {w : World} {mg mb : PySem.Str → Option Value} {mean : ExcName → Option Value} {loose : List PySem.Str} {dp un : Nat} {gd : Option (List Code)} {outer : List Env} {base : Heap} {s : Shared} {v : Value} {b alt : Array UInt8} {ta : Tok}
    {R : Result → Shared → Prop} {newsC : List (Addr × Obj)}
    (B : Below (AA dp un gd outer) base outer s.heap) (KX : (Mine.Head.hd.heap_39 w.params).In s.heap) (T : Top Mine.Head.hd.view_39 loose mean mg mb s.heap)
    (hv : IsBuf s.heap v b) (hz : b.size ≤ 66) (hlt : (alt.size : Int) ≠ 2) (hal : alt.size ≤ 100) (hd : dp + 8 < recursionLimit) (hu : un + 30 < cLine)
    (hnc : ∀ q ∈ newsC, s.heap.get? q.1 = some q.2 ∧ base.get? q.1 = none ∧ ∀ env ∈ outer, env.frame ≠ some q.1)
    (ret : ∀ h' tk' e t u, RaisedK base outer e (.type "AssertionError") t [.str (reprB alt) u] newsC h' → s.heap.UpToSlots h' → R (.error (.ref e)) { s with heap := h', toks := tk' }) :
    codeAny (model Challenge.rw_io0040_01.row.prog w) (AA dp un gd outer) (.call (.ref 51) ⟨[v, .bytes alt ta], []⟩) R s := by
  w_top off
  k_with_none
  revert KX
  k_fill
  intro KX
  refine' enterP (binds := [(Str.ofString "s", v), (Str.ofString "altchars", .bytes alt ta)]) B KX T.nolimit ?k6 ?k7 ?k8 ?k9 ?kB ?_ ?c2 ?c3 ?c4 ?c5
  (case k6 => k_is); (case k7 => k_is); (case k8 => show dp < recursionLimit; omega); (case k9 => first | exact BindsTo.of_eq rfl | exact binds_K KX rfl (by k_is) rfl rfl rfl); (case kB => exact locs rfl); (case c2 => exact rfl); (case c3 => exact rfl); (case c4 => exact rfl); (case c5 => decide)
  intro L' h' F' N'
  try dsimp only
  have hv' : IsBuf h' v b := hv.keeps F'.keep
  try k_fold
  k_steps
  · exact absurd (by assumption) hlt
  · rename Fr _ _ _ _ => F9
    with_reducible refine holdOut ?_
    refine leave_hid B (Heap.MadeExc.of (by assumption)) F9 hnc ?_ rfl
    intro h9 t9 R9 U9
    exact ret h9 _ _ t9 _ R9 U9
end Mine
end
section
open PySem PySem.W PySem.Calls PyProof.Rows
namespace Mine
section
variable {w : World} {mg mb : PySem.Str → Option Value} {mean : ExcName → Option Value} {loose : List PySem.Str} {dp un : Nat} {gd : Option (List Code)} {base h₀ : Heap} {s : Shared} {env : Env} {m : PySem.Str → Option Value} {news : List (Addr × Obj)}
  {Q : Value → Shared → Prop} {E : Value → Shared → Prop}
theorem useC_enc3 {v : Value} {b alt : Array UInt8} {ta : Tok} (B : Below (AA dp un gd []) base [] h₀) (F : Fr h₀ env.locals s.heap m) (N : News h₀ env.locals s.heap news) (KX : (Mine.Head.hd.heap_39 w.params).In h₀) (T : Top Mine.Head.hd.view_39 loose mean mg mb h₀)
    (hv : IsBuf s.heap v b) (hz : b.size ≤ 66) (hlt : (alt.size : Int) ≠ 2) (hal : alt.size ≤ 100) (hd : dp + 12 < recursionLimit) (hu : un + 40 < cLine) (hk : env.scope.kind = .function) (hf : env.frame = some env.locals)
    (h : ∀ h' tk' e t u, RaisedK base [env] e (.type "AssertionError") t [.str (reprB alt) u] news h' → s.heap.UpToSlots h' → E (.ref e) { s with heap := h', toks := tk' }) :
    wpAny (model Challenge.rw_io0040_01.row.prog w) ((AA dp un gd []).deeper env) (call (.ref 51) [v, .bytes alt ta]) Q E s :=
  wpAny_call (enc3_call (dp := dp + 1) (un := un + 3) (gd := gd) (outer := [env]) (newsC := news) (pushX B F hf hk) (KX.keeps F.keep) (T.keeps F.keep) hv hz hlt hal (by omega) (by omega)
    (fun q hq => ⟨(N q hq).1, fresh_of_stays B.stays (N q hq).2.2, fun en he => by
      rw [List.mem_singleton.1 he, hf]
      exact fun x => (N q hq).2.1 (Option.some.inj x).symm⟩)
    fun h' tk' e t u R U => h h' tk' e t u R U)
end
section
variable {prog : Program} {w : World} {A : Around} {E : Value → Shared → Prop} {s' : Shared} {h₀ h : Heap} {outer : List Env} {env : Env} {L e t : Addr} {m : PySem.Str → Option Value} {vs : List Value} {n x : PySem.Str} {b₀ : Stmt} {suite : List Stmt} {pos np : Pos} {rest : List ExceptHandler} {Q : Flow → Shared → Prop} {news : List (Addr × Obj)}
/-- an AssertionError from a callee, caught by name in a frame of any kind -/
theorem caught_env (hf : env.frame = some env.locals) (hA : A.frames = some (env :: outer)) (hloc : env.kindOf n = some .local) (hp : (env.scope.kind == .class || (env.scope.kind == .module && env.locals != env.globals)) = false)
    (F : Fr h₀ env.locals h m) (hsm : h.UpToSlots s'.heap) (R : RaisedK h₀ (env :: outer) e (.type "AssertionError") t vs news s'.heap)
    (hname : ∀ (s₁ : Shared) (Q : Value → Shared → Prop) (E : Value → Shared → Prop) (A' : Around), Fr h₀ env.locals s₁.heap m → Q (.type "AssertionError") s₁ → wpAny (model prog w) A' (eval (.Name x np) env) Q E s₁)
    (k : ∀ h' tk, Fr h₀ env.locals h' (fun y => if y = n then some (.ref e) else m y) → News h₀ env.locals h' news → h'.ExcAt e "AssertionError" (.ref t) → h'.TupAt t vs →
      wpAny (model prog w) (A.mark (some (.ref e))) (execs (b₀ :: suite) env) (fun f s₄ => wpAny (model prog w) A (do bindName env n .none; unbindBehindTheSuite env n pos) (fun _ s₅ => Q f s₅) E s₄) (fun _ _ => False) { s' with heap := h', toks := tk }) :
    wpAny (model prog w) A (noteFrame (.ref e) env) (fun _ s₂ => wpAny (model prog w) A (setFlight (.ref e) none) (fun _ s₃ =>
      wpAny (model prog w) A (handleBy (.ref e) env (.ExceptHandler (some (.Name x np)) (some n) (b₀ :: suite) pos :: rest)) Q E s₃) E s₂) E s' := by
  obtain ⟨⟨B, hB, hl, hfl, hnew⟩, htup⟩ := R
  have hL : B.get? env.locals = none := by
    obtain ⟨_, ⟨L', _, hf', hn', _⟩, _⟩ := hfl.2.2.1
    rw [hf] at hf'
    cases hf'
    exact hn'
  refine wpAny_looks_onW hA hf hfl fun h₄ hheld₄ hsm₄ => ?_
  refine wpAny_landsW hheld₄ fun h₅ hheld hsm₅' => ?_
  have hsm₅ := hsm₄.trans hsm₅'
  have hheld' := flyingW_base hB hheld
  have F₅ := F.of_stays hheld'.1 (hsm.trans hsm₅)
  obtain ⟨ob, hob, hobc⟩ := hheld'.there
  refine wpAny_handleBy_builtin_as (X := "AssertionError") (T := "AssertionError") (b := true) (by rw [isSubtype_type]; kernel_rfl) (by rw [isSubtype_type]; kernel_rfl) (by rw [isSubtype_type]; kernel_rfl) (hname _ _ _ _ F₅ ⟨rfl, ⟨ob, hob, hobc⟩, ?_⟩)
  refine lands_againW hheld fun h₆ hfl₆ hsm₆ => ?_
  have hfl₆' := flyingW_base hB hfl₆
  have F₆ := F.of_stays hfl₆'.1 ((hsm.trans hsm₅).trans hsm₆)
  obtain ⟨oe, ws, hoe, hoec, hoed, hoe0⟩ := hfl₆'.first
  obtain ⟨ot, nt, hot, hotc, hotd⟩ := (htup.of_slots hsm₅).of_slots hsm₆
  have N₆ := News.more F₆ (News.more F₆ News.nil hot (fun es n q => by rw [hotd] at q; cases q) (fresh_of_stays hB hnew)) hoe (fun es n q => by rw [hoed] at q; cases q) hfl₆'.2.1
  have Nl : News h₀ env.locals h₆ news := fun q hq => ⟨hfl₆.1 _ _ (hl q hq).1, (fun z => by have := (hl q hq).1; rw [z, hL] at this; cases this), (hl q hq).2⟩
  refine wpAny_storeName_local hloc F₆.ns (fun h₇ hn₇ hs₇ => ?_) hp
  have N₇ := N₆.set hs₇
  obtain ⟨x1, x2⟩ := Got.excAt N₇ ⟨oe, ot, ws, nt, .head _, .tail _ (.head _), hoec, hoed, hoe0, hotc, hotd⟩
  exact wpAny_mono (k h₇ _ (F₆.set hn₇ hs₇) (Nl.set hs₇) x1 x2) (fun _ _ z => z) fun _ _ z => z.elim
end
end Mine
end
section
open PySem PySem.W PySem.Calls PyProof.Rows
namespace Mine
local macro_rules | `(tactic| walk_at "call ref") => `(tactic| ((with_reducible show wpAny _ _ (call (Value.ref 58) _ _) _ _ _); refine holdAt ?_))
local macro_rules | `(tactic| walk_at "call ref") => `(tactic| ((with_reducible show wpAny _ _ (call (Value.ref 51) _ _) _ _ _); refine holdAt ?_))
local macro_rules | `(tactic| walk_at "call type:list") => `(tactic| ((with_reducible show wpAny _ _ (call (Value.type "list") [Value.bytes _ _]) _ _ _); refine holdAt ?_))
local macro_rules | `(tactic| walk_at "eval ListComp") => `(tactic| ((with_reducible show wpAny _ _ (eval (Expr.ListComp _ [⟨_, Expr.Call (Expr.Name (Str.ofString "range") _) _ _ _, _, _⟩] _ _) _) _ _ _); refine holdAt ?_))
theorem holdList {M : Model} {A : Around} {h : Heap} {v : Value} {b : Array UInt8} {Q : Value → Shared → Prop} {E : Value → Shared → Prop} {s : Shared} (_ : IsBuf h v b) (hh : Hold (wpAny M A (call (.type "list") [v]) Q E s)) : wpAny M A (call (.type "list") [v]) Q E s := hh
local macro_rules | `(tactic| walk_at "call type:list") => `(tactic| ((with_reducible show wpAny _ _ (call (Value.type "list") [_]) _ _ _); refine holdList (by assumption) ?_))
local macro_rules | `(tactic| walk_at "newTuple") => `(tactic| ((with_reducible show wpAny _ _ (newTuple [_, _, _, _]) _ _ _); refine holdAt ?_))
local macro_rules | `(tactic| walk_at "call type:str") => `(tactic| ((with_reducible show wpAny _ _ (call (Value.type "str") [Value.ref _]) _ _ _); refine P.str_of_exc_one PySem.F.excStr_AssertionError (by decide) (by assumption) (by assumption) ?_))
local macro_rules | `(tactic| walk_at "call builtin:repr") => `(tactic| (refine call_repr_b (by assumption) ?_; intro _ _))
local macro_rules | `(tactic| walk_at "bind") => `(tactic| refine holdAt ?_)
theorem pinNs {h : Heap} {a : Addr} {m : PySem.Str → Option Value} {x : PySem.Str} {v : Value} (n : h.Ns a m) (e : m x = some v) : h.Ns a (fun y => if y = x then some v else m y) := by
  have : (fun y => if y = x then some v else m y) = m := by funext y; by_cases h : y = x <;> simp [h, e]
  rw [this]; exact n
theorem freshOld {h₀ h : Heap} {L : Addr} {m : PySem.Str → Option Value} (F : Fr h₀ L h m) (a : Addr) (ha : h.objs.size ≤ a) : h₀.get? a = none := by
  cases e : h₀.get? a with
  | none => rfl
  | some o => exact absurd (Heap.lt_size (F.keep _ _ e)) (Nat.not_lt.mpr ha)
theorem newsCons {h₀ h : Heap} {L a : Addr} {o : Obj} {news : List (Addr × Obj)} (hg : h.get? a = some o) (hl : a ≠ L) (hf : h₀.get? a = none) (N : News h₀ L h news) : News h₀ L h ((a, o) :: news) := fun p hp => by
  rcases List.mem_cons.1 hp with rfl | hp
  · exact ⟨hg, hl, hf⟩
  · exact N p hp
theorem newsOf {h₀ h : Heap} {L a : Addr} {o : Obj} {news big : List (Addr × Obj)} (B : News h₀ L h big) (hm : (a, o) ∈ big) (N : News h₀ L h news) : News h₀ L h ((a, o) :: news) := fun p hp => by
  rcases List.mem_cons.1 hp with rfl | hp
  · exact B _ hm
  · exact N p hp
/-- all that a heap holds beyond an older one -/
noncomputable def whole (h₀ : Heap) (L : Addr) (h : Heap) : List (Addr × Obj) :=
  (List.range h.objs.size).filterMap fun a => match h.get? a with
    | some o => if a = L ∨ (h₀.get? a).isSome then none else some (a, o)
    | none => none
theorem mem_whole {h₀ h : Heap} {L a : Addr} {o : Obj} (hg : h.get? a = some o) (hl : a ≠ L) (hf : h₀.get? a = none) : (a, o) ∈ whole h₀ L h :=
  List.mem_filterMap.2 ⟨a, List.mem_range.2 (Heap.lt_size hg), by rw [hg]; simp [hl, hf]⟩
theorem whole_news (h₀ : Heap) (L : Addr) (h : Heap) : News h₀ L h (whole h₀ L h) := fun p hp => by
  obtain ⟨a, _, e⟩ := List.mem_filterMap.1 hp
  cases hg : h.get? a with
  | none => rw [hg] at e; cases e
  | some o =>
    rw [hg] at e
    by_cases hc : a = L ∨ (h₀.get? a).isSome
    · simp [hc] at e
    · simp only [hc, if_false] at e
      cases e
      refine ⟨hg, fun h => hc (.inl h), ?_⟩
      cases e2 : h₀.get? a with
      | none => rfl
      | some o2 => exact absurd (.inr (by rw [e2]; rfl)) hc
theorem oct_in (ns : List Int) : ∀ x ∈ [251, 240, 63] ++ ns.map (fun a => a.fmod 256), 0 ≤ x ∧ x < 256 := fun x hx => by
  rcases List.mem_append.1 hx with h | h
  · simp only [List.mem_cons, List.not_mem_nil, or_false] at h
    omega
  · obtain ⟨a, _, rfl⟩ := List.mem_map.1 h
    show 0 ≤ a.fmod 256 ∧ a.fmod 256 < 256
    rw [Int.fmod_eq_emod_of_nonneg _ (by decide)]
    omega
theorem loop_items {h₀ h : Heap} {L E l' D' D Dg Do c9 : Addr} {ys : Array Value} {ws us ug : List Value} {os : List Int} {o9 : Obj} {rest : List (Addr × Obj)} {cy n0 : Nat}
    (N : News h₀ L h ((E, { cls := .type "list", data := .seq (ys.toList ++ [Value.ref D']).toArray }) :: (l', listOf #[Value.ref D'] 0) :: (D', listOf ws.toArray 0) :: (D, { cls := .type "list", data := .seq ys cy }) ::
      (Dg, listOf ug.toArray 0) :: (Do, listOf us.toArray 0) :: (c9, o9) :: rest)) (hys : ys.size = os.length + 1)
    (hP : ∀ j, j < os.length + 1 → ∃ c us' n, ys[j]? = some (.ref c) ∧ (c, listOf (List.toArray us') n) ∈ rest ∧ IntsAre us' (os.take j)) (I6 : IntsAre ws (os.drop 3)) (hol : os.length = 3 + n0) (hin : ∀ x ∈ os, 0 ≤ x ∧ x < 256) (hn0 : n0 ≤ 63) :
    ∃ its : Array Value, ∃ rest2, News h₀ L h ((E, { cls := .type "list", data := .seq its }) :: (Dg, listOf ug.toArray 0) :: (Do, listOf us.toArray 0) :: (c9, o9) :: rest2) ∧ its.size = os.length + 2 ∧
      ∀ j, j < os.length + 2 → ∃ c us' n ks, its[j]? = some (.ref c) ∧ (c, listOf (List.toArray us') n) ∈ rest2 ∧ IntsAre us' ks ∧ ks.length ≤ 66 ∧ ∀ x ∈ ks, 0 ≤ x ∧ x < 256 := by
  refine ⟨(ys.toList ++ [Value.ref D']).toArray, (D', listOf ws.toArray 0) :: rest, fun p hp => N p ?_, ?_, fun j hj => ?_⟩
  · simp only [List.mem_cons] at hp ⊢
    rcases hp with h | h | h | h | h | h <;> simp [h]
  · simp [hys]
  · rcases Nat.lt_or_ge j (os.length + 1) with hj1 | hj1
    · obtain ⟨c, us', n, hg, hm, hI⟩ := hP j hj1
      refine ⟨c, us', n, os.take j, ?_, List.mem_cons_of_mem _ hm, hI, ?_, fun x hx => hin x (List.mem_of_mem_take hx)⟩
      · rw [List.getElem?_toArray, List.getElem?_append_left (by rw [Array.length_toList]; omega)]
        simpa using hg
      · rw [List.length_take]; omega
    · have hj2 : j = ys.toList.length := by rw [Array.length_toList]; omega
      refine ⟨D', ws, 0, os.drop 3, ?_, List.mem_cons_self, I6, ?_, fun x hx => hin x (List.mem_of_mem_drop hx)⟩
      · rw [List.getElem?_toArray, hj2]; simp
      · rw [List.length_drop]; omega
theorem iter_pieces {prog : Program} {w : World} {A : Around} {Err : Value → Shared → Prop} {s : Shared} {Q : Value → Shared → Prop} {h₀ : Heap} {L E Dg Do c9 : Addr} {us ug : List Value} {o9 : Obj} {k : Nat} {m : PySem.Str → Option Value} (F : Fr h₀ L s.heap m)
    (LI : ∃ its : Array Value, ∃ rest2, News h₀ L s.heap ((E, { cls := .type "list", data := .seq its }) :: (Dg, listOf ug.toArray 0) :: (Do, listOf us.toArray 0) :: (c9, o9) :: rest2) ∧ its.size = k ∧
      ∀ j, j < k → ∃ c us' n ks, its[j]? = some (.ref c) ∧ (c, listOf (List.toArray us') n) ∈ rest2 ∧ IntsAre us' ks ∧ ks.length ≤ 66 ∧ ∀ x ∈ ks, 0 ≤ x ∧ x < 256)
    (h : ∀ E I (its : Array Value) rest2 h', Fr h₀ L h' m → News h₀ L h' ((E, { cls := .type "list", data := .seq its }) :: (Dg, listOf ug.toArray 0) :: (Do, listOf us.toArray 0) :: (c9, o9) :: rest2) →
      (∀ p ∈ ((E, { cls := .type "list", data := .seq its }) :: (Dg, listOf ug.toArray 0) :: (Do, listOf us.toArray 0) :: (c9, o9) :: rest2 : List (Addr × Obj)), p.1 ≠ I) → h'.IsListIter I E 0 → I ≠ L → h₀.get? I = none → its.size = k →
      (∀ j, j < k → ∃ c us' n ks, its[j]? = some (.ref c) ∧ (c, listOf (List.toArray us') n) ∈ rest2 ∧ IntsAre us' ks ∧ ks.length ≤ 66 ∧ ∀ x ∈ ks, 0 ≤ x ∧ x < 256) → Q (.ref I) { s with heap := h' }) :
    wpAny (model prog w) A (pyIter (.ref E)) Q Err s := by
  obtain ⟨its, rest2, N, hs, hit⟩ := LI
  refine wpAny_pyIter_list (N.isList (List.Mem.head _)) ?_
  exact h E _ its rest2 _ (F.push _) (N.grown fun b o e => Heap.get?_push_of_some _ e) (fun p hp => Nat.ne_of_lt (Heap.lt_size (N p hp).1)) ⟨_, Heap.get?_push_size _ rfl, rfl, rfl⟩ (Ne.symm (Nat.ne_of_lt F.ns.lt)) (freshOld F _ (Nat.le_refl _)) hs hit
theorem wpG_hold {α : Type} {M : Model} {A : Around} {t : Sem α} {Q : α → Shared → Prop} {E : Value → Shared → Prop} {s : Shared} (h : wpG M A t (fun a s' => Hold (Q a s')) E s) : wpG M A t Q E s := h
theorem filt {α : Type} (l : List α) : l.filter (fun _ => true) = l := List.filter_eq_self.mpr fun _ _ => rfl
theorem lkeep {h h' : Heap} {a : Addr} {its : Array Value} (k : ∀ (b : Addr) (o : Obj), h.get? b = some o → h'.get? b = some o) (x : h.IsList a its) : h'.IsList a its := x.at (k a)
theorem rangeInts_length' (a b : Int) (n : Nat) : (rangeInts a b n).length = n := by unfold rangeInts; rw [List.length_map, List.length_range]
set_option maxHeartbeats 8000000 in
theorem law_call {w : World} {mg mb : PySem.Str → Option Value} {mean : ExcName → Option Value} {loose : List PySem.Str} {s : Shared} {l : Addr} {vs : List Value} {ns : List Int} {R : Result → Shared → Prop}
    (KX : (Mine.Head.hd.heap_39 w.params).In s.heap) (T : Top Mine.Head.hd.view_39 loose mean mg mb s.heap)
    (hl : s.heap.IsList l vs.toArray) (hi : IntsAre vs ns) (hn : ns.length ≤ 63) (hlay : (PyData.list (List.map PyData.int ns)).layable0 = true)
    (ret : ∀ h' tk', (∀ b o, s.heap.get? b = some o → h'.get? b = some o) → R (.ok (.ret (.bool true))) { s with heap := h', toks := tk' }) :
    codeG (model Challenge.rw_io0040_01.row.prog w) (AA 301 4 (some []) []) (.call (.ref 63) ⟨[.ref l], []⟩) R s := by
  w_top off
  k_with_none
  revert KX
  k_fill
  intro KX
  have B : Below (AA 301 4 (some []) []) s.heap [] s.heap := below_caller s.heap
  refine' enterLaw (binds := [(Str.ofString "script", .ref l)]) KX T.nolimit ?k6 ?k7 ?k8 ?k9 ?kB ?kD ?_ ?c2 ?c3 ?c4
  (case k6 => k_is); (case k7 => k_is); (case k8 => decide); (case k9 => exact BindsTo.of_eq rfl); (case kB => exact rfl); (case kD => decide +kernel); (case c2 => exact rfl); (case c3 => exact rfl); (case c4 => exact rfl)
  intro L' h' tk' cells' F' N' Y'
  k_cells Y'
  refine wpG_execs_cons (wpG_of ?_)
  try dsimp only
  try k_fold
  k_steps
  rename IntsAre _ (List.take 63 ns) => hs
  rw [List.take_of_length_le hn] at hs
  refine wpG_execs_cons (wpG_of ?_)
  try dsimp only
  try k_fold
  k_steps
  all_goals (try k_data)
  rename Fr _ _ _ _ => F9
  rename News _ _ _ _ => N9
  rename Heap.IsList _ _ _ => lx
  rename CarriedAll _ _ => cx
  rw [filt] at cx
  refine kmk_add_ints F9 N9 (N9.isList (List.Mem.head _)) lx (.cons 251 _ (.cons 240 _ (.cons 63 _ .nil))) (CarriedAll.intsOf cx) ?_ (by rw [sizeLine_eq, List.length_map]; simp only [List.length_cons, List.length_nil]; omega)
  intro Do us h7 F7 N7 _ I7
  dsimp only
  k_steps
  rename News _ _ _ _ => N0
  simp only [List.cons_append, List.nil_append] at N0
  refine wpG_execs_cons (wpG_of ?_)
  try dsimp only
  try k_fold
  k_steps
  all_goals (try k_data)
  refine wpG_execs_cons (wpG_of ?_)
  try dsimp only
  try k_fold
  k_steps
  all_goals (try k_data)
  refine wpG_execs_cons (wpG_of ?_)
  try dsimp only
  try k_fold
  k_steps
  all_goals (try k_data)
  rename Fr _ _ _ _ => F2
  rename News _ _ _ _ => N2
  refine kmk_add_ints F2 N2 (lkeep (by assumption) (lkeep (by assumption) (by assumption))) (by assumption) (IntsAre.ofCarried (by assumption)) (IntsAre.ofCarried (by assumption)) ?_ (by rw [sizeLine_eq, rangeInts_length', rangeInts_length']; decide)
  intro D3 us3 h3 F3 N3 _ I3
  dsimp only
  k_steps
  all_goals (try k_data)
  rename Fr _ _ _ _ => F2
  rename News _ _ _ _ => N2
  refine kmk_add_ints F2 N2 (N2.isList (List.Mem.head _)) (by assumption) I3 (IntsAre.ofCarried (by assumption)) ?_ (by rw [sizeLine_eq, List.length_append, rangeInts_length', rangeInts_length', rangeInts_length']; decide)
  intro Dg ug h4 F4 N4 _ Ig
  dsimp only
  k_steps
  all_goals (try k_data)
  refine wpG_execs_cons (wpG_For (wpG_of ?_))
  try dsimp only
  try k_fold
  k_steps
  rename Fr _ _ _ _ => F0
  rename News _ _ _ _ => N0
  rename _ = Data.cell (some (Value.ref Do)) => hco
  obtain ⟨os, hos⟩ : ∃ os, os = [251, 240, 63] ++ List.map (fun a => a.fmod 256) ns := ⟨_, rfl⟩
  rw [← hos] at I7
  have hol : os.length = 3 + ns.length := by rw [hos, List.length_append, List.length_map]; rfl
  with_reducible refine holdOut ?_
  with_reducible apply ListComp_made (fun i o => ∃ us' c, o = listOf (List.toArray us') c ∧ IntsAre us' (os.take i))
  (case hh => with_unfolding_all rfl)
  (case hclos => with_unfolding_all rfl)
  (case hcell => decide)
  (case hkind => with_unfolding_all rfl); (case hnames => decide); (case hx => with_unfolding_all rfl); (case hs => intro _; with_unfolding_all rfl)
  iterate 15 walk1
  refine range1_rows F0 N0 ?_
  intro hr tkr t₁ u₁ v₁ IR FR NR kr
  have hsz : ∀ n : Nat, n ≤ 67 → Builtin.Range.small 0 (n : Int) 1 = true := by decide
  refine ⟨_, 0, _, 1, t₁, u₁, v₁, os.length + 1, rfl, IR, ?_, ?_, ?_, ?_, ?_⟩
  rotate_left 3
  · intro C i t s₂ m₂ hC hin hn2 hm2 hk2
    have hcell := hk2 _ _ (NR.get (by (repeat (first | exact List.Mem.head _ | apply List.Mem.tail)) : (L' + 1, _) ∈ _))
    have hlst : s₂.heap.IsList Do us.toArray := ⟨_, hk2 _ _ (NR.get (by (repeat (first | exact List.Mem.head _ | apply List.Mem.tail)) : (Do, _) ∈ _)), rfl, _, rfl⟩
    refine Subscript_ (ldCellK (by with_unfolding_all rfl) ⟨_, hcell, hco⟩ ?_)
    walk1
    walk1
    walk1
    refine ldVarK hn2 hm2 ?_
    walk1
    refine slice_listK hlst IsPart.none (IsPart.int _ _) ?_ (hsz := by rw [List.size_toArray, I7.length, sizeLine_eq]; omega)
    have hti : (0 + (i : Int) * 1).toNat = i := by omega
    refine ⟨⟨_, _, rfl, Nat.le_succ _, by rw [← Heap.size_push s₂.heap]; exact Heap.get?_push_size _ rfl, (slicePick us.toArray none (some (0 + (i : Int) * 1)) none).toList, 0, by rw [Array.toArray_toList], ?_⟩, _, _, rfl, fun _ _ e => Heap.get?_push_of_some _ (Heap.get?_push_of_some _ e)⟩
    have := kmk_upto I7 (y := 0 + (i : Int) * 1) (by omega)
    rw [hti] at this
    exact this
  rotate_left 1
  · have := hsz (os.length + 1) (by omega)
    rw [show ((os.length : Nat) : Int) + 1 = ((os.length + 1 : Nat) : Int) from rfl]
    exact this
  · rw [rangeSize_nat]; omega
  · rw [sizeLine_eq]; omega
  intro D ys h5 tk5 hD hpl hys hM hk5
  obtain ⟨cy, hpl⟩ := hpl
  have hfr : ∀ a, hr.objs.size ≤ a → s.heap.get? a = none := freshOld FR
  have F5 := FR.keeps hk5
  have N5 : News s.heap L' h5 ((D, { cls := .type "list", data := .seq ys cy }) :: (Dg, listOf ug.toArray 0) :: (Do, listOf us.toArray 0) :: (L' + 1, _) :: whole s.heap L' h5) :=
    newsCons hpl (Ne.symm (Nat.ne_of_lt (Nat.lt_of_lt_of_le (ns_lt FR.ns) hD))) (hfr D hD)
      (newsOf (NR.grown hk5) (by (repeat (first | exact List.Mem.head _ | apply List.Mem.tail)))
      (newsOf (NR.grown hk5) (by (repeat (first | exact List.Mem.head _ | apply List.Mem.tail)))
      (newsOf (NR.grown hk5) (by (repeat (first | exact List.Mem.head _ | apply List.Mem.tail))) (whole_news _ _ _))))
  have hP : ∀ j, j < os.length + 1 → ∃ c us' n, ys[j]? = some (.ref c) ∧ (c, listOf (List.toArray us') n) ∈ whole s.heap L' h5 ∧ IntsAre us' (os.take j) := fun j hj => by
    obtain ⟨v, hv⟩ : ∃ v, ys.toList[j]? = some v := ⟨_, List.getElem?_eq_getElem (by rw [Array.length_toList]; omega)⟩
    obtain ⟨c, o, rfl, hc, ho, us', n, rfl, hI⟩ := hM j v hv
    exact ⟨c, us', n, by simpa using hv, mem_whole ho (Ne.symm (Nat.ne_of_lt (Nat.lt_of_lt_of_le (ns_lt FR.ns) hc))) (hfr c hc), hI⟩
  generalize whole s.heap L' h5 = rest at N5 hP
  dsimp only
  k_steps
  all_goals (try k_data)
  rename Fr _ _ _ _ => F6
  rename News _ _ _ _ => N6
  rename IntsAre _ (List.drop _ os) => I6
  refine add_lists F6 N6 (vs := ys.toList) (by rw [Array.toArray_toList]; exact N6.isList (List.Mem.tail _ (List.Mem.tail _ (List.Mem.head _)))) (N6.isList (List.Mem.head _)) ?_ (by rw [Array.length_toList, hys, sizeLine_eq]; simp only [List.length_cons, List.length_nil]; omega)
  intro h7 F7 N7
  k_unfold
  dsimp only
  refine iter_pieces F7 (loop_items N7 hys hP I6 hol (by rw [hos]; exact oct_in _) (by omega)) ?_
  intro E8 I8 its rest2 h8 F8 N8 hne8 hit8 hIL hIs hsi hit
  refine codeG_forLoop (fun k s' => ∃ h tk i m, s' = { s with heap := h, toks := tk } ∧ k = os.length + 3 - i ∧ i ≤ os.length + 2 ∧ Fr s.heap L' h m ∧ m (Str.ofString "signs") = some (.ref Dg) ∧
      (∃ ta, m (Str.ofString "altchars") = some (.bytes #[(ns.sum.fmod 256).toNat.toUInt8, ((ns.sum.fdiv 256).fmod 256).toNat.toUInt8] ta)) ∧ News s.heap L' h _ ∧ h.IsListIter I8 E8 i) ?_ (os.length + 3)
    ⟨_, _, 0, _, rfl, rfl, Nat.zero_le _, F8, by with_unfolding_all rfl, ⟨_, by with_unfolding_all rfl⟩, N8, hit8⟩
  rintro k s' ⟨h, tk, i, m, rfl, rfl, hi, F, hsg, ⟨ta, hal⟩, N, hit'⟩
  by_cases hlt : i < os.length + 2
  · obtain ⟨c, us', n, ks, hget, hmem, hI, hkl, hkr⟩ := hit i hlt
    refine wpAny_pyNext_list_item hit' (N.isList (List.Mem.head _)) hget ?_
    intro h9 hit9 hs9
    dsimp only
    have F9 : Fr s.heap L' h9 m := ⟨F.ns.sameBut hs9 (Ne.symm hIL), fun b o e => hs9.extBut b o (fun q => by rw [q, hIs] at e; cases e) (F.keep b o e), F.above⟩
    have N9 : News s.heap L' h9 _ := fun p hp => ⟨hs9.extBut _ _ (hne8 p hp) (N p hp).1, (N p hp).2⟩
    refine wpAny_assign_Name (wpAny_storeName_local (by with_unfolding_all rfl) (pinNs (x := Str.ofString "signs") (pinNs F9.ns hal) (by show (if _ then _ else _) = _; rw [if_neg (by decide)]; exact hsg)) (fun h10 hn10 hs10 => ?_))
    have F10 : Fr s.heap L' h10 _ := F9.set hn10 hs10
    have N10 : News s.heap L' h10 _ := fun p hp => ⟨hs10.extBut _ _ (N9 p hp).2.1 (N9 p hp).1, (N9 p hp).2⟩
    have it10 : h10.IsListIter I8 E8 (i + 1) := hit9.extBut hs10.extBut hIL
    obtain ⟨oi, hoi, hci, hdi⟩ := it10
    have NT : News s.heap L' h10 ((c, listOf (List.toArray us') n) :: (Dg, listOf ug.toArray 0) :: (Do, listOf us.toArray 0) :: (L' + 1, _) :: (I8, oi) :: (E8, { cls := .type "list", data := .seq its }) :: rest2) :=
      newsOf N10 (List.Mem.tail _ (List.Mem.tail _ (List.Mem.tail _ (List.Mem.tail _ hmem)))) (newsOf N10 (List.Mem.tail _ (List.Mem.head _)) (newsOf N10 (List.Mem.tail _ (List.Mem.tail _ (List.Mem.head _)))
        (newsOf N10 (List.Mem.tail _ (List.Mem.tail _ (List.Mem.tail _ (List.Mem.head _)))) (newsCons hoi hIL hIs (newsOf N10 (List.Mem.head _) fun p hp => N10 p (List.Mem.tail _ (List.Mem.tail _ (List.Mem.tail _ (List.Mem.tail _ hp)))))))))
    clear N9 N10 N F F9 hn10
    obtain ⟨rest3, h3⟩ : ∃ r, r = (I8, oi) :: (E8, ({ cls := .type "list", data := .seq its } : Obj)) :: rest2 := ⟨_, rfl⟩
    rw [← h3] at NT
    refine wpG_execs_cons (wpG_of ?_)
    try dsimp only
    try k_fold
    k_steps
    rename Fr _ _ _ _ => F13
    rename News _ _ _ _ => N13
    rename IntsAre _ (_ ++ [43, 47]) => J1
    with_reducible refine holdOut ?_
    refine useC_written (dp := 301) (un := 4) (gd := some []) (outer := []) B F13 N13 KX T (vs := us') (N13.isList (by (repeat (first | exact List.Mem.head _ | apply List.Mem.tail)))) hI hkl hkr (N13.isList (by (repeat (first | exact List.Mem.head _ | apply List.Mem.tail)))) J1 (by decide +kernel) (by decide +kernel) (by decide) (by decide) rfl rfl ?_
    intro h14 tk14 t14 F14 N14
    dsimp only
    k_steps
    refine wpG_execs_cons (wpG_of ?_)
    try dsimp only
    try k_fold
    k_steps
    rename Fr _ _ _ _ => F15
    rename News _ _ _ _ => N15
    with_reducible refine holdOut ?_
    refine useC_list F15 N15 rfl (.inl ⟨_, rfl⟩) (by show 2 ≤ 66; decide) ?_
    intro Dl yl cl h16 tk16 F16 N16 Il _
    change IntsAre yl [_, _] at Il
    dsimp only
    k_steps
    rename Fr _ _ _ _ => F17
    rename News _ _ _ _ => N17
    rename IntsAre _ (_ ++ [_, _]) => J2
    with_reducible refine holdOut ?_
    refine useC_written (dp := 301) (un := 4) (gd := some []) (outer := []) B F17 N17 KX T (vs := us') (N17.isList (by (repeat (first | exact List.Mem.head _ | apply List.Mem.tail)))) hI hkl hkr (N17.isList (by (repeat (first | exact List.Mem.head _ | apply List.Mem.tail)))) J2 (signs_len _ _) (signs_in (u8_in _) (u8_in _)) (by decide) (by decide) rfl rfl ?_
    intro h18 tk18 t18 F18 N18
    dsimp only
    k_steps
    rename Fr _ _ _ _ => F19
    rename News _ _ _ _ => N19
    refine wpG_execs_cons (wpG_For ?_)
    refine wpG_Tuple2 (wpG_of ?_)
    try dsimp only
    try k_fold
    k_steps
    rename Fr _ _ _ _ => F20
    rename News _ _ _ _ => N20
    dsimp only [qk]
    refine wpG_Call_type1 (T := "bytearray") ?_
    try k_fold
    refine' nameX_B ?q1 ?q2 ?q3 ?q4 ?q5 ?q6 ?_ ?q7 ?q8
    (case q1 => exact F20)
    (case q2 => k_asm)
    (case q3 => k_asm)
    (case q7 => rfl)
    (case q8 => rfl)
    (case q4 => k_is)
    (case q5 => first | boot_fast | boot_by_name)
    (case q6 => decide)
    k_unfold
    refine ⟨rfl, ?_⟩
    try k_fold
    walk1
    k_unfold
    refine call_ba_G (vs := us') (N20.isList (by (repeat (first | exact List.Mem.head _ | apply List.Mem.tail)))) hI hkr (by rw [sizeLine_eq]; omega) ?_
    intro h21 hk21 hb21
    have F21 := F20.keptAll hk21
    have N21 := newsCons hb21 (Ne.symm (Nat.ne_of_lt F20.ns.lt)) (oldFresh F20 _ (Nat.le_refl _)) (N20.grown hk21)
    refine tuple_iter F21 N21 (by simp) ?_
    intro T9 I9 h22 F22 N22 hne22 it22 hIL9 hI9
    refine codeG_forLoop (fun k s' => ∃ h tk i m, s' = { s with heap := h, toks := tk } ∧ k = 3 - i ∧ i ≤ 2 ∧ Fr s.heap L' h m ∧
        (∃ t, m (Str.ofString "plain") = some (.bytes (writtenB ks (signs62 ++ [43, 47])) t)) ∧
        (∃ t, m (Str.ofString "other") = some (.bytes (writtenB ks (signs62 ++ [((ns.sum.fmod 256).toNat.toUInt8.toNat : Int), (((ns.sum.fdiv 256).fmod 256).toNat.toUInt8.toNat : Int)])) t)) ∧
        (∃ ta, m (Str.ofString "altchars") = some (.bytes #[(ns.sum.fmod 256).toNat.toUInt8, ((ns.sum.fdiv 256).fmod 256).toNat.toUInt8] ta)) ∧
        m (Str.ofString "signs") = some (.ref Dg) ∧ m (Str.ofString "piece") = some (.ref c) ∧ News s.heap L' h _ ∧ h.IsTupleIter I9 T9 i) ?_ 3
      ⟨_, _, 0, _, rfl, rfl, Nat.zero_le _, F22, ⟨_, by with_unfolding_all rfl⟩, ⟨_, by with_unfolding_all rfl⟩, ⟨_, by with_unfolding_all rfl⟩, by with_unfolding_all rfl, by with_unfolding_all rfl, N22, it22⟩
    rintro k2 s2 ⟨h30, tk30, i2, m2, rfl, rfl, hi2, F30, ⟨tp, hpl⟩, ⟨to, hot⟩, ⟨ta2, hal2⟩, hsg2, hpc2, N30, it30⟩
    by_cases hlt2 : i2 < 2
    · obtain ⟨v, hget2, hv2⟩ := pair_get N30 i2 hlt2
      refine wpAny_pyNext_tuple_item it30 ⟨_, N30.get (List.Mem.head _), rfl, _, rfl⟩ hget2 ?_
      intro h31 it31 hs31
      dsimp only
      have F31 : Fr s.heap L' h31 m2 := ⟨F30.ns.sameBut hs31 (Ne.symm hIL9), fun b o e => hs31.extBut b o (fun q => by rw [q, hI9] at e; cases e) (F30.keep b o e), F30.above⟩
      have N31 : News s.heap L' h31 _ := fun p hp => ⟨hs31.extBut _ _ (hne22 p hp) (N30 p hp).1, (N30 p hp).2⟩
      refine wpAny_assign_Name (wpAny_storeName_local (by with_unfolding_all rfl) (pinNs (x := Str.ofString "piece") (pinNs (x := Str.ofString "plain") (pinNs (x := Str.ofString "other") (pinNs F31.ns hal2) (by show (if _ then _ else _) = _; rw [if_neg (by decide)]; exact hot))
        (by show (if _ then _ else if _ then _ else _) = _; rw [if_neg (by decide), if_neg (by decide)]; exact hpl)) (by show (if _ then _ else if _ then _ else if _ then _ else _) = _; rw [if_neg (by decide), if_neg (by decide), if_neg (by decide)]; exact hpc2)) (fun h32 hn32 hs32 => ?_))
      have F32 : Fr s.heap L' h32 _ := F31.set hn32 hs32
      have N32 : News s.heap L' h32 _ := fun p hp => ⟨hs32.extBut _ _ (N31 p hp).2.1 (N31 p hp).1, (N31 p hp).2⟩
      have it32 := it31.extBut hs32.extBut hIL9
      obtain ⟨v', hg', hv3⟩ := pair_get N32 i2 hlt2
      have e3 := Option.some.inj (hget2.symm.trans hg')
      subst e3
      obtain ⟨oj, hoj, hcj, hdj⟩ := it32
      have N33 := newsCons hoj hIL9 hI9 N32
      clear N32 N31 N30 F31 F30 hn32 hv2
      refine wpG_hold ?_
      refine wpG_execs_cons (wpG_of ?_)
      try dsimp only
      try k_fold
      k_steps
      rename Fr _ _ _ _ => F34
      rename News _ _ _ _ => N34
      with_reducible refine holdOut ?_
      refine useC_enc1 (dp := 301) (un := 4) (gd := some []) (outer := []) B F34 N34 KX T hv3 (by rw [byteArr_size]; exact hkl) (by decide) (by decide) rfl rfl ?_
      intro h35 tk35 t35 F35 N35 hv35
      rw [law1 hkr]
      dsimp only
      k_steps
      refine wpG_execs_cons (wpG_of ?_)
      try dsimp only
      try k_fold
      k_steps
      · exfalso
        rename (_ != _) = true => hq
        simp at hq
      refine wpG_execs_cons (wpG_of ?_)
      try dsimp only
      try k_fold
      k_steps
      rename Fr _ _ _ _ => F36
      rename News _ _ _ _ => N36
      obtain ⟨v', hg', hv36⟩ := pair_get (fun p hp => N36 p (List.Mem.tail _ hp)) i2 hlt2
      have e3 := Option.some.inj (hget2.symm.trans hg')
      subst e3
      with_reducible refine holdOut ?_
      refine useC_enc2 (dp := 301) (un := 4) (gd := some []) (outer := []) B F36 N36 KX T hv36 (by rw [byteArr_size]; exact hkl) rfl (by decide) (by decide) rfl rfl ?_
      intro h37 tk37 t37 F37 N37 hv37
      rw [law2 hkr]
      dsimp only
      k_steps
      refine wpG_execs_cons (wpG_of ?_)
      try dsimp only
      try k_fold
      k_steps
      · exfalso
        rename (_ != _) = true => hq
        simp at hq
      rename Fr _ _ _ _ => F38
      rename News _ _ _ _ => N38
      obtain ⟨v', hg', hv38⟩ := pair_get (fun p hp => N38 p (List.Mem.tail _ hp)) i2 hlt2
      have e3 := Option.some.inj (hget2.symm.trans hg')
      subst e3
      with_reducible refine holdOut ?_
      refine useC_list F38 N38 rfl hv38 (by rw [byteArr_size]; exact hkl) ?_
      intro Dl2 yl2 cl2 h39 tk39 F39 N39 Il2 _
      rw [KBa.ints_make hkr] at Il2
      dsimp only
      k_steps
      refine wpG_of (wpAny_execs_nil ?_)
      refine ⟨rfl, 3 - (i2 + 1), by omega, _, _, i2 + 1, _, rfl, rfl, by omega, F39, ⟨tp, ?e1⟩, ⟨to, ?e2⟩, ⟨ta2, ?e3⟩, ?e4, ?e5, fun p hp => N39 p (List.Mem.tail _ (List.Mem.tail _ hp)), ⟨oj, N39.get (List.Mem.tail _ (List.Mem.head _)), hcj, hdj⟩⟩
      (case e1 => with_unfolding_all rfl)
      (case e2 => with_unfolding_all rfl)
      (case e3 => with_unfolding_all rfl)
      (case e4 => with_unfolding_all exact hsg2)
      (case e5 => with_unfolding_all rfl)
    · have e2 : i2 = 2 := by omega
      subst e2
      refine wpAny_pyNext_tuple_end rfl it30 ⟨_, N30.get (List.Mem.head _), rfl, _, rfl⟩ rfl ?_
      intro h40 hx40
      dsimp only
      have N40 : News s.heap L' h40 _ := fun p hp => ⟨hx40 _ _ (hne22 p hp) (N30 p hp).1, (N30 p hp).2⟩
      have F40 : Fr s.heap L' h40 m2 := ⟨F30.ns.at' fun o e => hx40 _ o (Ne.symm hIL9) e, fun b o e => hx40 b o (fun q => by rw [q, hI9] at e; cases e) (F30.keep b o e), F30.above⟩
      subst h3
      refine wpG_of (wpAny_execs_nil ?_)
      have hsub : ∀ {a : Addr} {o : Obj}, (a, o) ∈ (Dg, listOf ug.toArray 0) :: (Do, listOf us.toArray 0) :: (L' + 1, _) :: (I8, oi) :: (E8, ({ cls := .type "list", data := .seq its } : Obj)) :: rest2 → h40.get? a = some o ∧ a ≠ L' ∧ s.heap.get? a = none := fun {a o} hm =>
        N40 _ (List.Mem.tail _ (List.Mem.tail _ (List.Mem.tail _ (List.Mem.tail _ (List.Mem.tail _ (List.Mem.tail _ (List.Mem.tail _ hm)))))))
      refine ⟨rfl, os.length + 3 - (i + 1), by omega, _, _, i + 1, m2, rfl, rfl, by omega, F40, hsg2, ⟨ta2, hal2⟩, fun p hp => ?_, ⟨oi, (hsub (List.Mem.tail _ (List.Mem.tail _ (List.Mem.tail _ (List.Mem.head _))))).1, hci, hdi⟩⟩
      refine hsub ?_
      simp only [List.mem_cons] at hp ⊢
      rcases hp with h | h | h | h | h <;> simp [h]
  · have ei : i = os.length + 2 := by omega
    refine wpAny_pyNext_list_end rfl hit' (N.isList (List.Mem.head _)) (by rw [ei, ← hsi]; exact Array.getElem?_size) ?_
    intro h41 hx41
    dsimp only
    have F41 : Fr s.heap L' h41 m := ⟨F.ns.at' fun o e => hx41 _ o (Ne.symm hIL) e, fun b o e => hx41 b o (fun q => by rw [q, hIs] at e; cases e) (F.keep b o e), F.above⟩
    have N41 : News s.heap L' h41 _ := fun p hp => ⟨hx41 _ _ (hne8 p hp) (N p hp).1, (N p hp).2⟩
    clear N N8 F F7 F8 F6 N6 N7
    obtain ⟨alt, a0, a1, hae, hbi⟩ : ∃ alt a0 a1, #[(ns.sum.fmod 256).toNat.toUInt8, ((ns.sum.fdiv 256).fmod 256).toNat.toUInt8] = alt ∧ KBw.bInts alt = [a0, a1] := ⟨_, _, _, rfl, rfl⟩
    rw [hae] at hal
    replace F41 : Fr s.heap L' h41 (fun y => if y = Str.ofString "altchars" then some (.bytes alt ta) else m y) := ⟨pinNs F41.ns hal, F41.keep, F41.above⟩
    refine wpG_execs_cons (wpG_For (wpG_of ?_))
    try dsimp only
    try k_fold
    k_steps
    have hsa : alt.size = 2 := by rw [← hae]; rfl
    have hsp : (KBy.picked alt none (some 1)).size = 1 := by rw [← KBw.ints_length, KBc.ints_picked hbi]; rfl
    rename Fr _ _ _ _ => F42
    rename News _ _ _ _ => N42
    with_reducible refine holdOut ?_
    refine tuple_iter F42 N42 (by simp only [List.length_cons, List.length_nil]; omega) ?_
    intro T43 I43 h43 F43 N43 hne43 it43 hIL43 hI43
    have wr4 : ∀ (b0 b1 b2 b3 : Array UInt8) (t0 t1 t2 t3 : Tok), ((b0.size : Int) ≠ 2 ∧ b0.size ≤ 100) → ((b1.size : Int) ≠ 2 ∧ b1.size ≤ 100) → ((b2.size : Int) ≠ 2 ∧ b2.size ≤ 100) → ((b3.size : Int) ≠ 2 ∧ b3.size ≤ 100) →
        ∀ j, j < 4 → ∃ wr tw, ([Value.bytes b0 t0, Value.bytes b1 t1, Value.bytes b2 t2, Value.bytes b3 t3] : List Value).toArray[j]? = some (.bytes wr tw) ∧ (wr.size : Int) ≠ 2 ∧ wr.size ≤ 100 := by
      intro b0 b1 b2 b3 t0 t1 t2 t3 h0 h1 h2 h3 j hj
      rcases (by omega : j = 0 ∨ j = 1 ∨ j = 2 ∨ j = 3) with rfl | rfl | rfl | rfl
      · exact ⟨b0, t0, rfl, h0⟩
      · exact ⟨b1, t1, rfl, h1⟩
      · exact ⟨b2, t2, rfl, h2⟩
      · exact ⟨b3, t3, rfl, h3⟩
    have arr_out : ∀ (tail : List (Addr × Obj)) (items : Array Value), News s.heap L' h43 ((T43, { cls := .type "tuple", data := .seq items }) :: tail) → (∀ p ∈ ((T43, { cls := .type "tuple", data := .seq items }) :: tail : List (Addr × Obj)), p.1 ≠ I43) →
        (∀ j, j < 4 → ∃ wr tw, items[j]? = some (.bytes wr tw) ∧ (wr.size : Int) ≠ 2 ∧ wr.size ≤ 100) → items[4]? = none → ∃ arr : Array Value, News s.heap L' h43 ((T43, { cls := .type "tuple", data := .seq arr }) :: tail) ∧ (∀ p ∈ ((T43, { cls := .type "tuple", data := .seq arr }) :: tail : List (Addr × Obj)), p.1 ≠ I43) ∧
        (∀ j, j < 4 → ∃ wr tw, arr[j]? = some (.bytes wr tw) ∧ (wr.size : Int) ≠ 2 ∧ wr.size ≤ 100) ∧ arr[4]? = none := fun tail items a b c d => ⟨items, a, b, c, d⟩
    obtain ⟨arr, N43a, hne43a, hW, hW4⟩ := arr_out _ _ N43 hne43 (wr4 _ _ _ _ _ _ _ _ ⟨by decide, by decide⟩ ⟨by rw [hsp]; decide, by rw [hsp]; decide⟩ ⟨by rw [Array.size_append, hsp, hsa]; decide, by rw [Array.size_append, hsp, hsa]; decide⟩ ⟨by rw [Array.size_append, hsa]; decide, by rw [Array.size_append, hsa]; decide⟩) rfl
    clear N43 hne43 wr4 arr_out N42 F42
    refine codeG_forLoop (fun k s' => ∃ h tk i m, s' = { s with heap := h, toks := tk } ∧ k = 5 - i ∧ i ≤ 4 ∧ Fr s.heap L' h m ∧ News s.heap L' h _ ∧ h.IsTupleIter I43 T43 i) ?_ 5
      ⟨_, _, 0, _, rfl, rfl, by omega, F43, N43a, it43⟩
    rintro k2 s2 ⟨h44, tk44, i3, m3, rfl, rfl, hi3, F44, N44, it44⟩
    by_cases hlt3 : i3 < 4
    · obtain ⟨wr, tw, hget3, hw2, hw100⟩ := hW i3 hlt3
      refine wpAny_pyNext_tuple_item it44 ⟨_, N44.get (List.Mem.head _), rfl, _, rfl⟩ hget3 ?_
      intro h45 it45 hs45
      dsimp only
      have F45 : Fr s.heap L' h45 m3 := ⟨F44.ns.sameBut hs45 (Ne.symm hIL43), fun b o e => hs45.extBut b o (fun q => by rw [q, hI43] at e; cases e) (F44.keep b o e), F44.above⟩
      have N45 : News s.heap L' h45 _ := fun p hp => ⟨hs45.extBut _ _ (hne43a p hp) (N44 p hp).1, (N44 p hp).2⟩
      refine wpAny_assign_Name (wpAny_storeName_local (by with_unfolding_all rfl) F45.ns (fun h46 hn46 hs46 => ?_))
      have F46 : Fr s.heap L' h46 _ := F45.set hn46 hs46
      have N46 : News s.heap L' h46 _ := fun p hp => ⟨hs46.extBut _ _ (N45 p hp).2.1 (N45 p hp).1, (N45 p hp).2⟩
      have it46 := it45.extBut hs46.extBut hIL43
      obtain ⟨oj3, hoj3, hcj3, hdj3⟩ := it46
      have N47 := newsCons hoj3 hIL43 hI43 N46
      clear N46 N45 F45 F44 N44 hn46 F43 N43a
      refine wpG_hold ?_
      refine wpG_execs_cons (wpG_of ?_)
      refine wpAny_Try_except ?_
      try dsimp only
      try k_fold
      k_steps
      refine KBa.make_K F46 N47 rfl (N47.isList (by (repeat (first | exact List.Mem.head _ | apply List.Mem.tail)))) I7 (by rw [hos]; exact oct_in _) (by omega) ?_
      intro h48 t48 k48 F48 N48 _
      dsimp only
      k_steps
      rename Fr _ _ _ _ => F49
      rename News _ _ _ _ => N49
      with_reducible refine holdOut ?_
      refine useC_enc3 (dp := 301) (un := 4) (gd := some []) B F49 N49 KX T (.inl ⟨_, rfl⟩) (by rw [byteArr_size]; omega) hw2 hw100 (by decide) (by decide) rfl rfl ?_
      intro h50 tk50 e50 t50 u50 R50 U50
      dsimp only
      refine caught_env rfl rfl (by with_unfolding_all rfl) rfl F49 U50 R50 ?_ ?_
      · intro s1 Q1 E1 A1 F1 hQ1
        refine' nameX_B ?r1 ?r2 ?r3 ?r4 ?r5 ?r6 ?_ ?r7 ?r8
        (case r1 => exact F1)
        (case r2 => k_asm)
        (case r3 => k_asm)
        (case r7 => rfl)
        (case r8 => rfl)
        (case r4 => k_is)
        (case r5 => first | boot_fast | boot_by_name)
        (case r6 => decide)
        exact hQ1
      intro h51 tk51 F51 N51 X51 X52
      clear F49 N49 F46 N47 U50 R50
      replace F51 : Fr s.heap L' h51 _ := F51
      replace N51 : News s.heap L' h51 _ := N51
      k_steps
      refine P.str_of_exc_one PySem.F.excStr_AssertionError (by k_units) X51 X52 ?_
      try dsimp only
      k_steps
      · exfalso
        rename (_ != _) = true => hq
        simp at hq
      with_reducible refine holdOut ?_
      refine wpAny_nameGoes (by with_unfolding_all rfl) F51.ns rfl ?_
      intro h52 m52 hn52 hs52
      have F52 : Fr s.heap L' h52 m52 := F51.set hn52 hs52
      have N52 : News s.heap L' h52 _ := N51.set hs52
      dsimp only
      refine wpG_of (wpAny_execs_nil ?_)
      exact ⟨rfl, 5 - (i3 + 1), by omega, _, _, i3 + 1, m52, rfl, rfl, by omega, F52, fun p hp => N52 p (List.Mem.tail _ hp), ⟨oj3, N52.get (List.Mem.head _), hcj3, hdj3⟩⟩
    · have e4 : i3 = 4 := by omega
      refine wpAny_pyNext_tuple_end rfl it44 ⟨_, N44.get (List.Mem.head _), rfl, _, rfl⟩ (by rw [e4]; exact hW4) ?_
      intro h55 hx55
      dsimp only
      have F55 : Fr s.heap L' h55 m3 := ⟨F44.ns.at' fun o e => hx55 _ o (Ne.symm hIL43) e, fun b o e => hx55 b o (fun q => by rw [q, hI43] at e; cases e) (F44.keep b o e), F44.above⟩
      refine wpG_execs_cons (wpG_of ?_)
      try dsimp only
      try k_fold
      k_steps
      exact ret _ _ F55.keep
end Mine
end
open PySem PySem.W PySem.Calls PyProof.Rows
set_option maxHeartbeats 8000000 in
theorem PySem.Challenge.cw_io0040_01_holds : PySem.Challenge.rw_io0040_01.Holds := by
  refine Mine.Head.hd ?_
  intro w s₀ s₁ mg mb G Y fa o pm cd doc dV kV ho hd hcd hD hmg hg args vals as hpre hlay hrd hwl hlo
  have KX := kIn_of Y
  have X := (Ground.X G).1
  refine Ground.open G ?_
  intro T B D TE TW
  wrow_args hpre hlay hrd hwl hlo
  rename Heap.IsList _ _ _ => hL
  rename IntsAre _ _ => hI
  rename (PyData.list _).layable0 = true => hlay0
  rename ¬ ((63 : Nat) : Int) < _ => hc
  w_top off
  k_with_none
  revert KX
  k_fill
  intro KX
  have hf : fa = 63 := by
    have := mg_of KX T.g (by k_is : nsIn _ mainGlobals (Str.ofString "law") = some (some (.ref 63)))
    exact Value.ref.inj (Option.some.inj (hmg.symm.trans this))
  subst hf
  refine Mine.wpG_call (Mine.law_call KX T hL hI (by omega) hlay0 fun h' tk' hk' => ?_)
  show GoodWG _ _ _ _ _ _ _
  refine ⟨.inl ⟨_, .bool true, [], rfl, fun _ => rfl, .bool true, ?_, fun _ => ⟨List.nodup_nil, fun _ h => nomatch h⟩⟩, ?_, rfl, AllBare.of_eq hg⟩
  · with_unfolding_all rfl
  · exact OldK.of_keep hk'
