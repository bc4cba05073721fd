import PyProof.Rows.All
import Wide.All
import OpenK.AllK
import Wide.FinOn
import PySem.Challenge.RW_ej5024_01
set_option Elab.async false
section PartK1
open PySem PySem.W PyProof.Rows PySem.Calls
open PySem.Sem (wp)
set_option Elab.async false
set_option maxRecDepth 100000
set_option maxHeartbeats 8000000
namespace Mine

/-- a code that is none of the decoders that hold a bytearray -/
def decOk : Code → Bool
  | .builtin id _ => !Builtin.Bytes.decodersThatHold.contains id
  | _ => true
/-- a context without such decoders -/
def Clean (Γ : PySem.Ctx) : Prop := decOk Γ.code = true ∧ ∀ x ∈ Γ.below, decOk x.1 = true

/-- wpAny over the clean contexts alone -/
def wpC {α : Type} (M : Model) (A : Around) (t : Sem α) (Q : α → Shared → Prop) (E : Value → Shared → Prop) (s : Shared) : Prop :=
  ∀ Γ p, Γ.In A → Clean Γ → wp M Γ t (fun a _ s' => Q a s') (fun e _ s' => E e s') p s
def codeC (M : Model) (A : Around) (c : Code) (R : Result → Shared → Prop) (s : Shared) : Prop :=
  ∀ Γ p, Γ.code = c → Γ.Below A → (∀ x ∈ Γ.below, decOk x.1 = true) → wpCode M Γ R p s

section
variable {α β : Type} {M : Model} {A : Around} {E : Value → Shared → Prop} {s : Shared}
theorem wpC_of {t : Sem α} {Q : α → Shared → Prop} (h : wpAny M A t Q E s) : wpC M A t Q E s := fun Γ p hΓ _ => h Γ p hΓ
theorem codeC_of {c : Code} {R : Result → Shared → Prop} (h : codeAny M A c R s) : codeC M A c R s := fun Γ p hc hΓ _ => h Γ p hc hΓ
theorem wpC_mono {t : Sem α} {Q Q' : α → Shared → Prop} {E' : Value → Shared → Prop} (h : wpC M A t Q E s) (hQ : ∀ a s, Q a s → Q' a s) (hE : ∀ e s, E e s → E' e s) : wpC M A t Q' E' s :=
  fun Γ p hΓ hc => Sem.wp_mono M Γ t (fun a _ s => hQ a s) (fun e _ s => hE e s) p s (h Γ p hΓ hc)
theorem wpC_pure {a : α} {Q : α → Shared → Prop} (h : Q a s) : wpC M A (pure a) Q E s := fun _ _ _ _ => h
theorem wpC_bind {m : Sem α} {f : α → Sem β} {Q : β → Shared → Prop} (h : wpC M A m (fun a s' => wpC M A (f a) Q E s') E s) : wpC M A (m >>= f) Q E s := fun Γ p hΓ hc => by
  rw [Sem.wp_bind']
  exact Sem.wp_mono M Γ m (fun a p' s' h' => h' Γ p' hΓ hc) (fun _ _ _ h' => h') p s (h Γ p hΓ hc)
/-- the first part in every context -/
theorem wpC_bindA {m : Sem α} {f : α → Sem β} {Q : β → Shared → Prop} (h : wpAny M A m (fun a s' => wpC M A (f a) Q E s') E s) : wpC M A (m >>= f) Q E s := wpC_bind (wpC_of h)
theorem wpC_onRaise {m : Sem α} {k : Value → Sem Unit} {Q : α → Shared → Prop} (h : wpC M A m Q (fun e s' => wpC M A (k e) (fun _ s'' => E e s'') E s') s) : wpC M A (m.onRaise k) Q E s := fun Γ p hΓ hc => by
  rw [Sem.wp_onRaise]
  exact Sem.wp_mono M Γ m (fun _ _ _ h' => h') (fun e p' s' h' => h' Γ p' hΓ hc) p s (h Γ p hΓ hc)
theorem wpC_attempt {m : Sem α} {Q : Except Value α → Shared → Prop} (h : wpC M A m (fun a => Q (.ok a)) (fun e => Q (.error e)) s) : wpC M A m.attempt Q E s := fun Γ p hΓ hc => by
  rw [Sem.wp_attempt]; exact h Γ p hΓ hc
theorem wpC_holding {vs : List Value} {m : Sem α} {Q : α → Shared → Prop} (h : wpC M A m Q E s) : wpC M A (holding vs m) Q E s := fun Γ p hΓ hc => by rw [Sem.wp_holding]; exact h Γ p hΓ hc
theorem wpC_keep {vs : List Value} {m : Sem α} {Q : α → Shared → Prop} (h : wpC M A m Q E s) : wpC M A (m.keep vs) Q E s := fun Γ p hΓ hc => by rw [Sem.wp_keep]; exact h Γ p hΓ hc
theorem wpC_eq {t t' : Sem α} {Q : α → Shared → Prop} (e : t = t') (h : wpC M A t' Q E s) : wpC M A t Q E s := e ▸ h
theorem wpC_ite {c : Prop} [Decidable c] {a b : Sem α} {Q : α → Shared → Prop} (h1 : c → wpC M A a Q E s) (h2 : ¬ c → wpC M A b Q E s) : wpC M A (if c then a else b) Q E s := by
  split
  · exact h1 ‹_›
  · exact h2 ‹_›
theorem wpC_standAt {pos : Pos} {Q : Unit → Shared → Prop} (h : Q () s) : wpC M A (standAt pos) Q E s := wpC_of (wpAny_standAt h)

theorem codeC_mono {c : Code} {R R' : Result → Shared → Prop} (h : codeC M A c R s) (hR : ∀ r s, R r s → R' r s) : codeC M A c R' s := fun Γ p hc hΓ hb => wpCode_mono hR (h Γ p hc hΓ hb)

theorem clean_enter {Γ : PySem.Ctx} (hc : Clean Γ) (c : Code) (h : Option Value) (p : Pos) : ∀ x ∈ (Γ.enter c h p).below, decOk x.1 = true := fun x hx => by
  rcases List.mem_cons.mp hx with rfl | hx
  · exact hc.1
  · exact hc.2 x hx

theorem wpC_run {c : Code} {h : Option Value} {Q : Flow → Shared → Prop} (hc : codeC M (A.mark h) c (fun r s' => match r with | .ok f => Q f s' | .error e => E e s') s) (hnb : h ≠ some byPass := by intro x; cases x) :
    wpC M A (run c h) Q E s := fun Γ p hΓ hcl => by rw [Sem.wp_run]; exact hc _ p rfl (hΓ.enter c h p hnb) (clean_enter hcl c h p)
theorem wpC_runValue {c : Code} {Q : Value → Shared → Prop} (hc : codeC M A c (fun r s' => match r with | .ok (.ret v) => Q v s' | .ok _ => False | .error e => E e s') s) :
    wpC M A (runValue c) Q E s := fun Γ p hΓ hcl => by rw [Sem.wp_runValue]; exact hc _ p rfl (hΓ.enter c none p (by intro x; cases x)) (clean_enter hcl c none p)
theorem wpC_call {f : Value} {pos : List Value} {kw : List (Str × Value)} {Q : Value → Shared → Prop} (hc : codeC M A (.call f ⟨pos, kw⟩) (fun r s' => match r with | .ok (.ret v) => Q v s' | .ok _ => False | .error e => E e s') s) :
    wpC M A (call f pos kw) Q E s := wpC_runValue hc

theorem codeC_of_tree {c : Code} {R : Result → Shared → Prop} (hd : decOk c = true)
    (h : wpC M (A.under c) (M.den c) (fun fin s' => match fin with | .done f => R (.ok f) s' | .again c' => c'.quiet = true ∧ codeC M A c' R s') (fun e s' => R (.error e) s') s) : codeC M A c R s := fun Γ p hc hΓ hb => by
  rw [wpCode_iff_wp, hc]
  refine Sem.wp_mono M Γ _ (fun fin p' s' h' => ?_) (fun _ _ _ h' => h') p s (h Γ p (hc ▸ hΓ.in) ⟨hc ▸ hd, hb⟩)
  cases fin with
  | done f => exact h'
  | again c' => exact ⟨h'.1, h'.2 (Γ.goto c') p' rfl (hΓ.goto c') hb⟩

theorem codeC_loop {c : Code} {R : Result → Shared → Prop} (hd : decOk c = true) (hq : c.quiet = true) (I : Nat → Shared → Prop)
    (turn : ∀ n s, I n s → wpC M (A.under c) (M.den c) (fun fin s' => match fin with | .done f => R (.ok f) s' | .again c' => c' = c ∧ ∃ m, m < n ∧ I m s') (fun e s' => R (.error e) s') s)
    (n : Nat) (h : I n s) : codeC M A c R s := by
  induction n using Nat.strongRecOn generalizing s with
  | ind n ih =>
    refine codeC_of_tree hd (wpC_mono (turn n s h) (fun fin s' hf => ?_) fun _ _ h' => h')
    cases fin with
    | done f => exact hf
    | again c' => obtain ⟨rfl, m, hm, hI⟩ := hf; exact ⟨hq, ih m hm hI⟩
end

/-- the caller's own context is clean -/
theorem caller_clean : Clean ⟨.builtin "claim.caller" {}, none, none, [], none⟩ := ⟨by decide +kernel, fun _ h => by cases h⟩

theorem ends_clean {prog : Program} {w : World} {t : Sem Fin} {s : Shared} {R : Result → Shared → Prop} (hreg : s.asleep)
    (h : wpC (model prog w) callerA t (fun fin s' => ∃ f, fin = .done f ∧ R (.ok f) s' ∧ leftWithCleanup s'.gens = false) (fun e s' => R (.error e) s' ∧ leftWithCleanup s'.gens = false) s) :
    ∃ n r s' s'', schedN (denote table) prog w n (.single s ⟨t, .builtin "claim.caller" {}, default, []⟩) = .halted (outcomeOf r) s' ∧
      runN (denote table) prog w n s ⟨t, .builtin "claim.caller" {}, default, []⟩ = .halted (outcomeOf r) s' ∧ s'.forget = s''.forget ∧ R r s'' := by
  have hw : wp (model prog w) ⟨.builtin "claim.caller" {}, none, none, [], none⟩ t (Sem.finPost (model prog w) ⟨.builtin "claim.caller" {}, none, none, [], none⟩ fun r s' => R r s' ∧ leftWithCleanup s'.gens = false)
      (fun e _ s' => R (.error e) s' ∧ leftWithCleanup s'.gens = false) default s :=
    Sem.wp_mono _ _ _ (fun fin p' s' h' => by obtain ⟨f, rfl, hf⟩ := h'; exact hf) (fun _ _ _ h' => h') _ _ (h _ default caller_in caller_clean)
  obtain ⟨n, r, s₁, s₂, h1, h2, h3, h4⟩ := wp_halts_full (M := model prog w) (R := R) hreg hw
  exact ⟨n, r, s₂, s₁, h1, h2, h3, h4⟩
end Mine
end PartK1
section PartK2
open PySem PySem.W PyProof.Rows PySem.Calls PySem.Spec
set_option Elab.async false
set_option maxRecDepth 100000
set_option maxHeartbeats 8000000
namespace Mine

/-- what is left of a law once its top has run: the call, from the caller's clean context -/
abbrev WalkC (q : Program) (loose : List Str) (XP : (Str → Option Value) → Heap → Prop) (YP : World → Heap → Prop) (r : RowW) (d : DefRec) (kwd : List (Str × Expr)) (run : Value → List Value → Sem Value) : Prop :=
  ∀ (w : World) (s₀ s₁ : Shared) (mg mb : Str → Option Value), Ground q loose r.records XP w s₀ mg mb s₁.heap → YP w s₁.heap → ∀ (a : Addr) (o : Obj) (pm cd doc dV kV : Value), s₁.heap.get? a = some o →
    o.data = .func { docDef d.name d.params d.body d.scope pm cd doc with defaults := dV, kwdefaults := kV } → s₁.heap.CodeRec cd d.name → Dflts mg s₁.heap d.params kwd dV kV → mg d.name = some (.ref a) → s₁.gens = #[] →
    ∀ (args : List WData) (vals : List Value) (as : List Addr), r.claim.pre args = true → WData.layableAll args = true → ReadsAllW r.records (classAt s₀.heap) s₁.heap vals args as → WellAll w.params s₁.heap vals args → (∀ a ∈ as, (a == sysModules) = false) →
      wpC (model r.prog w) callerA (run (.ref a) vals) (fun v s' => GoodWG r.claim (classAt s₀.heap) (ExcName.means s₀.heap) args s₁ (.ok (.ret v)) s')
        (fun e s' => GoodWG r.claim (classAt s₀.heap) (ExcName.means s₀.heap) args s₁ (.error e) s') s₁

theorem callFrom_clean {c : ClaimW} {tree : List Value → Sem Fin} {w : World} {s : Shared} {free : Addr → Prop} {gens : Prop} {kept : Heap → Prop} (hz : s.asleep) (hgens : s.gens = #[])
    (hspec : ∀ args, c.pre args = true → WData.layableAll args = true → ∀ ord : List DictEntry → List DictEntry, (∀ l, (ord l).Perm l) → ∃ vs s₁, layAllW c.records (classAt s.heap) w.params ord args s = some (vs, s₁) ∧
      wpC (model c.prog w) callerA (tree vs) (fun fin s' => ∃ f, fin = .done f ∧ c.Ends s args vs s₁ (.ok f) s' ∧ s'.os = s.os ∧ AllBare s'.gens ∧ kept s'.heap)
        (fun e s' => c.Ends s args vs s₁ (.error e) s' ∧ s'.os = s.os ∧ AllBare s'.gens ∧ kept s'.heap) s₁) :
    c.CallFrom (fun vs => ⟨tree vs, .builtin "claim.caller" {}, default, []⟩) w free gens kept s := fun args hpre hlay ord hord => by
  obtain ⟨vs, s₁, hlaid, hcode⟩ := hspec args hpre hlay ord hord
  have hal := layAllW_rest _ _ _ hlaid
  have hends := ends_clean (prog := c.prog) (w := w) (t := tree vs) (s := s₁) (R := fun r s' => c.Ends s args vs s₁ r s' ∧ s'.os = s.os ∧ kept s'.heap) (Shared.asleep_of_life hal.2.2.2 hz)
    (wpC_mono hcode (fun fin s' z => let ⟨f, e, h1, h2, h3, h4⟩ := z; ⟨f, e, ⟨h1, h2, h4⟩, leftWithCleanup_false_of_bare h3⟩) fun e s' z => let ⟨h1, h2, h3, h4⟩ := z; ⟨⟨h1, h2, h4⟩, leftWithCleanup_false_of_bare h3⟩)
  obtain ⟨k, r, s', s'', hsched, hrun, hfo, hcase, hos, hkp⟩ := hends
  obtain ⟨eh, _, _, eo, _⟩ := Shared.forget_eq hfo
  have hcase := hcase.congr eh
  rw [← eh] at hkp
  rw [← eo] at hos
  have hlife : s'.heap.life = s.heap.life := (runN_life _ _ _ hrun).trans hal.2.2.2
  refine ⟨vs, s₁, hlaid, k, _, s', hsched, ?_, (fun _ i x hx => by rw [hgens] at hx; simp at hx), hkp, by rw [hlife], Shared.rest_eq hos⟩
  rcases hcase with ⟨v, rfl, d1, d2, d3, d4, d5⟩ | ⟨e, ob, cls, rfl, d1, d2, d3, d4, d5⟩
  · exact .inl ⟨v, rfl, d1, d2, d3, fun b o y _ => d4 b o y, d5⟩
  · exact .inr ⟨e, ob, cls, rfl, d1, d2, d3, d4, fun b o y _ => d5 b o y⟩

/-- the head over the clean context: the head's tactic asks for it by this last name -/
theorem PySem.W.holds_open {r : OpenRow} {q : Program} {loose : List Str} {Xt : Shared → Bool} {XP : (Str → Option Value) → Heap → Prop} {α : Type} {Yf : Shared → α} {Ya : World → α} {YP : World → Heap → Prop} {d : DefRec} {kwd : List (Str × Expr)} {N : Nat}
    (left : LeftO r.prog q loose Xt Yf Ya N) (hY : ∀ w s, Yf s = Ya w → YP w s.heap) (hYk : ∀ w h h', YP w h → (∀ b o, h.get? b = some o → h'.get? b = some o) → YP w h')
    (hX : ∀ s, Xt s = true → XP (s.heap.nsMap mainGlobals) s.heap) (hXk : ∀ mg h h', XP mg h → (∀ b o, h.get? b = some o → h'.get? b = some o) → XP mg h')
    (hdef : defOf q r.name = some (d, kwd)) (hp : r.prog.theDef r.name = some (d.params, d.body, d.scope)) (hk : kwWritten? d.params.kwonlyargs d.params.kw_defaults = some kwd) (hRf : ∀ s, Xt s = true → RecFacts r.records s.heap) (hwr : (!r.writes || r.records.isEmpty) = true)
    (k1 : r.wellSaid = true) (ok : (chainsOk q && opensWell r.prog && (frees r.toRowW && r.within.isEmpty)) = true) (hb : r.prog.bare) (hw : r.toRowW.promised)
    (call : WalkC q loose XP YP r.toRowW d kwd fun f vs => PySem.call f vs) : r.Holds := by
  have o2 := Bool.and_eq_true_iff.mp ok
  have o3 := Bool.and_eq_true_iff.mp o2.1
  have o4 := Bool.and_eq_true_iff.mp o2.2
  obtain ⟨hsame, hu, ha, hap, hm⟩ := frees_parts o4.1
  have hwi : r.toRowW.claim.within = [] := List.isEmpty_iff.mp o4.2
  have hi := ident_freeW hu ha hap
  refine ⟨k1, hw, ⟨⟨hb, o3.2, by show r.makers.map _ = []; rw [hm]; rfl⟩, hw.witness, fun w => ⟨(left.behind hX o3.1 w).1, fun s' hs' => ?_⟩⟩⟩
  obtain ⟨s₀, hf, hg0, s, hT, hz, hgens, hg, G0, y⟩ := (left.behind (XP := fun mg h => XP mg h ∧ RecFacts r.records h) (fun s hs => ⟨hX s hs, hRf s hs⟩) o3.1 w).2 s' hs'
  have G1 : Ground q loose [] XP w s (s.heap.nsMap mainGlobals) (s.heap.nsMap builtinsNs) s.heap := ⟨G0.T, G0.B, G0.D, G0.TE, G0.TD, G0.W, G0.X.1, G0.cls, G0.has, G0.apart, G0.once, G0.K⟩
  have pin : ∀ n ∈ (if r.pinned then [r.name] else []), isTheDefsW r.prog s.heap n := fun n hn => by
    obtain rfl : n = r.name := by split at hn <;> simp_all
    exact pinned_of_view hg G1 hdef hp hk
  refine ⟨s₀, hf, hg0, s, hT, pin, G0.X.2.1, G0.X.2.2.1, ?_⟩
  have hgens : s.gens = #[] := Array.eq_empty_of_size_eq_zero (beq_iff_eq.mp hgens)
  have G : Ground q loose r.records XP w s _ _ s.heap := G0.X.2.ground G1
  refine callFrom_clean (c := r.toRowW.claim) (tree := fun vs => do match ← nsGet mainNs r.name with
      | some f => do ret (← PySem.call f vs)
      | none => unsupported "claim.caller:no-such-global") hz hgens fun args hpre hlay ord hord => ?_
  obtain ⟨⟨vs, s₁⟩, hlaid⟩ := Option.isSome_iff_exists.mp (layAllW_isSome (P := w.params) (ord := ord) G.has args r.args s (pre_splitW hpre).1)
  have keeps := layAllW_keeps _ _ _ hlaid
  have hal := layAllW_rest _ _ _ hlaid
  obtain ⟨as, hrd, hin, hold⟩ := reads_layAllW hord _ _ _ hlaid hlay s₁.heap (fun _ _ e => e)
  have L : Laid r.records w s s₁ args vs as := ⟨⟨ord, hord, hlaid⟩, hrd, hin, hold, keeps, hal.1.trans hgens, hal.2.2.1⟩
  have G₁ := G.keeps hXk keeps
  obtain ⟨a, o, pm, cd, doc, dV, kV, h1, h2, h3, h4, h5⟩ := G₁.fn hdef
  have h := call w s s₁ _ _ G₁ (hYk _ _ _ (hY w s y) keeps) a o pm cd doc dV kV h2 h3 h4 h5 (defOf_name hdef ▸ h1) L.gens args vs as hpre hlay L.reads L.well (L.low G.low)
  refine ⟨vs, s₁, hlaid, wpC_bindA (wpAny_nsGet G₁.T.g ?_)⟩
  rw [h1]
  refine wpC_bind (wpC_mono h (fun v s' g => wpC_pure ⟨_, rfl, ?_⟩) fun e s' g => ?_)
  all_goals (have z := g.laid (c := r.toRowW.claim) hsame hwi hi L; exact ⟨z.1, z.2.1, z.2.2, fun q => ⟨namesKept_of hT hg _ keeps g.2.1.old, noTable hwr q⟩⟩)
end Mine
end PartK2
section PartK3
open PySem PySem.W PyProof.Rows
set_option Elab.async false
set_option maxRecDepth 100000
set_option maxHeartbeats 8000000
namespace Mine
open_top hd for PySem.Challenge.rw_ej5024_01
end Mine
end PartK3
section PartB1
open PySem PySem.W PyProof.Rows PySem.Calls
set_option Elab.async false
set_option maxRecDepth 100000
set_option maxHeartbeats 8000000
namespace Mine


/-- the surroundings of a call, written out -/
abbrev amb (dp un : Nat) (outer : List Env) : Around := { handled := none, depth := dp, frames := some outer, guards := some [], units := un }

/-- what a heap keeps of another one, but for the places of ex -/
def Kept (ex : List Addr) (h h' : Heap) : Prop := ∀ b o, h.get? b = some o → b ∉ ex → h'.get? b = some o

/-- a plain return: the value and the heap meet P -/
def RetP (s : Shared) (ex : List Addr) (P : Value → Heap → Prop) (r : Result) (s' : Shared) : Prop :=
  ∃ v h' tk, r = .ok (.ret v) ∧ s' = { s with heap := h', toks := tk } ∧ Kept ex s.heap h' ∧ P v h'

def LeaveC (g : Heap) (L' : Addr) (s : Shared) (ex : List Addr) (P : Value → Heap → Prop) (v : Value) (s' : Shared) : Prop :=
  ∃ m' news' h' tk, s' = { s with heap := h', toks := tk } ∧ Fr g L' h' m' ∧ News g L' h' news' ∧ P v h'

/-- the ground under a call: the text's own objects stand, the frames below are frames, the places of ex are neither -/
structure Grd (h₀ : Heap) (outer : List Env) (ex : List Addr) (h : Heap) : Prop where
  stays : h₀.StaysIn h
  frames : h.FunFrames h₀ outer
  off : ∀ env ∈ outer, ∀ a ∈ ex, env.frame ≠ some a
  new : ∀ a ∈ ex, h₀.get? a = none

theorem fr_kept0 {g h h' : Heap} {L : Addr} {m : Str → Option Value} (F : Fr g L h m) (k : Kept [] h h') : Fr g L h' m :=
  ⟨F.ns.keeps fun b o e => k b o e (by simp), fun b o e => k b o (F.keep b o e) (by simp), F.above⟩
theorem news_kept0 {g h h' : Heap} {L : Addr} {news : List (Addr × Obj)} (N : News g L h news) (k : Kept [] h h') : News g L h' news :=
  fun q hq => ⟨k _ _ (N q hq).1 (by simp), (N q hq).2⟩

theorem Upd.mk {d : Addr} {o o' : Obj} : ∀ {pre post : List (Addr × Obj)}, (∀ p ∈ pre, p.1 ≠ d) → (∀ p ∈ post, p.1 ≠ d) → Upd d o o' (pre ++ (d, o) :: post) (pre ++ (d, o') :: post)
  | [], _, _, h2 => .head h2
  | q :: _, _, h1, h2 => .tail (h1 q (.head _)) (Upd.mk (fun x hx => h1 x (.tail _ hx)) h2)

/-- the law's state list: the script's cut, a count from nought on -/
def StA (h : Heap) (st ls : Addr) : Prop := ∃ k tk n, (0 : Int) ≤ k ∧ h.get? st = some (listOf #[.ref ls, .int k tk] n)

theorem StA.of_news {g h : Heap} {L st ls : Addr} {news : List (Addr × Obj)} {k : Int} {tk : Tok} {n : Nat} (N : News g L h news) (hm : (st, listOf #[.ref ls, .int k tk] n) ∈ news) (hk : 0 ≤ k) : StA h st ls :=
  ⟨k, tk, n, hk, (N _ hm).1⟩

section
variable {w : World} {dp un : Nat} {outer : List Env} {s : Shared} {h₀ : Heap} {K : Frag} {news : List (Addr × Obj)} {p : Program} {loose : List Str} {mean : ExcName → Option Value} {mg mb : Str → Option Value}
  {name qual : Str} {params : Arguments} {body : List Stmt} {scope : Scope} {dV kV doc pm cdv ct oc : Value} {an od : Option Addr} {osl : Array (Option Value)} {f : Addr} {args : Args} {binds : List (Str × Value)}
  {P : Value → Heap → Prop}

theorem enter (X : K.In h₀) (T : Top p loose mean mg mb h₀) (G : Grd h₀ outer (news.map (·.1)) s.heap) (N : ∀ q ∈ news, s.heap.get? q.1 = some q.2)
    (ho : K.lookup f = some ⟨oc, od, .func (fnOf name qual params body scope dV kV doc pm an cdv ct), osl⟩) (hcd : codeIn K cdv qual = true) (hroom : dp < recursionLimit)
    (hbind : BindsTo s (fnOf name qual params body scope dV kV doc pm an cdv ct) args binds) (hloc : ∀ y ∈ binds, scope.names.lookup y.1 = some .local)
    (h : ∀ g L' h₁, Below (amb dp un outer) h₀ outer g → K.In g → Top p loose mean mg mb g → Kept (news.map (·.1)) s.heap g → (∀ b o, g.get? b = some o → s.heap.get? b = some o) →
      Fr g L' h₁ (fun y => binds.reverse.lookup y) → News g L' h₁ news → (∀ q ∈ news, q.1 < L') →
      wpAny (model PySem.Challenge.rw_ej5024_01.row.prog w) ((amb dp un outer).deeper (envOf qual scope L' f cdv)) (execs body (envOf qual scope L' f cdv))
        (fun fl s' => LeaveC g L' s (news.map (·.1)) P (match fl with | .ret v => v | _ => .none) s') (fun _ _ => False)
        { s with heap := h₁, toks := s.toks + binds.length })
    (hcell : ∀ x ∈ scope.names, x.2 ≠ .cell) (hco : scope.isCoroutine = false := by rfl) (hgen : scope.isGenerator = false := by rfl) (hk : scope.kind = .function := by rfl) :
    codeAny (model PySem.Challenge.rw_ej5024_01.row.prog w) (amb dp un outer) (.call (.ref f) args) (RetP s (news.map (·.1)) P) s := by
  have nm : ∀ b o, h₀.get? b = some o → b ∉ news.map (·.1) := fun b o e q => by
    obtain ⟨x, hx, rfl⟩ := List.mem_map.mp q
    rw [G.new _ (List.mem_map_of_mem hx)] at e; cases e
  have st : h₀.StaysIn (hideAll s.heap (news.map (·.1))) := fun b o e => hideAll_get _ (G.stays b o e) (nm b o e)
  have kp : Kept (news.map (·.1)) s.heap (hideAll s.heap (news.map (·.1))) := fun b o e q => hideAll_get _ e q
  refine codeAny_call_def (fd := fnOf name qual params body scope dV kV doc pm an cdv ct) (body := body) (binds := binds) hroom (G.stays _ _ (X _ _ ho)) rfl (T.nolimit.keeps G.stays) (codeRec_of (X.keeps G.stays) hcd) rfl hbind hcell hloc (fun h₁ hns hk₁ => ?_) hco hgen hk
  refine wpAny_mono (h (hideAll s.heap (news.map (·.1))) s.heap.objs.size h₁ ⟨rfl, st, funFrames_hideAll G.frames G.off⟩ (X.keeps fun b o e => st b o e) (T.keeps fun b o e => st b o e) kp (fun b o e => of_hideAll _ e)
    ⟨hns, fun b o e => hk₁ b o (of_hideAll _ e), Nat.le_of_eq (hideAll_size _ _)⟩
    (fun q hq => ⟨hk₁ _ _ (N q hq), Nat.ne_of_lt (Heap.lt_size (N q hq)), hideAll_none _ (List.mem_map_of_mem hq)⟩) (fun q hq => Heap.lt_size (N q hq))) (fun fl s' hl => ?_) fun _ _ y => y.elim
  obtain ⟨m', news', h', tk, rfl, F', N', hP⟩ := hl
  exact ⟨_, h', tk, rfl, rfl, fun b o e q => F'.keep b o (kp b o e q), hP⟩

theorem enterC (X : K.In h₀) (T : Top p loose mean mg mb h₀) (G : Grd h₀ outer (news.map (·.1)) s.heap) (N : ∀ q ∈ news, s.heap.get? q.1 = some q.2)
    (ho : K.lookup f = some ⟨oc, od, .func (fnX name qual params body scope [] dV kV doc pm an cdv ct), osl⟩) (hcd : codeIn K cdv qual = true) (hroom : dp < recursionLimit)
    (hbind : BindsTo s (fnX name qual params body scope [] dV kV doc pm an cdv ct) args binds)
    (hkind : (binds.all fun y => scope.names.lookup y.1 == some .local || scope.names.lookup y.1 == some .cell) = true)
    (hnd : ((cellsFrom 0 scope.names []).map (·.1)).Nodup)
    (h : ∀ g L' h₁ tk cells, Below (amb dp un outer) h₀ outer g → K.In g → Top p loose mean mg mb g → Kept (news.map (·.1)) s.heap g → (∀ b o, g.get? b = some o → s.heap.get? b = some o) →
      Fr g L' h₁ (bindL (envOfC qual scope L' f cdv).kindOf binds fun _ => none) → News g L' h₁ (cells ++ news) →
      CellsAre (bindC (envOfC qual scope L' f cdv).kindOf binds fun _ => none) (cellsFrom (L' + 1) scope.names []) cells → (∀ q ∈ news, q.1 < L') →
      wpAny (model PySem.Challenge.rw_ej5024_01.row.prog w) ((amb dp un outer).deeper (envOfC qual scope L' f cdv)) (execs body (envOfC qual scope L' f cdv))
        (fun fl s' => LeaveC g L' s (news.map (·.1)) P (match fl with | .ret v => v | _ => .none) s') (fun _ _ => False)
        { s with heap := h₁, toks := tk })
    (hco : scope.isCoroutine = false := by rfl) (hgen : scope.isGenerator = false := by rfl) (hk : scope.kind = .function := by rfl) :
    codeAny (model PySem.Challenge.rw_ej5024_01.row.prog w) (amb dp un outer) (.call (.ref f) args) (RetP s (news.map (·.1)) P) s := by
  have nm : ∀ b o, h₀.get? b = some o → b ∉ news.map (·.1) := fun b o e q => by
    obtain ⟨x, hx, rfl⟩ := List.mem_map.mp q
    rw [G.new _ (List.mem_map_of_mem hx)] at e; cases e
  have st : h₀.StaysIn (hideAll s.heap (news.map (·.1))) := fun b o e => hideAll_get _ (G.stays b o e) (nm b o e)
  have kp : Kept (news.map (·.1)) s.heap (hideAll s.heap (news.map (·.1))) := fun b o e q => hideAll_get _ e q
  refine codeAny_call_function hroom (G.stays _ _ (X _ _ ho)) rfl hco hgen rfl (codeRec_of (X.keeps G.stays) hcd) (hbind _ _ _ _ ?_)
  refine wpAny_newFunctionEnv_cells hk (kindsX hkind _) fun env' he s' x => ?_
  subst he
  refine ⟨(T.nolimit.keeps G.stays).keeps x.toInCall.keep, codeAny_func ?_⟩
  obtain ⟨h₁, tk, rfl, _⟩ := x.done
  have hk₁ := x.toInCall.keep
  obtain ⟨cells, NC, Y⟩ := Cl.news (h₀ := s.heap) (Nat.le_refl _) fun n c hm => ⟨x.cell n c (lookup_of_mem_nodup (cellsFrom_names scope.names 0 (s.heap.objs.size + 1) [] [] rfl ▸ hnd) hm), x.above n c hm⟩
  refine wpAny_mono (h (hideAll s.heap (news.map (·.1))) s.heap.objs.size h₁ tk cells ⟨rfl, st, funFrames_hideAll G.frames G.off⟩ (X.keeps fun b o e => st b o e) (T.keeps fun b o e => st b o e) kp (fun b o e => of_hideAll _ e)
    ⟨x.toInCall.ns, fun b o e => hk₁ b o (of_hideAll _ e), Nat.le_of_eq (hideAll_size _ _)⟩ (fun q hq => ?_) Y (fun q hq => Heap.lt_size (N q hq))) (fun fl s' hl => ?_) fun _ _ y => y.elim
  · rcases List.mem_append.mp hq with hq | hq
    · refine ⟨(NC q hq).1, (NC q hq).2.1, ?_⟩
      cases z : (hideAll s.heap (news.map (·.1))).get? q.1 with
      | none => rfl
      | some o => have := of_hideAll _ z; rw [(NC q hq).2.2] at this; cases this
    · exact ⟨hk₁ _ _ (N q hq), Nat.ne_of_lt (Heap.lt_size (N q hq)), hideAll_none _ (List.mem_map_of_mem hq)⟩
  · obtain ⟨m', news', h', tk, rfl, F', N', hP⟩ := hl
    exact ⟨_, h', tk, rfl, rfl, fun b o e q => F'.keep b o (kp b o e q), hP⟩

theorem Grd.push {g h : Heap} {L' : Addr} {m : Str → Option Value} {env : Env} {ex : List Addr} (B : Below (amb dp un outer) h₀ outer g) (F : Fr g L' h m) (N : News g L' h news) (hf : env.frame = some L') (hk : env.scope.kind = .function)
    (hex : ∀ a ∈ ex, a ∈ news.map (·.1)) : Grd h₀ (env :: outer) ex h := by
  have B' := pushX (env := env) B F hf hk
  have mem : ∀ a ∈ ex, a ≠ L' ∧ g.get? a = none := fun a ha => by
    obtain ⟨q, hq, rfl⟩ := List.mem_map.mp (hex a ha)
    exact (N q hq).2
  refine ⟨B'.stays, B'.frames, fun e he a ha q => ?_, fun a ha => ?_⟩
  · rcases List.mem_cons.mp he with rfl | he
    · exact (mem a ha).1 (Option.some.inj (q.symm.trans hf))
    · obtain ⟨L₁, o₁, hf₁, ho₁⟩ := funFrames_in B.frames e he
      rw [hf₁] at q
      have := (mem a ha).2
      rw [← Option.some.inj q, ho₁] at this; cases this
  · cases q : h₀.get? a with
    | none => rfl
    | some o => have := B.stays _ _ q; rw [(mem a ha).2] at this; cases this

theorem leaveC_ {g : Heap} {L' : Addr} {ex : List Addr} {v : Value} {h' : Heap} {tk : Nat} {m' : Str → Option Value} {news' : List (Addr × Obj)} (F : Fr g L' h' m') (N : News g L' h' news') (hP : P v h') :
    LeaveC g L' s ex P v { s with heap := h', toks := tk } := ⟨_, _, _, _, rfl, F, N, hP⟩

theorem after {g h h' : Heap} {L : Addr} {m : Str → Option Value} {st : Addr} {o o' : Obj} {news news' : List (Addr × Obj)} (F : Fr g L h m) (N : News g L h news) (U : Upd st o o' news news') (k : Kept [st] h h') (ho : h'.get? st = some o') :
    Fr g L h' m ∧ News g L h' news' := by
  obtain ⟨pre, post, rfl, rfl, h1, h2⟩ := U.split
  have D := N (st, o) (by simp)
  obtain ⟨oL, es, ep, hL, r⟩ := F.ns
  have ne : ∀ b, b ≠ st → b ∉ [st] := fun b q => by simpa using q
  refine ⟨⟨⟨oL, es, ep, k _ _ hL (ne _ (Ne.symm D.2.1)), r⟩, fun b x q => k _ _ (F.keep b x q) (ne _ fun z => ?_), F.above⟩, fun p hp => ?_⟩
  · have := D.2.2; rw [← z, q] at this; cases this
  · rcases List.mem_append.mp hp with q | q
    · have P := N p (List.mem_append_left _ q); exact ⟨k _ _ P.1 (ne _ (h1 p q)), P.2⟩
    · rcases List.mem_cons.mp q with rfl | q
      · exact ⟨ho, D.2⟩
      · have P := N p (List.mem_append_right _ (.tail _ q)); exact ⟨k _ _ P.1 (ne _ (h2 p q)), P.2⟩
end

end Mine
end PartB1
section PartC1
open PySem PySem.W PyProof.Rows PySem.Calls
set_option Elab.async false
set_option maxRecDepth 100000
set_option maxHeartbeats 8000000
namespace Mine
theorem next_c {w : World} {dp un : Nat} {outer : List Env} {s : Shared} {h₀ : Heap} {p : Program} {loose : List Str} {mean : ExcName → Option Value} {mg mb : Str → Option Value}
    {st ls : Addr} {vs : List Value} {ns : List Int} {lim : Int} {tl : Tok}
    (X : (Mine.hd.heap_39 w.params).In h₀) (T : Top p loose mean mg mb h₀) (G : Grd h₀ outer [st] s.heap) (hst : StA s.heap st ls) (hls : s.heap.IsList ls vs.toArray) (hI : IntsAre vs ns)
    (hne : ls ≠ st) (hlen : ns.length ≤ 63) (hlim : 0 < lim) (hd : dp + 3 < recursionLimit) (hu : un + 30 < cLine) :
    codeAny (model PySem.Challenge.rw_ej5024_01.row.prog w) (amb dp un outer) (.call (.ref 191) ⟨[.ref st, .int lim tl], []⟩)
      (RetP s [st] fun v h' => (∃ i t, v = .int i t ∧ 0 ≤ i ∧ i < lim) ∧ StA h' st ls) s := by
  revert X; k_fill; intro X
  obtain ⟨k, tk, n, hk, hst⟩ := hst
  refine' enter (news := [(st, listOf #[.ref ls, .int k tk] n)]) (binds := [("state", .ref st), ("limit", .int lim tl)]) X T G ?_ ?ho ?hcd ?hroom ?hbind ?hloc ?body ?hcell ?c2 ?c3 ?c4
  case ho => k_is
  case hcd => k_is
  case hroom => omega
  case hbind => exact BindsTo.of_eq rfl
  case hloc => exact locs rfl
  case hcell => decide
  case c2 => rfl
  case c3 => rfl
  case c4 => rfl
  · intro q hq; cases hq with
    | head => exact hst
    | tail _ q => cases q
  intro g L' h₁ B X' T' hkp hsub F N hlt
  have hls' : g.IsList ls vs.toArray := by obtain ⟨o, ho, r⟩ := hls; exact ⟨o, hkp _ _ ho (by simpa using hne), r⟩
  clear hkp hsub hls hst G X T
  k_steps
  · refine leaveC_ (by assumption) (by assumption) ⟨⟨_, _, rfl, by omega, by omega⟩, ?_⟩
    exact StA.of_news (by assumption) (by k_mem) (by omega)
  · refine leaveC_ (by assumption) (by assumption) ⟨⟨_, _, rfl, Int.fmod_nonneg_of_pos _ hlim, Int.fmod_lt_of_pos _ hlim⟩, ?_⟩
    exact StA.of_news (by assumption) (by k_mem) (by omega)
theorem next_call {w : World} {dp un : Nat} {outer : List Env} {s : Shared} {h₀ g : Heap} {L : Addr} {m : Str → Option Value} {news : List (Addr × Obj)} {upd : Obj → List (Addr × Obj)} {p : Program} {loose : List Str} {mean : ExcName → Option Value} {mg mb : Str → Option Value}
    {env : Env} {st ls : Addr} {vs : List Value} {ns : List Int} {k lim : Int} {tk tl : Tok} {n : Nat} {Q E : Value → Shared → Prop}
    (X : (Mine.hd.heap_39 w.params).In h₀) (T : Top p loose mean mg mb h₀) (B : Below (amb dp un outer) h₀ outer g) (F : Fr g L s.heap m) (N : News g L s.heap news) (U : UpdF st (listOf #[.ref ls, .int k tk] n) news upd)
    (hls : g.IsList ls vs.toArray) (hI : IntsAre vs ns) (hlen : ns.length ≤ 63) (hk : 0 ≤ k) (hf : env.frame = some L) (hkd : env.scope.kind = .function) (hlim : 0 < lim) (hd : dp + 4 < recursionLimit) (hu : un + 33 < cLine)
    (h : ∀ i t h' k' tk' n' tok, 0 ≤ i → i < lim → 0 ≤ k' → Fr g L h' m → News g L h' (upd (listOf #[.ref ls, .int k' tk'] n')) → Q (.int i t) { s with heap := h', toks := tok }) :
    wpAny (model PySem.Challenge.rw_ej5024_01.row.prog w) ((amb dp un outer).deeper env) (call (.ref 191) [.ref st, .int lim tl]) Q E s := by
  obtain ⟨pre, post, rfl, hupd, h1, h2⟩ := U.split
  have D := N (st, listOf #[.ref ls, .int k tk] n) (by simp)
  have hne : ls ≠ st := fun q => by
    obtain ⟨o, ho, _⟩ := hls
    have := D.2.2; rw [← q, ho] at this; cases this
  have hls' : s.heap.IsList ls vs.toArray := by obtain ⟨o, ho, r⟩ := hls; exact ⟨o, F.keep _ _ ho, r⟩
  refine wpAny_call (codeAny_mono (next_c (dp := dp + 1) (un := un + 3) (outer := env :: outer) X T (Grd.push (ex := [st]) B F N hf hkd (by simp)) ⟨k, tk, n, hk, D.1⟩ hls' hI hne hlen hlim (by omega) (by omega)) ?_)
  rintro r s' ⟨v, h', tk', rfl, rfl, hkp, ⟨i, t, rfl, hi, hi2⟩, k', tk₂, n', hk', hst'⟩
  have := after F N (Upd.mk h1 h2) hkp hst'
  refine h i t h' k' tk₂ n' tk' hi hi2 hk' this.1 ?_
  rw [hupd]; exact this.2

end Mine
end PartC1
section PartC2
open PySem PySem.W PyProof.Rows PySem.Calls
set_option Elab.async false
set_option maxRecDepth 100000
set_option maxHeartbeats 8000000
namespace Mine
local macro_rules | `(tactic| walk_at "call ref") => `(tactic| (k_here; (with_reducible show wpAny _ _ (PySem.call (Value.ref 191) _) _ _ _); k_dflt (refine' next_call ?X ?T ?B ?F ?N ?U ?ls ?I ?len ?k ?f ?kd ?lim ?d ?u ?_; (case F => k_asm); (case N => k_asm); (case B => k_asm); (case X => k_asm); (case T => k_asm); (case U => k_updF); (case ls => k_asm); (case I => k_asm); (case len => k_asm); (case k => omega); (case f => rfl); (case kd => rfl); (case lim => first | omega | decide); (case d => omega); (case u => omega)); intro i9 t9 h9 k9 tk9 n9 tok9 hi9 hj9 hk9 F9 N9; (try dsimp only at N9); (try k_sweep)))

theorem pick5 {i : Int} (h0 : 0 ≤ i) (h5 : i < 5) {P : Int → Prop} {a b c d e : Int} (ha : P a) (hb : P b) (hc : P c) (hd : P d) (he : P e) : P ([a, b, c, d, e].getD i.toNat 0) := by
  have : i = 0 ∨ i = 1 ∨ i = 2 ∨ i = 3 ∨ i = 4 := by omega
  rcases this with rfl | rfl | rfl | rfl | rfl <;> assumption

theorem signed_c {w : World} {dp un : Nat} {outer : List Env} {s : Shared} {h₀ : Heap} {p : Program} {loose : List Str} {mean : ExcName → Option Value} {mg mb : Str → Option Value}
    {st ls : Addr} {vs : List Value} {ns : List Int} {bits : Int} {tl : Tok}
    (X : (Mine.hd.heap_39 w.params).In h₀) (T : Top p loose mean mg mb h₀) (G : Grd h₀ outer [st] s.heap) (hst : StA s.heap st ls) (hls : s.heap.IsList ls vs.toArray) (hI : IntsAre vs ns)
    (hne : ls ≠ st) (hlen : ns.length ≤ 63) (hb : bits = 8 ∨ bits = 16 ∨ bits = 32) (hd : dp + 6 < recursionLimit) (hu : un + 60 < cLine) :
    codeAny (model PySem.Challenge.rw_ej5024_01.row.prog w) (amb dp un outer) (.call (.ref 198) ⟨[.ref st, .int bits tl], []⟩)
      (RetP s [st] fun v h' => (∃ i t, v = .int i t ∧ -2 ^ (bits - 1).toNat ≤ i ∧ i < 2 ^ (bits - 1).toNat) ∧ StA h' st ls) s := by
  revert X; k_fill; intro X
  obtain ⟨k, tk, n, hk, hst⟩ := hst
  refine' enter (news := [(st, listOf #[.ref ls, .int k tk] n)]) (binds := [("state", .ref st), ("bits", .int bits tl)]) X T G ?_ ?ho ?hcd ?hroom ?hbind ?hloc ?body ?hcell ?c2 ?c3 ?c4
  case ho => k_is
  case hcd => k_is
  case hroom => omega
  case hbind => exact BindsTo.of_eq rfl
  case hloc => exact locs rfl
  case hcell => decide
  case c2 => rfl
  case c3 => rfl
  case c4 => rfl
  · intro q hq; cases hq with
    | head => exact hst
    | tail _ q => cases q
  intro g L' h₁ B X' T' hkp hsub F N hlt
  have hls' : g.IsList ls vs.toArray := by obtain ⟨o, ho, r⟩ := hls; exact ⟨o, hkp _ _ ho (by simpa using hne), r⟩
  clear hkp hsub hls hst G
  rcases hb with rfl | rfl | rfl
  all_goals (
    k_steps
    refine leaveC_ (by assumption) (by assumption) ⟨⟨_, _, rfl, ?_⟩, StA.of_news (by assumption) (by k_mem) (by omega)⟩
    refine pick5 (by assumption) (by assumption) (P := fun x => _ ≤ x ∧ x < _) ?_ ?_ ?_ ?_ ?_ <;> (simp only [Int.reduceSub, Int.reduceToNat, Int.reducePow, Int.reduceNeg] at *; omega))

theorem signed_call {w : World} {dp un : Nat} {outer : List Env} {s : Shared} {h₀ g : Heap} {L : Addr} {m : Str → Option Value} {news : List (Addr × Obj)} {upd : Obj → List (Addr × Obj)} {p : Program} {loose : List Str} {mean : ExcName → Option Value} {mg mb : Str → Option Value}
    {env : Env} {st ls : Addr} {vs : List Value} {ns : List Int} {k bits : Int} {tk tl : Tok} {n : Nat} {Q E : Value → Shared → Prop}
    (X : (Mine.hd.heap_39 w.params).In h₀) (T : Top p loose mean mg mb h₀) (B : Below (amb dp un outer) h₀ outer g) (F : Fr g L s.heap m) (N : News g L s.heap news) (U : UpdF st (listOf #[.ref ls, .int k tk] n) news upd)
    (hls : g.IsList ls vs.toArray) (hI : IntsAre vs ns) (hlen : ns.length ≤ 63) (hk : 0 ≤ k) (hf : env.frame = some L) (hkd : env.scope.kind = .function) (hb : bits = 8 ∨ bits = 16 ∨ bits = 32) (hd : dp + 7 < recursionLimit) (hu : un + 63 < cLine)
    (h : ∀ i t h' k' tk' n' tok, -2 ^ (bits - 1).toNat ≤ i → i < 2 ^ (bits - 1).toNat → 0 ≤ k' → Fr g L h' m → News g L h' (upd (listOf #[.ref ls, .int k' tk'] n')) → Q (.int i t) { s with heap := h', toks := tok }) :
    wpAny (model PySem.Challenge.rw_ej5024_01.row.prog w) ((amb dp un outer).deeper env) (call (.ref 198) [.ref st, .int bits tl]) Q E s := by
  obtain ⟨pre, post, rfl, hupd, h1, h2⟩ := U.split
  have D := N (st, listOf #[.ref ls, .int k tk] n) (by simp)
  have hne : ls ≠ st := fun q => by
    obtain ⟨o, ho, _⟩ := hls
    have := D.2.2; rw [← q, ho] at this; cases this
  have hls' : s.heap.IsList ls vs.toArray := by obtain ⟨o, ho, r⟩ := hls; exact ⟨o, F.keep _ _ ho, r⟩
  refine wpAny_call (codeAny_mono (signed_c (dp := dp + 1) (un := un + 3) (outer := env :: outer) X T (Grd.push (ex := [st]) B F N hf hkd (by simp)) ⟨k, tk, n, hk, D.1⟩ hls' hI hne hlen hb (by omega) (by omega)) ?_)
  rintro r s' ⟨v, h', tk', rfl, rfl, hkp, ⟨i, t, rfl, hi, hi2⟩, k', tk₂, n', hk', hst'⟩
  have := after F N (Upd.mk h1 h2) hkp hst'
  refine h i t h' k' tk₂ n' tk' hi hi2 hk' this.1 ?_
  rw [hupd]; exact this.2

end Mine
end PartC2
section PartC3
open PySem PySem.W PyProof.Rows PySem.Calls
set_option Elab.async false
set_option maxRecDepth 100000
set_option maxHeartbeats 8000000
namespace Mine
theorem pow256_ne (n : Nat) : ((256 : Int) ^ n) ≠ 0 := Int.pow_ne_zero (by decide)
theorem pow256_lt {n : Nat} (h : n ≤ 3) : ((256 : Int) ^ n).natAbs < 1073741824 := by
  have : n = 0 ∨ n = 1 ∨ n = 2 ∨ n = 3 := by omega
  rcases this with rfl | rfl | rfl | rfl <;> decide
local macro_rules | `(tactic| walk_at "binaryOp FloorDiv int int") => `(tactic| (k_here; (with_reducible refine floordiv_int ?kbe ?_ (Or.inl (PyProof.noPylong_small ?kbp))); (case kbe => exact pow256_ne _); (case kbp => exact pow256_lt (by omega))))

/-- the octets of a number, the greatest first -/
def beL (x size : Int) : List Int := List.map (fun k => (x.fdiv (256 ^ (size - 1 - k).toNat)).fmod 256) (rangeKs 0 (size - 0).toNat)

theorem octets_c {w : World} {dp un : Nat} {outer : List Env} {s : Shared} {h₀ : Heap} {p : Program} {loose : List Str} {mean : ExcName → Option Value} {mg mb : Str → Option Value}
    {x size : Int} {tl tl2 : Tok}
    (X : (Mine.hd.heap_39 w.params).In h₀) (T : Top p loose mean mg mb h₀) (G : Grd h₀ outer [] s.heap) 
    (hb : size = 1 ∨ size = 2 ∨ size = 4) (hd : dp + 6 < recursionLimit) (hu : un + 60 < cLine) :
    codeAny (model PySem.Challenge.rw_ej5024_01.row.prog w) (amb dp un outer) (.call (.ref 203) ⟨[.int x tl, .int size tl2], []⟩)
      (RetP s [] fun v h' => ∃ t, v = .bytes (byteArr (beL x size)) t) s := by
  revert X; k_fill; intro X
  refine' enterC (news := []) (binds := [("number", .int x tl), ("size", .int size tl2)]) X T G ?_ ?ho ?hcd ?hroom ?hbind ?hkind ?hnd ?body ?c2 ?c3 ?c4
  case ho => k_is
  case hcd => k_is
  case hroom => omega
  case hbind => exact BindsTo.of_eq rfl
  case hkind => rfl
  case hnd => decide +kernel
  case c2 => rfl
  case c3 => rfl
  case c4 => rfl
  · intro q hq; cases hq
  intro g L' h₁ tk' cells' B X' T' hkp hsub F N' Y' l1
  k_cells Y'
  simp only [List.cons_append, List.nil_append] at N'
  (try dsimp only)
  clear hkp hsub G
  rcases hb with rfl | rfl | rfl
  all_goals (
    k_steps
    exact leaveC_ (by assumption) (by assumption) ⟨_, rfl⟩)

theorem octets_call {w : World} {dp un : Nat} {outer : List Env} {s : Shared} {h₀ g : Heap} {L : Addr} {m : Str → Option Value} {news : List (Addr × Obj)} {p : Program} {loose : List Str} {mean : ExcName → Option Value} {mg mb : Str → Option Value}
    {env : Env} {x size : Int} {tl tl2 : Tok} {Q E : Value → Shared → Prop}
    (X : (Mine.hd.heap_39 w.params).In h₀) (T : Top p loose mean mg mb h₀) (B : Below (amb dp un outer) h₀ outer g) (F : Fr g L s.heap m) (N : News g L s.heap news)
    (hb : size = 1 ∨ size = 2 ∨ size = 4) (hf : env.frame = some L) (hkd : env.scope.kind = .function) (hd : dp + 7 < recursionLimit) (hu : un + 63 < cLine)
    (h : ∀ t h' tok, Fr g L h' m → News g L h' news → Q (.bytes (byteArr (beL x size)) t) { s with heap := h', toks := tok }) :
    wpAny (model PySem.Challenge.rw_ej5024_01.row.prog w) ((amb dp un outer).deeper env) (call (.ref 203) [.int x tl, .int size tl2]) Q E s := by
  refine wpAny_call (codeAny_mono (octets_c (dp := dp + 1) (un := un + 3) (outer := env :: outer) X T (Grd.push (ex := []) B F N hf hkd (by simp)) hb (by omega) (by omega)) ?_)
  rintro r s' ⟨v, h', tk', rfl, rfl, hkp, t, rfl⟩
  exact h t h' tk' (fr_kept0 F hkp) (news_kept0 N hkp)

end Mine
end PartC3
section PartC4
open PySem PySem.W PyProof.Rows PySem.Calls
set_option Elab.async false
set_option maxRecDepth 100000
set_option maxHeartbeats 8000000
namespace Mine
local macro_rules | `(tactic| walk_at "call ref") => `(tactic| (k_here; (with_reducible show wpAny _ _ (PySem.call (Value.ref 191) _) _ _ _); k_dflt (refine' next_call ?X ?T ?B ?F ?N ?U ?ls ?I ?len ?k ?f ?kd ?lim ?d ?u ?_; (case F => k_asm); (case N => k_asm); (case B => k_asm); (case X => k_asm); (case T => k_asm); (case U => k_updF); (case ls => k_asm); (case I => k_asm); (case len => k_asm); (case k => omega); (case f => rfl); (case kd => rfl); (case lim => first | omega | decide); (case d => omega); (case u => omega)); intro i9 t9 h9 k9 tk9 n9 tok9 hi9 hj9 hk9 F9 N9; (try dsimp only at N9); (try k_sweep)))
local macro_rules | `(tactic| walk_at "call ref") => `(tactic| (k_here; (with_reducible show wpAny _ _ (PySem.call (Value.ref 198) _) _ _ _); k_dflt (refine' signed_call ?X ?T ?B ?F ?N ?U ?ls ?I ?len ?k ?f ?kd ?lim ?d ?u ?_; (case F => k_asm); (case N => k_asm); (case B => k_asm); (case X => k_asm); (case T => k_asm); (case U => k_updF); (case ls => k_asm); (case I => k_asm); (case len => k_asm); (case k => omega); (case f => rfl); (case kd => rfl); (case lim => first | omega | decide); (case d => omega); (case u => omega)); intro i9 t9 h9 k9 tk9 n9 tok9 hi9 hj9 hk9 F9 N9; (try dsimp only at N9); (try k_sweep)))
local macro_rules | `(tactic| walk_at "call ref") => `(tactic| (k_here; (with_reducible show wpAny _ _ (PySem.call (Value.ref 203) _) _ _ _); k_dflt (refine' octets_call ?X ?T ?B ?F ?N ?lim ?f ?kd ?d ?u ?_; (case F => k_asm); (case N => k_asm); (case B => k_asm); (case X => k_asm); (case T => k_asm); (case f => rfl); (case kd => rfl); (case lim => first | omega | decide); (case d => omega); (case u => omega)); intro t9 h9 tok9 F9 N9; (try k_sweep)))

theorem rangeKs_len (n : Nat) : (rangeKs 0 n).length = n := rangeKs_length 0 n
theorem beL_length (x size : Int) : (beL x size).length = (size - 0).toNat := by rw [beL, List.length_map, rangeKs_length]
theorem rep_flat (n : Nat) (b : UInt8) : (List.replicate n [b]).flatten = List.replicate n b := by
  induction n with
  | zero => rfl
  | succ n ih => rw [List.replicate_succ, List.flatten_cons, ih, List.replicate_succ]; rfl
theorem rep_add {n : Nat} {x : Int} (h : n ≤ 100) : ((List.replicate n [(0 : UInt8)]).flatten.toArray).size + (byteArr (beL x 4)).size ≤ 16777216 := by
  rw [rep_flat, byteArr_size, beL_length, List.size_toArray, List.length_replicate]
  show n + 4 ≤ _
  omega
local macro_rules | `(tactic| walk_at "binaryOp Add bytes bytes") => `(tactic| (k_here; (with_reducible show wpAny _ _ (binaryOp Operator.Add (Value.bytes (List.toArray (List.flatten _)) _) (Value.bytes _ _)) _ _ _); (refine KBy.add_bytes (rep_add (by omega)) ?_); intro _ _))

/-- the octets of a number as a list -/
def bl (x size : Int) : List UInt8 := (byteArr (beL x size)).toList

/-- what a piece of each kind holds: its octets, and what is due -/
inductive Due : Int → List UInt8 → List Value → Prop
  | k0 {x : Int} {t : Tok} : -2 ^ 31 ≤ x → x < 2 ^ 31 → Due 0 (bl x 4) [.int x t]
  | k1 {x : Int} {t : Tok} : 0 ≤ x → x ≤ 65535 → Due 1 (bl x 2) [.int x t]
  | k2 {a b c d e f : Int} {ta tb tc td te tf : Tok} : -2 ^ 31 ≤ a → a < 2 ^ 31 → -2 ^ 15 ≤ b → b < 2 ^ 15 → -2 ^ 31 ≤ c → c < 2 ^ 31 → -2 ^ 15 ≤ d → d < 2 ^ 15 → -2 ^ 31 ≤ e → e < 2 ^ 31 → -2 ^ 15 ≤ f → f < 2 ^ 15 →
      Due 2 (bl a 4 ++ bl b 2 ++ bl c 4 ++ bl d 2 ++ bl e 4 ++ bl f 2) [.int a ta, .int b tb, .int c tc, .int d td, .int e te, .int f tf]
  | k3 {c : UInt8} {x : Int} {tc t : Tok} : -2 ^ 31 ≤ x → x < 2 ^ 31 → Due 3 (c :: bl x 4) [.bytes #[c] tc, .int x t]
  | k4 {a b : Int} {ta tb : Tok} : -2 ^ 7 ≤ a → a < 2 ^ 7 → -2 ^ 15 ≤ b → b < 2 ^ 15 → Due 4 (bl a 1 ++ bl b 2) [.int a ta, .int b tb]
  | k5 {z : Nat} {x : Int} {t : Tok} : 1 ≤ z → z ≤ 5 → -2 ^ 31 ≤ x → x < 2 ^ 31 → Due 5 (List.replicate z 0 ++ bl x 4) [.int x t]

abbrev tupOf (its : Array Value) (n : Nat) : Obj := { cls := .type "tuple", data := .seq its n }

/-- a piece of the law's at a value: kind, octets, what is due -/
def PieceAt (h : Heap) (v : Value) (kind : Int) (b : List UInt8) (ds : List Value) : Prop :=
  ∃ a d tk tb n₁ n₂, v = .ref a ∧ h.get? a = some (tupOf #[.int kind tk, .bytes b.toArray tb, .ref d] n₁) ∧ h.get? d = some (tupOf ds.toArray n₂) ∧ Due kind b ds

theorem PieceAt.of_news {g h : Heap} {L a d : Addr} {news : List (Addr × Obj)} {kind kind' : Int} {b : List UInt8} {B : Array UInt8} {ds : List Value} {tk tb : Tok} {n₁ n₂ : Nat} (N : News g L h news)
    (h1 : (a, tupOf #[.int kind' tk, .bytes B tb, .ref d] n₁) ∈ news) (h2 : (d, tupOf ds.toArray n₂) ∈ news) (hB : B = b.toArray) (D : Due kind b ds) (hk : kind' = kind) : ∃ kind b ds, PieceAt h (.ref a) kind b ds := by
  subst hB hk
  exact ⟨_, _, _, a, d, tk, tb, n₁, n₂, rfl, (N _ h1).1, (N _ h2).1, D⟩

theorem fresh_kept {h g : Heap} {ex : List Addr} {a : Addr} (k : Kept ex h g) (hg : g.get? a = none) (hn : a ∉ ex) : h.get? a = none := by
  cases q : h.get? a with
  | none => rfl
  | some o => have := k a o q hn; rw [hg] at this; cases this
/-- a piece whose places are new -/
def PieceNew (h₀ h : Heap) (v : Value) (kind : Int) (b : List UInt8) (ds : List Value) : Prop :=
  ∃ a d tk tb n₁ n₂, v = .ref a ∧ h.get? a = some (tupOf #[.int kind tk, .bytes b.toArray tb, .ref d] n₁) ∧ h.get? d = some (tupOf ds.toArray n₂) ∧ Due kind b ds ∧ h₀.get? a = none ∧ h₀.get? d = none
theorem PieceNew.of_news {h₀ g h : Heap} {L a d st ls : Addr} {news : List (Addr × Obj)} {kind kind' : Int} {b : List UInt8} {B : Array UInt8} {ds : List Value} {tk tb : Tok} {n₁ n₂ : Nat} (hkp : Kept [st] h₀ g) (S : StA h st ls) (N : News g L h news)
    (h1 : (a, tupOf #[.int kind' tk, .bytes B tb, .ref d] n₁) ∈ news) (h2 : (d, tupOf ds.toArray n₂) ∈ news) (hB : B = b.toArray) (D : Due kind b ds) (hk : kind' = kind) : ∃ kind b ds, PieceNew h₀ h (.ref a) kind b ds := by
  subst hB hk
  obtain ⟨_, _, _, _, hst⟩ := S
  have ns : ∀ x o, h.get? x = some o → o.cls = .type "tuple" → x ∉ [st] := fun x o e hc q => by
    rw [List.mem_singleton.mp q, hst] at e
    rw [← Option.some.inj e] at hc
    exact absurd (Value.type.inj hc) (by decide)
  exact ⟨_, _, _, a, d, tk, tb, n₁, n₂, rfl, (N _ h1).1, (N _ h2).1, D, fresh_kept hkp (N _ h1).2.2 (ns _ _ (N _ h1).1 rfl), fresh_kept hkp (N _ h2).2.2 (ns _ _ (N _ h2).1 rfl)⟩

theorem pick3 {i : Int} (h0 : 0 ≤ i) (h5 : i < 3) {P : Int → Prop} {a b c : Int} (ha : P a) (hb : P b) (hc : P c) : P ([a, b, c].getD i.toNat 0) := by
  have : i = 0 ∨ i = 1 ∨ i = 2 := by omega
  rcases this with rfl | rfl | rfl <;> assumption

theorem piece_c {w : World} {dp un : Nat} {outer : List Env} {s : Shared} {h₀ : Heap} {p : Program} {loose : List Str} {mean : ExcName → Option Value} {mg mb : Str → Option Value}
    {st ls : Addr} {vs : List Value} {ns : List Int}
    (X : (Mine.hd.heap_39 w.params).In h₀) (T : Top p loose mean mg mb h₀) (G : Grd h₀ outer [st] s.heap) (hst : StA s.heap st ls) (hls : s.heap.IsList ls vs.toArray) (hI : IntsAre vs ns)
    (hne : ls ≠ st) (hlen : ns.length ≤ 63) (hd : dp + 9 < recursionLimit) (hu : un + 90 < cLine) :
    codeAny (model PySem.Challenge.rw_ej5024_01.row.prog w) (amb dp un outer) (.call (.ref 210) ⟨[.ref st], []⟩)
      (RetP s [st] fun v h' => (∃ kind b ds, PieceNew s.heap h' v kind b ds) ∧ StA h' st ls) s := by
  revert X; k_fill; intro X
  obtain ⟨k, tk, n, hk, hst⟩ := hst
  refine' enter (news := [(st, listOf #[.ref ls, .int k tk] n)]) (binds := [("state", .ref st)]) X T G ?_ ?ho ?hcd ?hroom ?hbind ?hloc ?body ?hcell ?c2 ?c3 ?c4
  case ho => k_is
  case hcd => k_is
  case hroom => omega
  case hbind => exact BindsTo.of_eq rfl
  case hloc => exact locs rfl
  case hcell => decide
  case c2 => rfl
  case c3 => rfl
  case c4 => rfl
  · intro q hq; cases hq with
    | head => exact hst
    | tail _ q => cases q
  intro g L' h₁ B X' T' hkp hsub F N hlt
  have hls' : g.IsList ls vs.toArray := by obtain ⟨o, ho, r⟩ := hls; exact ⟨o, hkp _ _ ho (by simpa using hne), r⟩
  clear hsub hls hst G
  k_steps
  all_goals (try dsimp only)
  all_goals refine leaveC_ (by assumption) (by assumption) (have S9 : StA _ st ls := StA.of_news (by assumption) (by k_mem) (by omega); ⟨?_, S9⟩)
  · exact PieceNew.of_news hkp S9 (by assumption) (by k_mem) (by k_mem) (by rw [bl, Array.toArray_toList]) (.k0 (by assumption) (by assumption)) (by omega)
  · exact PieceNew.of_news hkp S9 (by assumption) (by k_mem) (by k_mem) (by rw [bl, Array.toArray_toList]) (.k1 (pick3 (P := fun y => 0 ≤ y) (by assumption) (by assumption) (by omega) (by omega) (by omega)) (pick3 (P := fun y => y ≤ 65535) (by assumption) (by assumption) (by omega) (by omega) (by omega))) (by omega)
  · exact PieceNew.of_news hkp S9 (by assumption) (by k_mem) (by k_mem) rfl (.k2 (by assumption) (by assumption) (by assumption) (by assumption) (by assumption) (by assumption) (by assumption) (by assumption) (by assumption) (by assumption) (by assumption) (by assumption)) (by omega)
  · exact PieceNew.of_news hkp S9 (by assumption) (by k_mem) (by k_mem) rfl (.k3 (by assumption) (by assumption)) (by omega)
  · exact PieceNew.of_news hkp S9 (by assumption) (by k_mem) (by k_mem) rfl (.k4 (by assumption) (by assumption) (by assumption) (by assumption)) (by omega)
  · exact PieceNew.of_news hkp S9 (by assumption) (by k_mem) (by k_mem) (by rw [rep_flat, bl, ← List.append_toArray, Array.toArray_toList]) (.k5 (by omega) (by omega) (by assumption) (by assumption)) (by omega)
end Mine
end PartC4
section PartS1
open PySem PySem.W PyProof.Rows PySem.Calls PySem.Builtin PySem.Builtin.Struct
set_option Elab.async false
set_option maxRecDepth 100000
set_option maxHeartbeats 8000000
namespace Mine
theorem kind_pack : builtinKind "_struct.pack" = none := by decide +kernel
theorem plain_pack : plainId "_struct.pack" = true := by decide +kernel
theorem entry_pack : entryFor table "_struct.pack" = some Builtin.«_struct.pack» := entryFor_of_tree (by kernel_rfl)
theorem args_pack (a b : Value) : argsOk "_struct.pack" ⟨[a, b], []⟩ := by unfold argsOk; kernel_rfl
theorem kind_unpack_from : builtinKind "_struct.unpack_from" = none := by decide +kernel
theorem plain_unpack_from : plainId "_struct.unpack_from" = true := by decide +kernel
theorem entry_unpack_from : entryFor table "_struct.unpack_from" = some Builtin.«_struct.unpack_from» := entryFor_of_tree (by kernel_rfl)
theorem args_unpack_from (a b c : Value) : argsOk "_struct.unpack_from" ⟨[a, b, c], []⟩ := by unfold argsOk; kernel_rfl

def fI : Format := ⟨true, false, [⟨'i', 1, 0, 4⟩], 4, 1⟩
def fH : Format := ⟨true, false, [⟨'H', 1, 0, 2⟩], 2, 1⟩
def fIH : Format := ⟨true, false, [⟨'i', 1, 0, 4⟩, ⟨'h', 1, 4, 2⟩, ⟨'i', 1, 6, 4⟩, ⟨'h', 1, 10, 2⟩, ⟨'i', 1, 12, 4⟩, ⟨'h', 1, 16, 2⟩], 18, 6⟩
def fCI : Format := ⟨true, false, [⟨'c', 1, 0, 1⟩, ⟨'i', 1, 1, 4⟩], 5, 2⟩
def fBH : Format := ⟨true, false, [⟨'b', 1, 0, 1⟩, ⟨'h', 1, 1, 2⟩], 3, 2⟩
theorem fmt_i (t : Tok) : moduleFormat (.str (Str.ofString "!i") t) = pure fI := by kernel_rfl
theorem fmt_H (t : Tok) : moduleFormat (.str (Str.ofString "!H") t) = pure fH := by kernel_rfl
theorem fmt_ih (t : Tok) : moduleFormat (.str (Str.ofString "!ihihih") t) = pure fIH := by kernel_rfl
theorem fmt_ci (t : Tok) : moduleFormat (.str (Str.ofString "!ci") t) = pure fCI := by kernel_rfl
theorem fmt_bh (t : Tok) : moduleFormat (.str (Str.ofString "!bh") t) = pure fBH := by kernel_rfl
end Mine
end PartS1
section PartS2
open PySem PySem.W PyProof.Rows PySem.Calls PySem.Builtin PySem.Builtin.Struct
set_option Elab.async false
set_option maxRecDepth 100000
set_option maxHeartbeats 8000000
namespace Mine
theorem u8_ext {a b : Nat} (h : a % 256 = b % 256) : a.toUInt8 = b.toUInt8 := by
  apply UInt8.toNat_inj.mp
  show a % 256 = b % 256
  exact h
theorem fd_pow (x : Int) (k : Nat) : x.fdiv (256 ^ k) = x / 256 ^ k := Int.fdiv_eq_ediv_of_nonneg _ (Int.pow_nonneg (by decide))
theorem fm_256 (y : Int) : y.fmod 256 = y % 256 := Int.fmod_eq_emod_of_nonneg _ (by decide)
theorem byteArr_be4 (x : Int) : byteArr (beL x 4) = [(x / 16777216 % 256).toNat.toUInt8, (x / 65536 % 256).toNat.toUInt8, (x / 256 % 256).toNat.toUInt8, (x % 256).toNat.toUInt8].toArray := by
  show [((x.fdiv (256 ^ 3)).fmod 256).toNat.toUInt8, ((x.fdiv (256 ^ 2)).fmod 256).toNat.toUInt8, ((x.fdiv (256 ^ 1)).fmod 256).toNat.toUInt8, ((x.fdiv (256 ^ 0)).fmod 256).toNat.toUInt8].toArray = _
  simp only [fd_pow, fm_256]
  simp
theorem byteArr_be2 (x : Int) : byteArr (beL x 2) = [(x / 256 % 256).toNat.toUInt8, (x % 256).toNat.toUInt8].toArray := by
  show [((x.fdiv (256 ^ 1)).fmod 256).toNat.toUInt8, ((x.fdiv (256 ^ 0)).fmod 256).toNat.toUInt8].toArray = _
  simp only [fd_pow, fm_256]
  simp
theorem byteArr_be1 (x : Int) : byteArr (beL x 1) = [(x % 256).toNat.toUInt8].toArray := by
  show [((x.fdiv (256 ^ 0)).fmod 256).toNat.toUInt8].toArray = _
  simp only [fd_pow, fm_256]
  simp
theorem l2 {a b c d : UInt8} (h1 : a = c) (h2 : b = d) : [a, b].toArray = [c, d].toArray := by rw [h1, h2]
theorem l4 {a b c d a' b' c' d' : UInt8} (h1 : a = a') (h2 : b = b') (h3 : c = c') (h4 : d = d') : [a, b, c, d].toArray = [a', b', c', d'].toArray := by rw [h1, h2, h3, h4]
theorem be4 (x : Int) : intBytes true 4 x = byteArr (beL x 4) := by
  rw [byteArr_be4]
  simp only [intBytes, Memoryview.toLittleEndian, if_true, List.reverse_toArray]
  show [((x % 2 ^ 32).toNat / 256 ^ 3 % 256).toUInt8, ((x % 2 ^ 32).toNat / 256 ^ 2 % 256).toUInt8, ((x % 2 ^ 32).toNat / 256 ^ 1 % 256).toUInt8, ((x % 2 ^ 32).toNat / 256 ^ 0 % 256).toUInt8].toArray = _
  exact l4 (u8_ext (by omega)) (u8_ext (by omega)) (u8_ext (by omega)) (u8_ext (by omega))
theorem be2 (x : Int) : intBytes true 2 x = byteArr (beL x 2) := by
  rw [byteArr_be2]
  simp only [intBytes, Memoryview.toLittleEndian, if_true, List.reverse_toArray]
  show [((x % 2 ^ 16).toNat / 256 ^ 1 % 256).toUInt8, ((x % 2 ^ 16).toNat / 256 ^ 0 % 256).toUInt8].toArray = _
  exact l2 (u8_ext (by omega)) (u8_ext (by omega))
section
variable {prog : Program} {w : World} {A : Around} {E : Value → Shared → Prop} {s : Shared} {x : Int} {t u : Tok} {Q : Value → Shared → Prop}
theorem pack_i (h0 : -2 ^ 31 ≤ x) (h1 : x < 2 ^ 31) (h : Q (.bytes (byteArr (beL x 4)) s.toks) { s with toks := s.toks + 1 }) :
    wpAny (model prog w) A (call (.builtin "_struct.pack") [.str (Str.ofString "!i") t, .int x u]) Q E s := by
  refine call_function_entry kind_pack plain_pack entry_pack (args_pack _ _) ?_
  show wpAny _ _ (moduleFormat (.str (Str.ofString "!i") t) >>= fun f => Struct.packed "_struct.pack" "pack" f [.int x u]) _ _ _
  rw [fmt_i]
  refine wpAny_bind (wpAny_pure ?_)
  iterate 7 (with_unfolding_all refine wpAny_bind ?_)
  with_unfolding_all refine wpAny_pure ?_
  have hc : ¬ ((decide (x < -(2 ^ (8 * 4 - 1))) || decide (x > 2 ^ (8 * 4 - 1) - 1)) = true) := by simp; omega
  show wpAny _ _ (if (decide (x < -(2 ^ (8 * 4 - 1))) || decide (x > 2 ^ (8 * 4 - 1) - 1)) = true then _ else pure (intBytes true 4 x)) _ _ _
  rw [if_neg hc]
  refine wpAny_pure ?_
  iterate 5 (with_unfolding_all refine wpAny_pure ?_)
  rw [be4]
  rw [byteArr_be4] at *
  show wpAny _ _ (mkBytes [(x / 16777216 % 256).toNat.toUInt8, (x / 65536 % 256).toNat.toUInt8, (x / 256 % 256).toNat.toUInt8, (x % 256).toNat.toUInt8].toArray >>= ret) _ _ _
  exact wpAny_bind (wpAny_mkBytes (wpAny_pure ⟨_, rfl, h⟩) (by show 4 ≤ 2 ^ 24; decide))
theorem pack_H (h0 : 0 ≤ x) (h1 : x ≤ 65535) (h : Q (.bytes (byteArr (beL x 2)) s.toks) { s with toks := s.toks + 1 }) :
    wpAny (model prog w) A (call (.builtin "_struct.pack") [.str (Str.ofString "!H") t, .int x u]) Q E s := by
  refine call_function_entry kind_pack plain_pack entry_pack (args_pack _ _) ?_
  show wpAny _ _ (moduleFormat (.str (Str.ofString "!H") t) >>= fun f => Struct.packed "_struct.pack" "pack" f [.int x u]) _ _ _
  rw [fmt_H]
  refine wpAny_bind (wpAny_pure ?_)
  iterate 7 (with_unfolding_all refine wpAny_bind ?_)
  with_unfolding_all refine wpAny_pure ?_
  have hc : ¬ ((decide (x < 0) || decide (x > 2 ^ (8 * 2) - 1)) = true) := by simp; omega
  show wpAny _ _ (if (decide (x < 0) || decide (x > 2 ^ (8 * 2) - 1)) = true then _ else pure (intBytes true 2 x)) _ _ _
  rw [if_neg hc]
  refine wpAny_pure ?_
  iterate 5 (with_unfolding_all refine wpAny_pure ?_)
  rw [be2]
  rw [byteArr_be2] at *
  show wpAny _ _ (mkBytes [(x / 256 % 256).toNat.toUInt8, (x % 256).toNat.toUInt8].toArray >>= ret) _ _ _
  exact wpAny_bind (wpAny_mkBytes (wpAny_pure ⟨_, rfl, h⟩) (by show 2 ≤ 2 ^ 24; decide))
end

end Mine
end PartS2
section PartS3
open PySem PySem.W PyProof.Rows PySem.Calls PySem.Builtin PySem.Builtin.Struct
set_option Elab.async false
set_option maxRecDepth 100000
set_option maxHeartbeats 8000000
namespace Mine
theorem blk_bytes (b : Array UInt8) (t : Tok) : Bytes.bytesLike "_struct.unpack_from" (.bytes b t) = pure b := by kernel_rfl
theorem blk_index (b : Array UInt8) (t u : Tok) (i : Int) : Bytes.indexHeld [.bytes b t] (.int i u) = pure i := by kernel_rfl
theorem blk_opt (a b c : Value) : Bytes.bindOptional "_struct.unpack_from" "unpack_from" ["", "buffer", "offset"] [a, b, c] [] = pure [some a, some b, some c] := by kernel_rfl
theorem placeIn_ok {f : Format} {len : Nat} {off : Int} (h0 : 0 ≤ off) (h1 : off + f.size ≤ len) : placeIn "unpack_from" "unpacking" "not enough data to unpack" f len off = pure off.toNat := by
  unfold placeIn
  have e1 : ¬ off < 0 := by omega
  have e2 : ¬ ((len : Int) - off < f.size) := by omega
  simp only [if_neg e1]
  simp only [if_neg e2]
theorem natOf4 (a b c d : UInt8) : natOf true [a, b, c, d].toArray = ((a.toNat * 256 + b.toNat) * 256 + c.toNat) * 256 + d.toNat := by
  unfold natOf Memoryview.littleEndian
  simp
theorem natOf2 (a b : UInt8) : natOf true [a, b].toArray = a.toNat * 256 + b.toNat := by
  unfold natOf Memoryview.littleEndian
  simp
theorem natOf1 (a : UInt8) : natOf true [a].toArray = a.toNat := by
  unfold natOf Memoryview.littleEndian
  simp
theorem toNat_u8 (n : Nat) : n.toUInt8.toNat = n % 256 := rfl
theorem natOf_be4 (x : Int) : (natOf true (byteArr (beL x 4)) : Int) = x % 4294967296 := by
  rw [byteArr_be4, natOf4]
  simp only [toNat_u8]
  omega
theorem natOf_be2 (x : Int) : (natOf true (byteArr (beL x 2)) : Int) = x % 65536 := by
  rw [byteArr_be2, natOf2]
  simp only [toNat_u8]
  omega
theorem natOf_be1 (x : Int) : (natOf true (byteArr (beL x 1)) : Int) = x % 256 := by
  rw [byteArr_be1, natOf1]
  simp only [toNat_u8]
  omega
theorem dec4 {x : Int} (h0 : -2 ^ 31 ≤ x) (h1 : x < 2 ^ 31) : (if (true && decide (natOf true (byteArr (beL x 4)) ≥ 2 ^ (8 * 4 - 1))) = true then (natOf true (byteArr (beL x 4)) : Int) - 2 ^ (8 * 4) else (natOf true (byteArr (beL x 4)) : Int)) = x := by
  have := natOf_be4 x
  simp only [Bool.true_and, decide_eq_true_eq]
  split <;> omega
theorem dec2 {x : Int} (h0 : -2 ^ 15 ≤ x) (h1 : x < 2 ^ 15) : (if (true && decide (natOf true (byteArr (beL x 2)) ≥ 2 ^ (8 * 2 - 1))) = true then (natOf true (byteArr (beL x 2)) : Int) - 2 ^ (8 * 2) else (natOf true (byteArr (beL x 2)) : Int)) = x := by
  have := natOf_be2 x
  simp only [Bool.true_and, decide_eq_true_eq]
  split <;> omega
theorem dec1 {x : Int} (h0 : -2 ^ 7 ≤ x) (h1 : x < 2 ^ 7) : (if (true && decide (natOf true (byteArr (beL x 1)) ≥ 2 ^ (8 * 1 - 1))) = true then (natOf true (byteArr (beL x 1)) : Int) - 2 ^ (8 * 1) else (natOf true (byteArr (beL x 1)) : Int)) = x := by
  have := natOf_be1 x
  simp only [Bool.true_and, decide_eq_true_eq]
  split <;> omega
theorem decH {x : Int} (h0 : 0 ≤ x) (h1 : x ≤ 65535) : (if (false && decide (natOf true (byteArr (beL x 2)) ≥ 2 ^ (8 * 2 - 1))) = true then (natOf true (byteArr (beL x 2)) : Int) - 2 ^ (8 * 2) else (natOf true (byteArr (beL x 2)) : Int)) = x := by
  have := natOf_be2 x
  simp only [Bool.false_and, Bool.false_eq_true, if_false]
  omega
section
variable {prog : Program} {w : World} {A : Around} {E : Value → Shared → Prop} {s : Shared} {x : Int} {t u : Tok} {Q : Value → Shared → Prop}
theorem unpack_from_of {fs : Str} {f : Format} {b : Array UInt8} {off : Int} {t tb u : Tok} (hf : moduleFormat (.str fs t) = pure f) (h0 : 0 ≤ off) (h1 : off + f.size ≤ b.size) (hi : off < 2 ^ 63)
    (h : wpAny (model prog w) A.in1 (unpacked "_struct.unpack_from" f b off.toNat) (fun v s' => Q v s') E s) :
    wpAny (model prog w) A (call (.builtin "_struct.unpack_from") [.str fs t, .bytes b tb, .int off u]) Q E s := by
  refine call_function_entry kind_unpack_from plain_unpack_from entry_unpack_from (args_unpack_from _ _ _) ?_
  unfold «_struct.unpack_from»
  simp only [List.length_cons, List.length_nil]
  rw [if_neg (by decide), if_neg (by simp), blk_opt]
  refine wpAny_bind (wpAny_pure ?_)
  show wpAny _ _ (moduleFormat (.str fs t) >>= fun f => unpackFrom "_struct.unpack_from" (pure f) (.bytes b tb) (some (.int off u))) _ _ _
  rw [hf]
  refine wpAny_bind (wpAny_pure ?_)
  unfold unpackFrom
  rw [blk_bytes]
  refine wpAny_bind (wpAny_pure ?_)
  refine wpAny_bind (wpAny_of_eq (blk_index b tb u off) ?_)
  have hfit : Bytes.fitsIndex off = true := by
    unfold Bytes.fitsIndex
    simp only [Bool.and_eq_true, decide_eq_true_eq]
    omega
  simp only [hfit, Bool.not_true, Bool.false_eq_true, if_false, Option.isSome_some, if_true]
  refine wpAny_bind (wpAny_pure ?_)
  refine wpAny_bind (wpAny_pure ?_)
  refine wpAny_bind (wpAny_pure ?_)
  refine wpAny_bind (wpAny_of_eq (placeIn_ok h0 h1) ?_)
  exact wpAny_bind (wpAny_mono h (fun v s' hv => wpAny_pure ⟨v, rfl, hv⟩) fun _ _ e => e)

theorem unpacked_i {b : Array UInt8} {st : Nat} (h0 : -2 ^ 31 ≤ x) (h1 : x < 2 ^ 31) (he : b.extract st (st + 4) = byteArr (beL x 4))
    (h : wpAny (model prog w) A (newTuple [.int x s.toks]) Q E { s with toks := s.toks + 1 }) : wpAny (model prog w) A (unpacked "_struct.unpack_from" fI b st) Q E s := by
  unfold Struct.unpacked fI
  iterate 4 (with_unfolding_all refine wpAny_bind ?_)
  with_unfolding_all refine wpAny_bind ?_
  show wpAny _ _ (mkInt (if (true && decide (natOf true (b.extract st (st + 4)) ≥ 2 ^ (8 * 4 - 1))) = true then (natOf true (b.extract st (st + 4)) : Int) - 2 ^ (8 * 4) else (natOf true (b.extract st (st + 4)) : Int))) _ _ _
  rw [he, dec4 h0 h1]
  refine wpAny_mkInt ?_
  iterate 4 (with_unfolding_all refine wpAny_pure ?_)
  exact h

theorem unpacked_H {b : Array UInt8} {st : Nat} (h0 : 0 ≤ x) (h1 : x ≤ 65535) (he : b.extract st (st + 2) = byteArr (beL x 2))
    (h : wpAny (model prog w) A (newTuple [.int x s.toks]) Q E { s with toks := s.toks + 1 }) : wpAny (model prog w) A (unpacked "_struct.unpack_from" fH b st) Q E s := by
  unfold Struct.unpacked fH
  iterate 5 (with_unfolding_all refine wpAny_bind ?_)
  show wpAny _ _ (mkInt (if (false && decide (natOf true (b.extract st (st + 2)) ≥ 2 ^ (8 * 2 - 1))) = true then (natOf true (b.extract st (st + 2)) : Int) - 2 ^ (8 * 2) else (natOf true (b.extract st (st + 2)) : Int))) _ _ _
  rw [he, decH h0 h1]
  refine wpAny_mkInt ?_
  iterate 4 (with_unfolding_all refine wpAny_pure ?_)
  exact h

theorem unpacked_bh {b : Array UInt8} {st : Nat} {y : Int} (h0 : -2 ^ 7 ≤ x) (h1 : x < 2 ^ 7) (g0 : -2 ^ 15 ≤ y) (g1 : y < 2 ^ 15) (he : b.extract st (st + 1) = byteArr (beL x 1)) (he2 : b.extract (st + 1) (st + 1 + 2) = byteArr (beL y 2))
    (h : wpAny (model prog w) A (newTuple [.int x s.toks, .int y (s.toks + 1)]) Q E { s with toks := s.toks + 1 + 1 }) : wpAny (model prog w) A (unpacked "_struct.unpack_from" fBH b st) Q E s := by
  unfold Struct.unpacked fBH
  iterate 5 (with_unfolding_all refine wpAny_bind ?_)
  show wpAny _ _ (mkInt (if (true && decide (natOf true (b.extract st (st + 1)) ≥ 2 ^ (8 * 1 - 1))) = true then (natOf true (b.extract st (st + 1)) : Int) - 2 ^ (8 * 1) else (natOf true (b.extract st (st + 1)) : Int))) _ _ _
  rw [he, dec1 h0 h1]
  refine wpAny_mkInt ?_
  iterate 3 (with_unfolding_all refine wpAny_pure ?_)
  iterate 4 (with_unfolding_all refine wpAny_bind ?_)
  show wpAny _ _ (mkInt (if (true && decide (natOf true (b.extract (st + 1) (st + 1 + 2)) ≥ 2 ^ (8 * 2 - 1))) = true then (natOf true (b.extract (st + 1) (st + 1 + 2)) : Int) - 2 ^ (8 * 2) else (natOf true (b.extract (st + 1) (st + 1 + 2)) : Int))) _ _ _
  rw [he2, dec2 g0 g1]
  refine wpAny_mkInt ?_
  iterate 4 (with_unfolding_all refine wpAny_pure ?_)
  exact h

theorem unpacked_ci {b : Array UInt8} {st : Nat} {c : UInt8} (h0 : -2 ^ 31 ≤ x) (h1 : x < 2 ^ 31) (he : b.extract st (st + 1) = #[c]) (he2 : b.extract (st + 1) (st + 1 + 4) = byteArr (beL x 4))
    (h : wpAny (model prog w) A (newTuple [.bytes #[c] s.toks, .int x (s.toks + 1)]) Q E { s with toks := s.toks + 1 + 1 }) : wpAny (model prog w) A (unpacked "_struct.unpack_from" fCI b st) Q E s := by
  unfold Struct.unpacked fCI
  iterate 5 (with_unfolding_all refine wpAny_bind ?_)
  show wpAny _ _ (mkBytes (b.extract st (st + 1))) _ _ _
  rw [he]
  refine wpAny_mkBytes ?_ (by show 1 ≤ 2 ^ 24; decide)
  iterate 3 (with_unfolding_all refine wpAny_pure ?_)
  iterate 4 (with_unfolding_all refine wpAny_bind ?_)
  show wpAny _ _ (mkInt (if (true && decide (natOf true (b.extract (st + 1) (st + 1 + 4)) ≥ 2 ^ (8 * 4 - 1))) = true then (natOf true (b.extract (st + 1) (st + 1 + 4)) : Int) - 2 ^ (8 * 4) else (natOf true (b.extract (st + 1) (st + 1 + 4)) : Int))) _ _ _
  rw [he2, dec4 h0 h1]
  refine wpAny_mkInt ?_
  iterate 4 (with_unfolding_all refine wpAny_pure ?_)
  exact h

theorem unpacked_ih {B : Array UInt8} {st : Nat} {a b c d e f : Int} (ha0 : -2 ^ 31 ≤ a) (ha1 : a < 2 ^ 31) (hb0 : -2 ^ 15 ≤ b) (hb1 : b < 2 ^ 15) (hc0 : -2 ^ 31 ≤ c) (hc1 : c < 2 ^ 31) (hd0 : -2 ^ 15 ≤ d) (hd1 : d < 2 ^ 15) (he0 : -2 ^ 31 ≤ e) (he1 : e < 2 ^ 31) (hf0 : -2 ^ 15 ≤ f) (hf1 : f < 2 ^ 15)
    (ea : B.extract st (st + 4) = byteArr (beL a 4)) (eb : B.extract (st + 4) (st + 4 + 2) = byteArr (beL b 2)) (ec : B.extract (st + 6) (st + 6 + 4) = byteArr (beL c 4)) (ed : B.extract (st + 10) (st + 10 + 2) = byteArr (beL d 2)) (ee : B.extract (st + 12) (st + 12 + 4) = byteArr (beL e 4)) (ef : B.extract (st + 16) (st + 16 + 2) = byteArr (beL f 2))
    (h : wpAny (model prog w) A (newTuple [.int a (s.toks), .int b (s.toks + 1), .int c (s.toks + 1 + 1), .int d (s.toks + 1 + 1 + 1), .int e (s.toks + 1 + 1 + 1 + 1), .int f (s.toks + 1 + 1 + 1 + 1 + 1)]) Q E { s with toks := s.toks + 1 + 1 + 1 + 1 + 1 + 1 }) : wpAny (model prog w) A (unpacked "_struct.unpack_from" fIH B st) Q E s := by
  unfold Struct.unpacked fIH
  iterate 5 (with_unfolding_all refine wpAny_bind ?_)
  show wpAny _ _ (mkInt (if (true && decide (natOf true (B.extract st (st + 4)) ≥ 2 ^ (8 * 4 - 1))) = true then (natOf true (B.extract st (st + 4)) : Int) - 2 ^ (8 * 4) else (natOf true (B.extract st (st + 4)) : Int))) _ _ _
  rw [ea, dec4 ha0 ha1]
  refine wpAny_mkInt ?_
  iterate 3 (with_unfolding_all refine wpAny_pure ?_)
  iterate 4 (with_unfolding_all refine wpAny_bind ?_)
  show wpAny _ _ (mkInt (if (true && decide (natOf true (B.extract (st + 4) (st + 4 + 2)) ≥ 2 ^ (8 * 2 - 1))) = true then (natOf true (B.extract (st + 4) (st + 4 + 2)) : Int) - 2 ^ (8 * 2) else (natOf true (B.extract (st + 4) (st + 4 + 2)) : Int))) _ _ _
  rw [eb, dec2 hb0 hb1]
  refine wpAny_mkInt ?_
  iterate 3 (with_unfolding_all refine wpAny_pure ?_)
  iterate 4 (with_unfolding_all refine wpAny_bind ?_)
  show wpAny _ _ (mkInt (if (true && decide (natOf true (B.extract (st + 6) (st + 6 + 4)) ≥ 2 ^ (8 * 4 - 1))) = true then (natOf true (B.extract (st + 6) (st + 6 + 4)) : Int) - 2 ^ (8 * 4) else (natOf true (B.extract (st + 6) (st + 6 + 4)) : Int))) _ _ _
  rw [ec, dec4 hc0 hc1]
  refine wpAny_mkInt ?_
  iterate 3 (with_unfolding_all refine wpAny_pure ?_)
  iterate 4 (with_unfolding_all refine wpAny_bind ?_)
  show wpAny _ _ (mkInt (if (true && decide (natOf true (B.extract (st + 10) (st + 10 + 2)) ≥ 2 ^ (8 * 2 - 1))) = true then (natOf true (B.extract (st + 10) (st + 10 + 2)) : Int) - 2 ^ (8 * 2) else (natOf true (B.extract (st + 10) (st + 10 + 2)) : Int))) _ _ _
  rw [ed, dec2 hd0 hd1]
  refine wpAny_mkInt ?_
  iterate 3 (with_unfolding_all refine wpAny_pure ?_)
  iterate 4 (with_unfolding_all refine wpAny_bind ?_)
  show wpAny _ _ (mkInt (if (true && decide (natOf true (B.extract (st + 12) (st + 12 + 4)) ≥ 2 ^ (8 * 4 - 1))) = true then (natOf true (B.extract (st + 12) (st + 12 + 4)) : Int) - 2 ^ (8 * 4) else (natOf true (B.extract (st + 12) (st + 12 + 4)) : Int))) _ _ _
  rw [ee, dec4 he0 he1]
  refine wpAny_mkInt ?_
  iterate 3 (with_unfolding_all refine wpAny_pure ?_)
  iterate 4 (with_unfolding_all refine wpAny_bind ?_)
  show wpAny _ _ (mkInt (if (true && decide (natOf true (B.extract (st + 16) (st + 16 + 2)) ≥ 2 ^ (8 * 2 - 1))) = true then (natOf true (B.extract (st + 16) (st + 16 + 2)) : Int) - 2 ^ (8 * 2) else (natOf true (B.extract (st + 16) (st + 16 + 2)) : Int))) _ _ _
  rw [ef, dec2 hf0 hf1]
  refine wpAny_mkInt ?_
  iterate 4 (with_unfolding_all refine wpAny_pure ?_)
  exact h
end
end Mine
end PartS3
section PartS4
open PySem PySem.W PyProof.Rows PySem.Calls PySem.SeqAt
set_option Elab.async false
set_option maxRecDepth 100000
set_option maxHeartbeats 8000000
namespace Mine
/-- two lists of ints and bytes, alike but for the tokens -/
inductive SameL : List Value → List Value → Prop
  | nil : SameL [] []
  | int {i : Int} {t u : Tok} {r r' : List Value} : SameL r r' → SameL (.int i t :: r) (.int i u :: r')
  | bytes {b : Array UInt8} {t u : Tok} {r r' : List Value} : SameL r r' → SameL (.bytes b t :: r) (.bytes b u :: r')

theorem eqAt_int {A : Around} {s : Shared} {i : Int} {t u : Tok} : EqAt A s (.int i t) (.int i u) true := fun prog w E Q h => by
  unfold eqBool
  refine wpAny_holding ?_
  refine wpAny_ite_split (fun _ => wpAny_bind (wpAny_rule (wpAny_pure h))) (fun _ => ?_)
  refine wpAny_bind (?_ : wpAny _ _ (compareOp .Eq (.int i t) (.int i u)) _ _ _)
  refine eq_int ?_
  rw [beq_self_eq_true]
  exact wpAny_truthy_bool h
theorem eqAt_bytes {A : Around} {s : Shared} {b : Array UInt8} {t u : Tok} : EqAt A s (.bytes b t) (.bytes b u) true := fun prog w E Q h => by
  unfold eqBool
  refine wpAny_holding ?_
  refine wpAny_ite_split (fun _ => wpAny_bind (wpAny_rule (wpAny_pure h))) (fun _ => ?_)
  refine wpAny_bind (?_ : wpAny _ _ (compareOp .Eq (.bytes b t) (.bytes b u)) _ _ _)
  refine eq_bytes ?_
  rw [beq_self_eq_true]
  exact wpAny_truthy_bool h

theorem SameL.len : ∀ {xs ys : List Value}, SameL xs ys → xs.length = ys.length
  | _, _, .nil => rfl
  | _, _, .int r => congrArg (· + 1) r.len
  | _, _, .bytes r => congrArg (· + 1) r.len
theorem SameL.at {A : Around} {s : Shared} : ∀ {xs ys : List Value}, SameL xs ys → ∀ j (h1 : j < xs.length) (h2 : j < ys.length), EqAt A s xs[j] ys[j] true
  | _, _, .int _, 0, _, _ => eqAt_int
  | _, _, .bytes _, 0, _, _ => eqAt_bytes
  | _, _, .int r, j + 1, h1, h2 => r.at j (Nat.lt_of_succ_lt_succ h1) (Nat.lt_of_succ_lt_succ h2)
  | _, _, .bytes r, j + 1, h1, h2 => r.at j (Nat.lt_of_succ_lt_succ h1) (Nat.lt_of_succ_lt_succ h2)

theorem eq_tups {prog : Program} {w : World} {A : Around} {E : Value → Shared → Prop} {s : Shared} {g : Heap} {L : Addr} {m : Str → Option Value} {news : List (Addr × Obj)} {a d : Addr} {xs ys : List Value} {n : Nat} {Q : Value → Shared → Prop}
    (F : Fr g L s.heap m) (N : News g L s.heap news) (hm : (a, tupOf xs.toArray n) ∈ news) (hd : IsTup g d ys.toArray) (hs : SameL xs ys) (hu : A.units < cLine) (h : Q (.bool true) s) :
    wpAny (model prog w) A (compareOp .Eq (.ref a) (.ref d)) Q E s := by
  have h1 : s.heap.IsTuple a xs.toArray := ⟨_, (N _ hm).1, rfl, n, rfl⟩
  have h2 : s.heap.IsTuple d ys.toArray := by obtain ⟨o, ho, r⟩ := hd; exact ⟨o, F.keep _ _ ho, r⟩
  refine eq_tupleAt (e := fun _ => true) h1 h2 hu (fun j j1 j2 => ?_) ?_
  · have := hs.at (A := A.in1) (s := s) j (by simpa using j1) (by simpa using j2)
    simpa using this
  · have e : ((List.range (min xs.toArray.size ys.toArray.size)).all (fun _ => true) && xs.toArray.size == ys.toArray.size) = true := by
      simp [hs.len]
    rw [e]; exact h
section
variable {prog : Program} {w : World} {A : Around} {E : Value → Shared → Prop} {s : Shared} {value slice : PySem.Expr} {b c : Array UInt8} {t : Tok} {h₀ : Heap} {L : Addr} {m : PySem.Str → Option Value} {news : List (Addr × Obj)} {l u : Value} {lo hi : Option Int} {Q : Value → Shared → Prop}
theorem slice_B (hF : Fr h₀ L s.heap m) (hN : News h₀ L s.heap news) (hl : IsPart l lo) (hu : IsPart u hi) (hz : b.size ≤ 16777216) (e : KBy.picked b lo hi = c)
    (h : ∀ h' t' k, Fr h₀ L h' m → News h₀ L h' news → Q (.bytes c t') { s with heap := h', toks := k })
    (hs : subscripted slice false (.bytes b t) (.ref s.heap.objs.size) = operate [.ref s.heap.objs.size, .bytes b t] (getItem (.bytes b t) (.ref s.heap.objs.size)) := by with_unfolding_all rfl)
    (ht : ∀ r, letTemporaryGo value (.bytes b t) r = pure () := by intro _; with_unfolding_all rfl) :
    wpAny (model prog w) A (subscriptTail value slice (.bytes b t) (.ref s.heap.objs.size)) Q E { s with heap := s.heap.push { cls := .type "slice", data := .fields #[l, u, .none] } } :=
  tail_of_ItemOn ⟨"bytes", _, FB.slot_bytes_getitem.lookup, typeIs_bytes _ _ _, getItem_meets (typeIs_bytes _ _ _) (by decide) FB.slot_bytes_getitem FB.entry_bytes_getitem (FB.args_bytes_getitem_2 _ _) (KBc.meets_slice2 b t _ hl hu)
    ⟨Heap.IsSliceOf.new _ _ _ _, Nat.le_trans (KBc.size_picked_le b lo hi) (by rw [sizeLine_eq]; exact hz), fun t' k => e ▸ h _ t' k (hF.push _) (News.pushKeep hN _)⟩⟩ hs ht
end
theorem picked_tail {xs ys : List UInt8} {k : Nat} (h : ys.length = k) (hk : 0 < k) : KBy.picked (xs ++ ys).toArray (some (-(k : Int))) none = ys.toArray := by
  rw [KBc.picked_eq]
  have hc : clipAt (xs ++ ys).toArray.size (-(k : Int)) = xs.length := by
    unfold clipAt
    rw [List.size_toArray, List.length_append]
    split <;> omega
  simp only [Option.elim_some, Option.elim_none, hc]
  rw [List.drop_left, List.take_of_length_le]
  rw [List.size_toArray, List.length_append]; omega
end Mine
end PartS4
section PartC5
open PySem PySem.W PyProof.Rows PySem.Calls
set_option Elab.async false
set_option maxRecDepth 100000
set_option maxHeartbeats 8000000
namespace Mine
local macro_rules | `(tactic| k_room) => `(tactic| ktr_room)
local macro_rules | `(tactic| k_units) => `(tactic| ktr_units)
local macro_rules | `(tactic| walk_at "call builtin:_struct.pack") => `(tactic| (k_here; k_dflt (first | (refine pack_i ?a ?b ?_; (case a => omega); (case b => omega)) | (refine pack_H ?a ?b ?_; (case a => omega); (case b => omega)))))

section
variable {prog : Program} {w : World} {A : Around} {E : Value → Shared → Prop} {s : Shared} {g : Heap} {L : Addr} {m : Str → Option Value} {news : List (Addr × Obj)} {x y : Int} {t u tb : Tok} {off : Int} {B : Array UInt8} {Q : Value → Shared → Prop}
theorem uf_i (F : Fr g L s.heap m) (N : News g L s.heap news) (h0 : -2 ^ 31 ≤ x) (h1 : x < 2 ^ 31) (he : B.extract off.toNat (off.toNat + 4) = byteArr (beL x 4)) (g0 : 0 ≤ off) (g1 : off + 4 ≤ B.size) (g2 : off < 2 ^ 63)
    (h : ∀ a h' t tk, Fr g L h' m → News g L h' ((a, tupOf #[.int x t] 0) :: news) → (∀ p ∈ news, p.1 < a) → Q (.ref a) { s with heap := h', toks := tk }) :
    wpAny (model prog w) A (call (.builtin "_struct.unpack_from") [.str (Str.ofString "!i") t, .bytes B tb, .int off u]) Q E s :=
  unpack_from_of (fmt_i t) g0 g1 g2 (unpacked_i h0 h1 he (newTuple_N F N (fun h' F' N' => h _ h' _ _ F' N' fun p hp => Heap.lt_size (N p hp).1) (by show 1 ≤ 2 ^ 24; decide)))
theorem uf_H (F : Fr g L s.heap m) (N : News g L s.heap news) (h0 : 0 ≤ x) (h1 : x ≤ 65535) (he : B.extract off.toNat (off.toNat + 2) = byteArr (beL x 2)) (g0 : 0 ≤ off) (g1 : off + 2 ≤ B.size) (g2 : off < 2 ^ 63)
    (h : ∀ a h' t tk, Fr g L h' m → News g L h' ((a, tupOf #[.int x t] 0) :: news) → (∀ p ∈ news, p.1 < a) → Q (.ref a) { s with heap := h', toks := tk }) :
    wpAny (model prog w) A (call (.builtin "_struct.unpack_from") [.str (Str.ofString "!H") t, .bytes B tb, .int off u]) Q E s :=
  unpack_from_of (fmt_H t) g0 g1 g2 (unpacked_H h0 h1 he (newTuple_N F N (fun h' F' N' => h _ h' _ _ F' N' fun p hp => Heap.lt_size (N p hp).1) (by show 1 ≤ 2 ^ 24; decide)))
theorem uf_bh (F : Fr g L s.heap m) (N : News g L s.heap news) (h0 : -2 ^ 7 ≤ x) (h1 : x < 2 ^ 7) (k0 : -2 ^ 15 ≤ y) (k1 : y < 2 ^ 15) (he : B.extract off.toNat (off.toNat + 1) = byteArr (beL x 1)) (he2 : B.extract (off.toNat + 1) (off.toNat + 1 + 2) = byteArr (beL y 2)) (g0 : 0 ≤ off) (g1 : off + 3 ≤ B.size) (g2 : off < 2 ^ 63)
    (h : ∀ a h' t t' tk, Fr g L h' m → News g L h' ((a, tupOf #[.int x t, .int y t'] 0) :: news) → (∀ p ∈ news, p.1 < a) → Q (.ref a) { s with heap := h', toks := tk }) :
    wpAny (model prog w) A (call (.builtin "_struct.unpack_from") [.str (Str.ofString "!bh") t, .bytes B tb, .int off u]) Q E s :=
  unpack_from_of (fmt_bh t) g0 g1 g2 (unpacked_bh h0 h1 k0 k1 he he2 (newTuple_N F N (fun h' F' N' => h _ h' _ _ _ F' N' fun p hp => Heap.lt_size (N p hp).1) (by show 2 ≤ 2 ^ 24; decide)))
theorem uf_ci {c : UInt8} (F : Fr g L s.heap m) (N : News g L s.heap news) (h0 : -2 ^ 31 ≤ x) (h1 : x < 2 ^ 31) (he : B.extract off.toNat (off.toNat + 1) = #[c]) (he2 : B.extract (off.toNat + 1) (off.toNat + 1 + 4) = byteArr (beL x 4)) (g0 : 0 ≤ off) (g1 : off + 5 ≤ B.size) (g2 : off < 2 ^ 63)
    (h : ∀ a h' t t' tk, Fr g L h' m → News g L h' ((a, tupOf #[.bytes #[c] t, .int x t'] 0) :: news) → (∀ p ∈ news, p.1 < a) → Q (.ref a) { s with heap := h', toks := tk }) :
    wpAny (model prog w) A (call (.builtin "_struct.unpack_from") [.str (Str.ofString "!ci") t, .bytes B tb, .int off u]) Q E s :=
  unpack_from_of (fmt_ci t) g0 g1 g2 (unpacked_ci h0 h1 he he2 (newTuple_N F N (fun h' F' N' => h _ h' _ _ _ F' N' fun p hp => Heap.lt_size (N p hp).1) (by show 2 ≤ 2 ^ 24; decide)))
theorem uf_ih {a b c d e f : Int} (F : Fr g L s.heap m) (N : News g L s.heap news) (ha0 : -2 ^ 31 ≤ a) (ha1 : a < 2 ^ 31) (hb0 : -2 ^ 15 ≤ b) (hb1 : b < 2 ^ 15) (hc0 : -2 ^ 31 ≤ c) (hc1 : c < 2 ^ 31) (hd0 : -2 ^ 15 ≤ d) (hd1 : d < 2 ^ 15) (he0 : -2 ^ 31 ≤ e) (he1 : e < 2 ^ 31) (hf0 : -2 ^ 15 ≤ f) (hf1 : f < 2 ^ 15)
    (ea : B.extract off.toNat (off.toNat + 4) = byteArr (beL a 4)) (eb : B.extract (off.toNat + 4) (off.toNat + 4 + 2) = byteArr (beL b 2)) (ec : B.extract (off.toNat + 6) (off.toNat + 6 + 4) = byteArr (beL c 4)) (ed : B.extract (off.toNat + 10) (off.toNat + 10 + 2) = byteArr (beL d 2)) (ee : B.extract (off.toNat + 12) (off.toNat + 12 + 4) = byteArr (beL e 4)) (ef : B.extract (off.toNat + 16) (off.toNat + 16 + 2) = byteArr (beL f 2)) (g0 : 0 ≤ off) (g1 : off + 18 ≤ B.size) (g2 : off < 2 ^ 63)
    (h : ∀ a' h' ta tb tc td te tf tk, Fr g L h' m → News g L h' ((a', tupOf #[.int a ta, .int b tb, .int c tc, .int d td, .int e te, .int f tf] 0) :: news) → (∀ p ∈ news, p.1 < a') → Q (.ref a') { s with heap := h', toks := tk }) :
    wpAny (model prog w) A (call (.builtin "_struct.unpack_from") [.str (Str.ofString "!ihihih") t, .bytes B tb, .int off u]) Q E s :=
  unpack_from_of (fmt_ih t) g0 g1 g2 (unpacked_ih ha0 ha1 hb0 hb1 hc0 hc1 hd0 hd1 he0 he1 hf0 hf1 ea eb ec ed ee ef (newTuple_N F N (fun h' F' N' => h _ h' _ _ _ _ _ _ _ F' N' fun p hp => Heap.lt_size (N p hp).1) (by show 6 ≤ 2 ^ 24; decide)))
end
local macro_rules | `(tactic| walk_at "call builtin:_struct.unpack_from") => `(tactic| (k_here; k_dflt (first | (refine' uf_i ?F ?N ?a ?b ?e ?z ?y ?x ?_; (case F => k_asm); (case N => k_asm); (case e => k_asm); (case a => k_asm); (case b => k_asm); (case z => first | decide | omega); (case y => first | assumption | omega); (case x => first | decide | omega); intro a9 h9 t9 tk9 F9 N9 l9; (try k_lt l9); (try k_sweep)) | (refine' uf_H ?F ?N ?a ?b ?e ?z ?y ?x ?_; (case F => k_asm); (case N => k_asm); (case e => k_asm); (case a => k_asm); (case b => k_asm); (case z => first | decide | omega); (case y => first | assumption | omega); (case x => first | decide | omega); intro a9 h9 t9 tk9 F9 N9 l9; (try k_lt l9); (try k_sweep)) | (refine' uf_bh ?F ?N ?a ?b ?c ?d ?e ?e2 ?z ?y ?x ?_; (case F => k_asm); (case N => k_asm); (case e => k_asm); (case e2 => k_asm); (case a => k_asm); (case b => k_asm); (case c => k_asm); (case d => k_asm); (case z => first | decide | omega); (case y => first | assumption | omega); (case x => first | decide | omega); intro a9 h9 t9 t8 tk9 F9 N9 l9; (try k_lt l9); (try k_sweep)) | (refine' uf_ci ?F ?N ?a ?b ?e ?e2 ?z ?y ?x ?_; (case F => k_asm); (case N => k_asm); (case e => k_asm); (case e2 => k_asm); (case a => k_asm); (case b => k_asm); (case z => first | decide | omega); (case y => first | assumption | omega); (case x => first | decide | omega); intro a9 h9 t9 t8 tk9 F9 N9 l9; (try k_lt l9); (try k_sweep)) | (refine' uf_ih ?F ?N ?a0 ?a1 ?b0 ?b1 ?c0 ?c1 ?d0 ?d1 ?e0 ?e1 ?f0 ?f1 ?ea ?eb ?ec ?ed ?ee ?ef ?z ?y ?x ?_; (case F => k_asm); (case N => k_asm); (case ea => k_asm); (case eb => k_asm); (case ec => k_asm); (case ed => k_asm); (case ee => k_asm); (case ef => k_asm); (case a0 => k_asm); (case a1 => k_asm); (case b0 => k_asm); (case b1 => k_asm); (case c0 => k_asm); (case c1 => k_asm); (case d0 => k_asm); (case d1 => k_asm); (case e0 => k_asm); (case e1 => k_asm); (case f0 => k_asm); (case f1 => k_asm); (case z => first | decide | omega); (case y => first | assumption | omega); (case x => first | decide | omega); intro a9 h9 ta tb tc td te tf tk9 F9 N9 l9; (try k_lt l9); (try k_sweep)))))

local macro_rules | `(tactic| walk_at "compareOp Eq ref ref") => `(tactic| (k_here; k_dflt (refine' eq_tups ?F ?N ?m ?d ?s ?u ?_; (case F => k_asm); (case N => k_asm); (case m => k_mem); (case d => k_asm); (case s => (repeat' (first | exact SameL.nil | refine SameL.int ?_ | refine SameL.bytes ?_))); (case u => ktr_units))))

local macro_rules | `(tactic| walk_at "call builtin:len") => `(tactic| (k_here; (with_reducible show wpAny _ _ (PySem.call (Value.builtin "len") [Value.bytes _ _]) _ _ _); (refine len_bytes (by assumption) ?_)))
local macro_rules | `(tactic| walk_at "subscriptTail") => `(tactic| (k_here; (with_reducible show wpAny _ _ (subscriptTail _ (Expr.Slice _ _ none _) (Value.bytes _ _) (Value.ref _)) _ _ _); (with_reducible rename Fr _ _ _ _ => F'); (with_reducible rename News _ _ _ _ => N'); (refine slice_B (s := ⟨_, _, _, _, _⟩) F' N' (by constructor) (by constructor) (by assumption) (by assumption) ?_); intro _ _ _ _ _))

theorem good_c {w : World} {dp un : Nat} {outer : List Env} {s : Shared} {h₀ : Heap} {p : Program} {loose : List Str} {mean : ExcName → Option Value} {mg mb : Str → Option Value}
    {kind : Int} {b : List UInt8} {ds : List Value} {tk tb : Tok} {d : Addr} {n : Nat}
    (X : (Mine.hd.heap_39 w.params).In h₀) (T : Top p loose mean mg mb h₀) (G : Grd h₀ outer [] s.heap) (hd' : s.heap.get? d = some (tupOf ds.toArray n)) (D : Due kind b ds)
    (hd : dp + 9 < recursionLimit) (hu : un + 90 < cLine) :
    codeAny (model PySem.Challenge.rw_ej5024_01.row.prog w) (amb dp un outer) (.call (.ref 217) ⟨[.int kind tk, .bytes b.toArray tb, .ref d], []⟩)
      (RetP s [] fun v h' => v = .bool true) s := by
  revert X; k_fill; intro X
  refine' enter (news := []) (binds := [("kind", .int kind tk), ("block", .bytes b.toArray tb), ("due", .ref d)]) X T G ?_ ?ho ?hcd ?hroom ?hbind ?hloc ?body ?hcell ?c2 ?c3 ?c4
  case ho => k_is
  case hcd => k_is
  case hroom => omega
  case hbind => exact BindsTo.of_eq rfl
  case hloc => exact locs rfl
  case hcell => decide
  case c2 => rfl
  case c3 => rfl
  case c4 => rfl
  · intro q hq; cases hq
  intro g L' h₁ B X' T' hkp hsub F N hlt
  have hdg : IsTup g d ds.toArray := ⟨_, hkp _ _ hd' (by simp), rfl, _, rfl⟩
  clear hkp hsub hd' G hlt
  cases D
  · rename_i x t hx0 hx1
    have e1 : (bl x 4).toArray = byteArr (beL x 4) := by rw [bl, Array.toArray_toList]
    rw [e1] at F
    have es : (byteArr (beL x 4)).size = 4 := by rw [byteArr_size, beL_length]; rfl
    have e2 : (byteArr (beL x 4)).extract (0 : Int).toNat ((0 : Int).toNat + 4) = byteArr (beL x 4) := by rw [byteArr_be4]; rfl
    have e3 : (0 : Int) + 4 ≤ ((byteArr (beL x 4)).size : Int) := by omega
    k_steps
    all_goals (refine leaveC_ (by assumption) (by assumption) ?_; first | rfl | rw [beq_self_eq_true])
  · rename_i x t hx0 hx1
    have e1 : (bl x 2).toArray = byteArr (beL x 2) := by rw [bl, Array.toArray_toList]
    rw [e1] at F
    have es : (byteArr (beL x 2)).size = 2 := by rw [byteArr_size, beL_length]; rfl
    have e2 : (byteArr (beL x 2)).extract (0 : Int).toNat ((0 : Int).toNat + 2) = byteArr (beL x 2) := by rw [byteArr_be2]; rfl
    have e3 : (0 : Int) + 2 ≤ ((byteArr (beL x 2)).size : Int) := by omega
    k_steps
    all_goals (refine leaveC_ (by assumption) (by assumption) ?_; first | rfl | rw [beq_self_eq_true])
  · rename_i a b c d' e f ta tb' tc td te tf a0 a1 b0 b1 c0 c1 d0 d1 e0 e1 f0 f1
    generalize hB2 : (bl a 4 ++ bl b 2 ++ bl c 4 ++ bl d' 2 ++ bl e 4 ++ bl f 2).toArray = B2 at F
    replace hB2 := hB2.symm
    have ea : B2.extract (0 : Int).toNat ((0 : Int).toNat + 4) = byteArr (beL a 4) := by simp only [hB2, bl, byteArr_be4, byteArr_be2]; rfl
    have eb : B2.extract ((0 : Int).toNat + 4) ((0 : Int).toNat + 4 + 2) = byteArr (beL b 2) := by simp only [hB2, bl, byteArr_be4, byteArr_be2]; rfl
    have ec : B2.extract ((0 : Int).toNat + 6) ((0 : Int).toNat + 6 + 4) = byteArr (beL c 4) := by simp only [hB2, bl, byteArr_be4, byteArr_be2]; rfl
    have ed : B2.extract ((0 : Int).toNat + 10) ((0 : Int).toNat + 10 + 2) = byteArr (beL d' 2) := by simp only [hB2, bl, byteArr_be4, byteArr_be2]; rfl
    have ee : B2.extract ((0 : Int).toNat + 12) ((0 : Int).toNat + 12 + 4) = byteArr (beL e 4) := by simp only [hB2, bl, byteArr_be4, byteArr_be2]; rfl
    have ef : B2.extract ((0 : Int).toNat + 16) ((0 : Int).toNat + 16 + 2) = byteArr (beL f 2) := by simp only [hB2, bl, byteArr_be4, byteArr_be2]; rfl
    have e9 : (0 : Int) + 18 ≤ (B2.size : Int) := by
      show (0 : Int) + 18 ≤ (B2.size : Int)
      simp only [hB2, bl, byteArr_be4, byteArr_be2]; exact (by decide : (0 : Int) + 18 ≤ ((18 : Nat) : Int))
    clear hB2
    k_steps
    all_goals (refine leaveC_ (by assumption) (by assumption) ?_; first | rfl | rw [beq_self_eq_true])
  · rename_i c x tc t hx0 hx1
    generalize hB2 : (c :: bl x 4).toArray = B2 at F
    replace hB2 := hB2.symm
    have e1 : B2.extract (0 : Int).toNat ((0 : Int).toNat + 1) = #[c] := by simp only [hB2, bl, byteArr_be4]; rfl
    have e2 : B2.extract ((0 : Int).toNat + 1) ((0 : Int).toNat + 1 + 4) = byteArr (beL x 4) := by simp only [hB2, bl, byteArr_be4]; rfl
    have e9 : (0 : Int) + 5 ≤ (B2.size : Int) := by
      show (0 : Int) + 5 ≤ (B2.size : Int)
      simp only [hB2, bl, byteArr_be4]; exact (by decide : (0 : Int) + 5 ≤ ((5 : Nat) : Int))
    clear hB2
    k_steps
    all_goals (refine leaveC_ (by assumption) (by assumption) ?_; first | rfl | rw [beq_self_eq_true])
  · rename_i a b ta tb' a0 a1 b0 b1
    generalize hB2 : (bl a 1 ++ bl b 2).toArray = B2 at F
    replace hB2 := hB2.symm
    have e1 : B2.extract (0 : Int).toNat ((0 : Int).toNat + 1) = byteArr (beL a 1) := by simp only [hB2, bl, byteArr_be1, byteArr_be2]; rfl
    have e2 : B2.extract ((0 : Int).toNat + 1) ((0 : Int).toNat + 1 + 2) = byteArr (beL b 2) := by simp only [hB2, bl, byteArr_be1, byteArr_be2]; rfl
    have e9 : (0 : Int) + 3 ≤ (B2.size : Int) := by
      show (0 : Int) + 3 ≤ (B2.size : Int)
      simp only [hB2, bl, byteArr_be1, byteArr_be2]; exact (by decide : (0 : Int) + 3 ≤ ((3 : Nat) : Int))
    clear hB2
    k_steps
    all_goals (refine leaveC_ (by assumption) (by assumption) ?_; first | rfl | rw [beq_self_eq_true])
  · rename_i z x t z0 z1 hx0 hx1
    generalize hB2 : (List.replicate z 0 ++ bl x 4).toArray = B2 at F
    replace hB2 := hB2.symm
    have hbl : (bl x 4).length = 4 := by simp only [bl, byteArr_be4]; rfl
    have hB : bl x 4 = (byteArr (beL x 4)).toList := rfl
    have esz : B2.size = z + 4 := by rw [hB2, List.size_toArray, List.length_append, List.length_replicate, hbl]
    have e9 : B2.size ≤ 1099511627776 := by omega
    have e8 : B2.size ≤ 16777216 := by omega
    have e7 : KBy.picked B2 (some (-4)) none = byteArr (beL x 4) := by rw [hB2]; exact (picked_tail (k := 4) hbl (by decide)).trans (by rw [bl, Array.toArray_toList])
    have e6 : B2.extract ((B2.size : Int) - 4).toNat (((B2.size : Int) - 4).toNat + 4) = byteArr (beL x 4) := by
      have e5 : ((B2.size : Int) - 4).toNat = z := by omega
      rw [e5, hB2, List.extract_toArray, List.extract_eq_drop_take, List.drop_left' (List.length_replicate ..), Nat.add_sub_cancel_left, List.take_of_length_le (by omega), bl, Array.toArray_toList]
    clear hB2 hbl hB
    k_steps
    all_goals (refine leaveC_ (by assumption) (by assumption) ?_; first | rfl | rw [beq_self_eq_true])

theorem good_call {w : World} {dp un : Nat} {outer : List Env} {s : Shared} {h₀ g : Heap} {L : Addr} {m : Str → Option Value} {news : List (Addr × Obj)} {p : Program} {loose : List Str} {mean : ExcName → Option Value} {mg mb : Str → Option Value}
    {env : Env} {kind : Int} {b : List UInt8} {ds : List Value} {tk tb : Tok} {d : Addr} {n : Nat} {Q E : Value → Shared → Prop}
    (X : (Mine.hd.heap_39 w.params).In h₀) (T : Top p loose mean mg mb h₀) (B : Below (amb dp un outer) h₀ outer g) (F : Fr g L s.heap m) (N : News g L s.heap news)
    (hd' : s.heap.get? d = some (tupOf ds.toArray n)) (D : Due kind b ds) (hf : env.frame = some L) (hkd : env.scope.kind = .function) (hd : dp + 10 < recursionLimit) (hu : un + 93 < cLine)
    (h : ∀ h' tok, Fr g L h' m → News g L h' news → Kept [] s.heap h' → Q (.bool true) { s with heap := h', toks := tok }) :
    wpAny (model PySem.Challenge.rw_ej5024_01.row.prog w) ((amb dp un outer).deeper env) (call (.ref 217) [.int kind tk, .bytes b.toArray tb, .ref d]) Q E s := by
  refine wpAny_call (codeAny_mono (good_c (dp := dp + 1) (un := un + 3) (outer := env :: outer) X T (Grd.push (ex := []) B F N hf hkd (by simp)) hd' D (by omega) (by omega)) ?_)
  rintro r s' ⟨v, h', tk', rfl, rfl, hkp, rfl⟩
  exact h h' tk' (fr_kept0 F hkp) (news_kept0 N hkp) hkp

end Mine
end PartC5
section PartC6
open PySem PySem.W PyProof.Rows PySem.Calls
set_option Elab.async false
set_option maxRecDepth 100000
set_option maxHeartbeats 8000000
namespace Mine
local macro_rules | `(tactic| k_room) => `(tactic| ktr_room)
local macro_rules | `(tactic| k_units) => `(tactic| ktr_units)
/-- the dict of a tube -/
abbrev tubeDict (P : Params) (t1 t2 t3 : Tok) (inc : Value) (sl es : Addr) : Obj :=
  dictOf [⟨PyData.keyHash P "incoming", .str "incoming" t1, inc⟩, ⟨PyData.keyHash P "sizes", .str "sizes" t2, .ref sl⟩, ⟨PyData.keyHash P "sent", .str "sent" t3, .ref es⟩] 3

theorem picked_pre {b : List UInt8} {k : Int} (h : 0 ≤ k) : KBy.picked b.toArray none (some k) = (b.take k.toNat).toArray := by
  rw [KBc.picked_eq]
  have hc : clipAt b.toArray.size k = min k.toNat b.length := by
    unfold clipAt
    rw [List.size_toArray]
    split <;> omega
  simp only [Option.elim_some, Option.elim_none, hc, List.drop_zero, Nat.sub_zero]
  congr 1
  rcases Nat.le_total k.toNat b.length with h1 | h1
  · rw [Nat.min_eq_left h1]
  · rw [Nat.min_eq_right h1, List.take_of_length_le (Nat.le_refl _), List.take_of_length_le h1]
theorem picked_post {b : List UInt8} {k : Int} (h : 0 ≤ k) : KBy.picked b.toArray (some k) none = (b.drop k.toNat).toArray := by
  rw [KBc.picked_eq]
  have hc : clipAt b.toArray.size k = min k.toNat b.length := by
    unfold clipAt
    rw [List.size_toArray]
    split <;> omega
  simp only [Option.elim_some, Option.elim_none, hc]
  congr 1
  rcases Nat.le_total k.toNat b.length with h1 | h1
  · rw [Nat.min_eq_left h1, List.take_of_length_le (by rw [List.size_toArray, List.length_drop]; exact Nat.le_refl _)]
  · rw [Nat.min_eq_right h1, List.drop_of_length_le (Nat.le_refl _), List.drop_of_length_le h1, List.take_nil]
theorem min_nonneg {M size : Int} {ks : List Int} (h : M ∈ [size] ++ List.take 1 ks) (h0 : 0 ≤ size) (hk : ∀ k ∈ ks, (1 : Int) ≤ k) : 0 ≤ M := by
  rcases List.mem_append.mp h with h | h
  · rw [List.mem_singleton.mp h]; exact h0
  · have := hk M (List.mem_of_mem_take h); omega
local macro_rules | `(tactic| walk_at "subscriptTail") => `(tactic| (k_here; (with_reducible show wpAny _ _ (subscriptTail _ (Expr.Slice _ _ none _) (Value.bytes _ _) (Value.ref _)) _ _ _); (with_reducible rename Fr _ _ _ _ => F'); (with_reducible rename News _ _ _ _ => N'); (first | refine slice_B (s := ⟨_, _, _, _, _⟩) F' N' (by constructor) (by constructor) (by rw [List.size_toArray]; omega) (picked_pre (min_nonneg (by assumption) (by assumption) (by assumption))) ?_ | refine slice_B (s := ⟨_, _, _, _, _⟩) F' N' (by constructor) (by constructor) (by rw [List.size_toArray]; omega) (picked_post (min_nonneg (by assumption) (by assumption) (by assumption))) ?_); intro _ _ _ _ _))

/-- a tube at its place: what is to come in, the list of its sizes, its store of what was sent -/
def TubeAt (P : Params) (h : Heap) (x dx : Addr) (b : List UInt8) (sl es : Addr) : Prop :=
  ∃ t1 t2 t3 tb, h.get? x = some (instObj 180 dx) ∧ h.get? dx = some (tubeDict P t1 t2 t3 (.bytes b.toArray tb) sl es)
def SizesAt (h : Heap) (sl : Addr) : Prop := ∃ us ks, h.IsList sl us.toArray ∧ IntsAre us ks ∧ (∀ k ∈ ks, (1 : Int) ≤ k) ∧ ks.length ≤ 10

theorem ne_of_cls {h : Heap} {a b : Addr} {o o' : Obj} (ha : h.get? a = some o) (hb : h.get? b = some o') (hc : o.cls ≠ o'.cls) : a ≠ b := fun e => by
  subst e; rw [ha] at hb; exact hc (congrArg Obj.cls (Option.some.inj hb))
theorem list_ne {h : Heap} {a b : Addr} {its : Array Value} {o : Obj} (ha : h.IsList a its) (hb : h.get? b = some o) (hc : Value.type "list" ≠ o.cls) : a ≠ b := by
  obtain ⟨o', ho, hcl, _⟩ := ha
  exact ne_of_cls ho hb (by rw [hcl]; exact hc)

theorem fresh_hidden {h g : Heap} {ex : List Addr} {a : Addr} (k : Kept ex h g) (hg : g.get? a = none) (hn : a ∉ ex) : h.get? a = none := by
  cases q : h.get? a with
  | none => rfl
  | some o => have := k a o q hn; rw [hg] at this; cases this
theorem read_c {w : World} {dp un : Nat} {outer : List Env} {s : Shared} {h₀ : Heap} {p : Program} {loose : List Str} {mean : ExcName → Option Value} {mg mb : Str → Option Value}
    {x dx sl es : Addr} {b : List UInt8} {ts : Tok} {size : Int}
    (X : (Mine.hd.heap_39 w.params).In h₀) (T : Top p loose mean mg mb h₀) (G : Grd h₀ outer [x, dx] s.heap)
    (hT : TubeAt w.params s.heap x dx b sl es) (hS : SizesAt s.heap sl) (hsz : 0 ≤ size) (hb : b.length ≤ 1000)
    (hd : dp + 9 < recursionLimit) (hu : un + 90 < cLine) :
    codeAny (model PySem.Challenge.rw_ej5024_01.row.prog w) (amb dp un outer) (.call (.ref 163) ⟨[.ref x, .int size ts], []⟩)
      (RetP s [x, dx] fun v h' => ∃ (k : Nat) (sl' : Addr) (t : Tok), (k : Int) ≤ size ∧ (1 ≤ size → 1 ≤ k) ∧ v = .bytes (b.take k).toArray t ∧ TubeAt w.params h' x dx (b.drop k) sl' es ∧ SizesAt h' sl' ∧ s.heap.get? sl' = none) s := by
  revert X; k_fill; intro X
  obtain ⟨t1, t2, t3, tb, hx, hdx⟩ := hT
  obtain ⟨us, ks, hsl, hI, hk, hlen⟩ := hS
  have hne : x ≠ dx := ne_of_cls hx hdx (fun e => by cases e)
  have hsx : sl ≠ x := list_ne hsl hx (fun e => by cases e)
  have hsd : sl ≠ dx := list_ne hsl hdx (fun e => absurd (Value.type.inj e) (by decide))
  refine' enter (news := [(x, instObj 180 dx), (dx, tubeDict w.params t1 t2 t3 (.bytes b.toArray tb) sl es)]) (binds := [("self", .ref x), ("size", .int size ts)]) X T G ?_ ?ho ?hcd ?hroom ?hbind ?hloc ?body ?hcell ?c2 ?c3 ?c4
  case ho => k_is
  case hcd => k_is
  case hroom => omega
  case hbind => exact BindsTo.of_eq rfl
  case hloc => exact locs rfl
  case hcell => decide
  case c2 => rfl
  case c3 => rfl
  case c4 => rfl
  · intro q hq; cases hq with
    | head => exact hx
    | tail _ q => cases q with
      | head => exact hdx
      | tail _ q => cases q
  intro g L' h₁ B X' T' hkp hsub F N l1
  have hlg : g.IsList sl us.toArray := by
    obtain ⟨o, ho, r⟩ := hsl
    exact ⟨o, hkp _ _ ho (by simp [hsx, hsd]), r⟩
  k_lt l1
  clear hsub G hx hdx hsl
  k_steps
  rename (_ ∈ [size] ++ List.take 1 ks) => hM
  rename (∀ a ∈ [size] ++ List.take 1 ks, _ ≤ a) => hle
  rename News g L' _ _ => N9
  rename Fr g L' _ _ => F9
  rename IntsAre _ (List.drop 1 ks) => hI1
  have h0 := min_nonneg hM hsz hk
  have h1 := hle size (by simp)
  have h2 := fun h : 1 ≤ size => (List.mem_append.mp hM).elim (fun q => by rw [List.mem_singleton.mp q]; exact h) (fun q => hk _ (List.mem_of_mem_take q))
  refine leaveC_ F9 N9 ⟨_, _, _, ?_, ?_, rfl, ⟨t1, t2, t3, _, News.get N9 (by k_mem), News.get N9 (by k_mem)⟩, ?_⟩
  · omega
  · intro h; have := h2 h; omega
  · refine ⟨⟨_, _, ⟨_, News.get N9 (by k_mem), rfl, _, rfl⟩, hI1, fun k hk' => hk k (List.mem_of_mem_drop hk'), by omega⟩, ?_⟩
    refine fresh_hidden hkp (N9 _ (.tail _ (.head _))).2.2 fun q => ?_
    simp only [List.map_cons, List.map_nil, List.mem_cons, List.not_mem_nil, or_false] at q
    rcases q with q | q
    · exact absurd q (neN (by omega))
    · exact absurd q (neN (by omega))
end Mine
end PartC6
section PartK4
open PySem PySem.W PyProof.Rows PySem.Calls
set_option Elab.async false
set_option maxRecDepth 100000
set_option maxHeartbeats 8000000
namespace Mine
section
variable {prog : Program} {w : World} {A : Around} {E : Value → Shared → Prop} {s : Shared}

theorem codeC_builtin {id : String} {args : Args} {b : Builtin} {R : Result → Shared → Prop} (hb : entryFor table id = some b) (hd : Builtin.Bytes.decodersThatHold.contains id = false)
    (h : wpC (model prog w) (A.under (.builtin id args)) (b args) (fun fin s' => match fin with | .done f => R (.ok f) s' | .again c' => c'.quiet = true ∧ codeC (model prog w) A c' R s') (fun e s' => R (.error e) s') s) :
    codeC (model prog w) A (.builtin id args) R s := by
  refine codeC_of_tree (by simp only [decOk, hd, Bool.not_false]) ?_
  show wpC _ _ (match entryFor table id with | some b => b args | none => unsupported ((withoutEnding? id "#data").getD id)) _ _ s
  rw [hb]; exact h

/-- a builtin that is called by a slot of its first argument's type -/
theorem callC_entry {T : String} {name : Str} {id : String} {b : Builtin} {self : Value} {rest : List Value} {Q : Value → Shared → Prop} (h : Slot T name id) (hT : s.TypeIs self T) (hb : entryFor table id = some b)
    (hd : Builtin.Bytes.decodersThatHold.contains id = false) (ha : argsOk id ⟨self :: rest, []⟩)
    (hc : wpC (model prog w) A.in1 (b ⟨self :: rest, []⟩) (fun fin s' => ∃ v, fin = .done (.ret v) ∧ Q v s') E s) : wpC (model prog w) A (call (.builtin id) (self :: rest)) Q E s := by
  refine wpC_call (codeC_of_tree rfl ?_)
  show wpC _ A.in1 (do checkBuiltinCall id ⟨self :: rest, []⟩; again (.builtin id ⟨self :: rest, []⟩)) _ _ s
  refine wpC_bindA (h.check _ _ _ _ _ _ _ _ hT ha (wpC_pure ⟨plainId_quiet h.plain _, codeC_builtin hb hd ?_⟩))
  rw [Around.under_plainId h.plain _]
  refine wpC_mono hc (fun fin s' h' => ?_) fun _ _ h' => h'
  obtain ⟨v, rfl, hv⟩ := h'
  exact hv

theorem type_callC {T newId initId : String} {Bi : Builtin} {args : List Value} {Q Q₁ : Value → Shared → Prop} (ft : TypeCalled T newId initId)
    (hct : checkTypeCall T ⟨args, []⟩ = pure ()) (entryI : entryFor table initId = some Bi) (hdi : Builtin.Bytes.decodersThatHold.contains initId = false)
    (hnew : codeAny (model prog w) A.in1 (.call (.builtin newId) ⟨.type T :: args, []⟩) (wants Q₁ E) s)
    (hnext : ∀ obj s₁, Q₁ obj s₁ → s₁.TypeIs obj T ∧ argsOk initId ⟨obj :: args, []⟩ ∧ wpC (model prog w) A.in1.in1 (Bi ⟨obj :: args, []⟩) (fun fin s' => fin = .done (.ret .none) ∧ Q obj s' ∧ s'.TypeIs obj T) E s₁) :
    wpC (model prog w) A (call (.type T) args) Q E s := by
  obtain ⟨c, tl, hmro⟩ := ft.mro
  have hmade := ft.made
  have hsub := ft.sub
  have h1 := ft.notType
  have h2 := ft.canCreate
  refine wpC_call (codeC_of_tree rfl (wpC_pure ⟨Code.quiet_builtin _ (by decide +kernel), codeC_builtin F.entry_type_call (by decide +kernel) ?_⟩))
  rw [Around.under_plain (weight_type_call_type T args []) rfl]
  unfold Builtin.«type.__call__»
  dsimp only
  simp only [h1, h2, Bool.false_eq_true, if_false]
  rw [hct]
  refine wpC_bindA (wpAny_pure ?_)
  rw [hmro]
  refine wpC_bindA (wpAny_pure ?_)
  rw [if_neg (by simp), hmade]
  refine wpC_bindA (wpAny_pure ?_)
  dsimp only
  refine wpC_bindA (wpAny_pure (wpC_bindA (wpAny_holding (wpAny_call (codeAny_mono hnew fun r s₁ hr => ?_)))))
  cases r with
  | error e => exact hr
  | ok fl =>
    cases fl with
    | ret obj =>
      obtain ⟨hT, hok, hsi⟩ := hnext _ _ hr
      show wpC _ _ _ _ _ _
      refine wpC_bindA (wpAny_isInstance hT hsub ?_)
      rw [if_neg (by decide)]
      refine wpC_bind (wpC_holding ?_)
      simp only [callSpecial?]
      refine wpC_bindA (wpAny_specialOf hT ft.init.lookup ?_)
      dsimp only
      rw [ft.init.bind]
      refine wpC_holding (wpC_bindA (wpAny_pure (wpC_bind (wpC_mono (callC_entry (Q := fun v s' => v = .none ∧ Q obj s' ∧ s'.TypeIs obj T) ft.init hT entryI hdi hok (wpC_mono hsi (fun fin s' h' => ⟨.none, h'.1, rfl, h'.2⟩) fun _ _ e => e)) (fun v s' hv => wpC_pure ?_) fun _ _ e => e))))
      obtain ⟨rfl, hq, _⟩ := hv
      dsimp only
      rw [if_neg (by decide)]
      exact wpC_pure hq
    | _ => exact hr.elim
end
end Mine
end PartK4
section PartK5
open PySem PySem.W PyProof.Rows PySem.Calls
set_option Elab.async false
set_option maxRecDepth 100000
set_option maxHeartbeats 8000000
namespace Mine
theorem ba_mro : mroOf (.type "bytearray") = pure [.type "bytearray", .type "object"] := by rw [mroOf_type]; kernel_rfl
theorem ba_lookup_new : typeLookup (.type "bytearray") "__new__" = pure (some (.builtin "bytearray.__new__")) := by rw [typeLookup_type, builtinLookup_eq_fast]; kernel_rfl
theorem ba_slot_init : Slot "bytearray" "__init__" "bytearray.__init__" :=
  .of (owner := "bytearray") (n := "__init__") (by rw [typeLookup_type, builtinLookup_eq_fast]; kernel_rfl) (by decide +kernel) (by decide +kernel) (by decide +kernel)
    (by first | exact .inl (by decide +kernel) | exact .inr (by decide +kernel)) (by rw [isSubtype_type]; kernel_rfl)
theorem ba_sub : isSubtype (.type "bytearray") (.type "bytearray") = pure true := by rw [isSubtype_type]; kernel_rfl
theorem ba_called : TypeCalled "bytearray" "bytearray.__new__" "bytearray.__init__" :=
  ⟨by decide +kernel, by decide +kernel, ⟨_, _, ba_mro⟩, madeBy_type ba_mro ba_lookup_new (by decide +kernel), by decide +kernel, ba_sub, ba_slot_init⟩
theorem ba_typeCall1 (a : Value) : checkTypeCall "bytearray" ⟨[a], []⟩ = pure () := by kernel_rfl
theorem ba_typeCall0 : checkTypeCall "bytearray" ⟨[], []⟩ = pure () := by kernel_rfl
theorem ba_newCall1 (a : Value) : checkBuiltinCall "bytearray.__new__" ⟨[.type "bytearray", a], []⟩ = pure () := by kernel_rfl
theorem ba_newCall0 : checkBuiltinCall "bytearray.__new__" ⟨[.type "bytearray"], []⟩ = pure () := by kernel_rfl
theorem entryFor_alias {tb : String → Option Builtin} {id c : String} {b : Builtin} (h1 : tb id = none) (h3 : id.cutAt '#' = [id])
    (h2 : Manifest.canonical (id.map fun c => if c.isAlphanum || c == '_' || c == '.' then c else '_') ++ "" = c) (h4 : tb c = some b) : entryFor tb id = some b := by
  unfold entryFor
  rw [h1, h3]
  dsimp only
  rw [h2, h4]
theorem ba_entry_new : entryFor table "bytearray.__new__" = some Builtin.«list.__new__» := by
  rw [table_eq_fast]
  exact entryFor_alias (by rw [fastTable_eq_tree]; kernel_rfl) (by decide +kernel) (c := "list.__new__") (by decide +kernel) (by rw [fastTable_eq_tree]; kernel_rfl)
theorem ba_entry_init : entryFor table "bytearray.__init__" = some Builtin.«bytearray.__init__» := entryFor_of_tree (by kernel_rfl)
theorem ba_args_init0 (a : Value) : argsOk "bytearray.__init__" ⟨[a], []⟩ := by unfold argsOk; kernel_rfl
theorem ba_args_init1 (a b : Value) : argsOk "bytearray.__init__" ⟨[a, b], []⟩ := by unfold argsOk; kernel_rfl
theorem ba_plain_new : plainId "bytearray.__new__" = true := by decide +kernel
set_option maxRecDepth 1000000 in
set_option maxHeartbeats 4000000 in
theorem ba_owner : ("bytearray.__new__".splitOn ".__new__").headD "" = "bytearray" := by simp +decide [String.splitOn, String.splitOnAux]
theorem ba_bind0 : Builtin.Bytes.bindOptional "bytearray.__init__" "bytearray" ["source", "encoding", "errors"] [] [] = pure [none, none, none] := by kernel_rfl
theorem ba_bind1 (v : Value) : Builtin.Bytes.bindOptional "bytearray.__init__" "bytearray" ["source", "encoding", "errors"] [v] [] = pure [some v, none, none] := by kernel_rfl

abbrev baOf (b : Array UInt8) : Obj := { cls := .type "bytearray", data := .bytearray b }

section
variable {prog : Program} {w : World} {A : Around} {E : Value → Shared → Prop} {s : Shared}
theorem code_ba_new {args : List Value} {Q₁ : Value → Shared → Prop} (hc : checkBuiltinCall "bytearray.__new__" ⟨.type "bytearray" :: args, []⟩ = pure ())
    (h : Q₁ (.ref s.heap.objs.size) { s with heap := s.heap.push (baOf #[]) }) :
    codeAny (model prog w) A (.call (.builtin "bytearray.__new__") ⟨.type "bytearray" :: args, []⟩) (wants Q₁ E) s := by
  refine codeAny_of_tree ?_
  show wpAny _ A.in1 (do checkBuiltinCall "bytearray.__new__" ⟨.type "bytearray" :: args, []⟩; again (.builtin "bytearray.__new__" ⟨.type "bytearray" :: args, []⟩)) _ _ s
  refine wpAny_bind (wpAny_of_eq hc (wpAny_pure ⟨plainId_quiet ba_plain_new _, codeAny_builtin_stack ba_entry_new rfl fun p st => ?_⟩))
  rw [Around.under_plainId ba_plain_new _]
  have hsub := ba_sub
  have hown := ba_owner
  obtain ⟨hp, g, d, tk, os⟩ := s
  simp only [hown]
  wp_walk
  exact h

/-- none of the codes under way holds it -/
theorem exported_false {M : Model} {self : Value} {Q : Bool → Shared → Prop} (hg : A.guards = some []) (h : Q false s) : wpC M A (Builtin.Bytes.exported self) Q E s := fun Γ p hΓ hc => by
  have hgu := hΓ.2.2.2.1 [] hg
  rw [← guardsOf_cons Γ.code p] at hgu
  unfold Builtin.Bytes.exported
  rw [Sem.wp_bind']
  show Q (((Γ.code, p) :: Γ.below).any _) s
  have key : ∀ x ∈ (Γ.code, p) :: Γ.below, x.1.isGuard = false ∧ decOk x.1 = true := fun x hx => by
    refine ⟨?_, ?_⟩
    · cases hq : x.1.isGuard with
      | false => rfl
      | true =>
        have : x.1 ∈ guardsOf ((Γ.code, p) :: Γ.below) := List.mem_filter.mpr ⟨List.mem_map_of_mem hx, hq⟩
        rw [hgu] at this; cases this
    · rcases List.mem_cons.mp hx with rfl | hx
      · exact hc.1
      · exact hc.2 x hx
  have e : ((Γ.code, p) :: Γ.below).any (fun
    | (.builtin "bytearray.__contains__" ⟨v :: _, _⟩, _) | (.builtin "bytearray.__mod__" ⟨v :: _, _⟩, _)
    | (.builtin "bytearray.__rmod__" ⟨_ :: v :: _, _⟩, _) | (.builtin "_struct.pack_into.held" ⟨v :: _, _⟩, _) => Builtin.Bytes.sameRef v self
    | (.builtin "bytearray.find.held" ⟨_ :: _ :: held, _⟩, _) => held.any (Builtin.Bytes.sameRef self)
    | (.builtin id ⟨v :: _, _⟩, _) => Builtin.Bytes.sameRef v self && Builtin.Bytes.decodersThatHold.contains id
    | _ => false) = false := by
    rw [List.any_eq_false]
    intro x hx
    obtain ⟨k1, k2⟩ := key x hx
    split
    · exact absurd k1 (by simp [Code.isGuard, guardIds])
    · exact absurd k1 (by simp [Code.isGuard, guardIds])
    · exact absurd k1 (by simp [Code.isGuard, guardIds])
    · exact absurd k1 (by simp [Code.isGuard, guardIds])
    · exact absurd k1 (by simp [Code.isGuard, guardIds])
    · simp only [decOk, Bool.not_eq_true'] at k2
      rw [k2, Bool.and_false]; decide
    · decide
  exact (congrArg (Q · s) e).mpr h
end
end Mine
end PartK5
section PartK6
open PySem PySem.W PyProof.Rows PySem.Calls PySem.Builtin
set_option Elab.async false
set_option maxRecDepth 100000
set_option maxHeartbeats 8000000
namespace Mine
theorem ba_look_release : typeLookup (.type "bytearray") "__release_buffer__" = pure (some (.builtin "bytearray.__release_buffer__")) := by rw [typeLookup_type, builtinLookup_eq_fast]; kernel_rfl
theorem ba_look_buffer : typeLookup (.type "bytearray") "__buffer__" = pure (some (.builtin "bytearray.__buffer__")) := by rw [typeLookup_type, builtinLookup_eq_fast]; kernel_rfl
theorem bytes_no_index : typeLookup (.type "bytes") "__index__" = pure none := by rw [typeLookup_type, builtinLookup_eq_fast]; kernel_rfl
section
variable {prog : Program} {w : World} {A : Around} {E : Value → Shared → Prop} {s : Shared} {a : Addr} {b c : Array UInt8} {t : Tok}
theorem ba_typeIs (h : s.heap.get? a = some (baOf b)) : s.TypeIs (.ref a) "bytearray" := ⟨_, h, rfl⟩
theorem ba_own {name : String} {id : String} {Q : Bool → Shared → Prop} (hT : s.TypeIs (.ref a) "bytearray") (hl : typeLookup (.type "bytearray") name = pure (some (.builtin id))) (he : id.endsWith ("." ++ name) = true) (hd : id.dropRight (name.length + 1) = "bytearray")
    (h : Q true s) : wpAny (model prog w) A (Bytes.slotIsOwn (.ref a) name) Q E s := by
  unfold Bytes.slotIsOwn
  refine wpAny_bind (wpAny_specialOf hT hl ?_)
  dsimp only
  rw [he, if_neg (by decide), hd]
  exact wpAny_isInstance hT ba_sub h
theorem ba_release {Q : Bool → Shared → Prop} (hT : s.TypeIs (.ref a) "bytearray") (h : Q false s) : wpAny (model prog w) A (Bytes.ownRelease (.ref a)) Q E s := by
  unfold Bytes.ownRelease
  exact wpAny_bind (ba_own hT ba_look_release (by decide +kernel) (by decide +kernel) (wpAny_pure h))
theorem ba_payload {Q : Array UInt8 → Shared → Prop} (hs : s.heap.get? a = some (baOf b)) (h : Q b s) : wpAny (model prog w) A (Bytes.payload (.ref a)) Q E s := by
  unfold Bytes.payload Bytes.payload?
  exact wpAny_bind (wpAny_bind (wpAny_load hs (wpAny_pure (wpAny_pure h))))
theorem ba_exportsOf {Q : Nat → Shared → Prop} (hs : s.heap.get? a = some (baOf b)) (h : Q 0 s) : wpAny (model prog w) A (Bytes.exportsOf (.ref a)) Q E s := by
  unfold Bytes.exportsOf
  exact wpAny_bind (wpAny_load hs (wpAny_pure h))
theorem ba_write {f : Array UInt8 → Array UInt8} {Q : Unit → Shared → Prop} (hs : s.heap.get? a = some (baOf b)) (hz : (f b).size ≤ sizeLine) (h : ∀ h', h'.get? a = some (baOf (f b)) → Heap.SameBut a s.heap h' → Q () { s with heap := h' }) :
    wpAny (model prog w) A (Bytes.write (.ref a) f) Q E s := by
  show wpAny _ _ (updateBytearray a f) _ _ _
  unfold updateBytearray
  refine wpAny_bind (wpAny_load hs ?_)
  show wpAny _ _ (update a (Obj.mapBytearray f) >>= fun _ => lookBehind a) _ _ _
  refine wpAny_bind (wpAny_update hs ?_)
  have h2 : (s.heap.update a (Obj.mapBytearray f)).get? a = some (baOf (f b)) := Heap.get?_update_self (Obj.mapBytearray f) hs rfl
  refine wpAny_lookBehind h2 ?_ (h _ h2 (Heap.SameBut.update ..))
  show (if (f b).size > sizeLine then some "bytearray:memory" else none) = none
  rw [if_neg (by omega)]
/-- neither exported nor under a view -/
theorem ba_free {Q : Bool → Shared → Prop} (hg : A.guards = some []) (hs : s.heap.get? a = some (baOf b)) (h : Q false s) :
    wpC (model prog w) A (Bytes.exported (.ref a) <||> (do return decide ((← Bytes.exportsOf (.ref a)) > 0))) Q E s := by
  unfold orM
  refine wpC_bind (exported_false hg ?_)
  show wpC _ _ (do return decide ((← Bytes.exportsOf (.ref a)) > 0)) Q E s
  exact wpC_of (wpAny_bind (ba_exportsOf hs (wpAny_pure h)))
theorem buffer_full {id : String} : Bytes.buffer? id (.bytes c t) (full := true) = pure (some c) := by
  unfold Bytes.buffer?
  rw [KBy.special_eq KBy.look_buffer, KBy.own_buffer, KBy.own_release]
  kernel_rfl
theorem ba_init1 {Q : Value → Shared → Prop} (hg : A.guards = some []) (hs : s.heap.get? a = some (baOf #[])) (hz : c.size ≤ sizeLine) (h : ∀ h', h'.get? a = some (baOf c) → Heap.SameBut a s.heap h' → Q .none { s with heap := h' }) :
    wpC (model prog w) A («bytearray.__init__» ⟨[.ref a, .bytes c t], []⟩) (fun fin s' => ∃ v, fin = .done (.ret v) ∧ Q v s') E s := by
  unfold «bytearray.__init__»
  dsimp only
  refine wpC_bindA (ba_release (ba_typeIs hs) ?_)
  rw [if_neg (by decide), ba_bind1]
  refine wpC_bindA (wpAny_pure ?_)
  dsimp only
  refine wpC_bindA (wpAny_of_eq (a := ()) rfl ?_)
  refine wpC_bindA (wpAny_of_eq (a := ()) rfl ?_)
  refine wpC_bind (ba_free hg hs ?_)
  rw [if_neg (by decide)]
  refine wpC_bindA (ba_write hs (Nat.zero_le _) fun h1 hs1 sb1 => ?_)
  refine wpC_bindA (wpAny_of_eq (a := none) rfl ?_)
  rw [if_neg (by decide), if_neg (by decide), if_neg (by decide)]
  refine wpC_bindA (wpAny_pure ?_)
  refine wpC_bindA (wpAny_specialOf (typeIs_bytes _ _ _) bytes_no_index ?_)
  rw [if_neg (by decide)]
  rw [buffer_full]
  refine wpC_bindA (wpAny_pure ?_)
  dsimp only
  refine wpC_bindA (wpAny_rule ?_)
  refine wpC_bindA (ba_write hs1 hz fun h2 hs2 sb2 => ?_)
  exact wpC_pure ⟨_, rfl, h h2 hs2 (sb1.trans sb2)⟩
theorem ba_init0 {Q : Value → Shared → Prop} (hg : A.guards = some []) (hs : s.heap.get? a = some (baOf #[])) (h : ∀ h', h'.get? a = some (baOf #[]) → Heap.SameBut a s.heap h' → Q .none { s with heap := h' }) :
    wpC (model prog w) A («bytearray.__init__» ⟨[.ref a], []⟩) (fun fin s' => ∃ v, fin = .done (.ret v) ∧ Q v s') E s := by
  unfold «bytearray.__init__»
  dsimp only
  refine wpC_bindA (ba_release (ba_typeIs hs) ?_)
  rw [if_neg (by decide), ba_bind0]
  refine wpC_bindA (wpAny_pure ?_)
  dsimp only
  refine wpC_bindA (wpAny_of_eq (a := ()) rfl ?_)
  refine wpC_bindA (wpAny_of_eq (a := ()) rfl ?_)
  refine wpC_bind (ba_free hg hs ?_)
  rw [if_neg (by decide)]
  refine wpC_bindA (ba_write hs (Nat.zero_le _) fun h1 hs1 sb1 => ?_)
  rw [if_neg (by decide), if_neg (by decide)]
  refine wpC_bindA (wpAny_pure ?_)
  exact wpC_pure ⟨_, rfl, h h1 hs1 sb1⟩

/-- bytearray(b), bytearray() -/
theorem new_ba1 {Q : Value → Shared → Prop} (hg : A.guards = some []) (hz : c.size ≤ sizeLine) (h : ∀ x h', (∀ b o, s.heap.get? b = some o → h'.get? b = some o) → s.heap.get? x = none → h'.get? x = some (baOf c) → Q (.ref x) { s with heap := h' }) :
    wpC (model prog w) A (call (.type "bytearray") [.bytes c t]) Q E s := by
  refine type_callC (Q₁ := fun obj s₁ => obj = .ref s.heap.objs.size ∧ s₁ = { s with heap := s.heap.push (baOf #[]) }) ba_called (ba_typeCall1 _) ba_entry_init (by decide +kernel) (code_ba_new (ba_newCall1 _) ⟨rfl, rfl⟩) ?_
  rintro obj s₁ ⟨rfl, rfl⟩
  have h0 : (s.heap.push (baOf #[])).get? s.heap.objs.size = some (baOf #[]) := Heap.get?_push_size _ rfl
  refine ⟨ba_typeIs h0, ba_args_init1 _ _, wpC_mono (ba_init1 (Q := fun v s' => v = .none ∧ Q (.ref s.heap.objs.size) s' ∧ s'.TypeIs (.ref s.heap.objs.size) "bytearray") (by exact hg) h0 hz fun h' h1 sb => ⟨rfl, ?_, ba_typeIs h1⟩) (fun fin s' z => ?_) fun _ _ e => e⟩
  · exact h _ h' (fun b o e => sb.extBut b o (Nat.ne_of_lt (Heap.lt_size e)) (Heap.get?_push_of_some _ e)) (by cases q : s.heap.get? s.heap.objs.size with | none => rfl | some o => exact absurd (Heap.lt_size q) (Nat.lt_irrefl _)) h1
  · obtain ⟨v, rfl, rfl, z⟩ := z
    exact ⟨rfl, z⟩
theorem new_ba0 {Q : Value → Shared → Prop} (hg : A.guards = some []) (h : ∀ x h', (∀ b o, s.heap.get? b = some o → h'.get? b = some o) → s.heap.get? x = none → h'.get? x = some (baOf #[]) → Q (.ref x) { s with heap := h' }) :
    wpC (model prog w) A (call (.type "bytearray") []) Q E s := by
  refine type_callC (Q₁ := fun obj s₁ => obj = .ref s.heap.objs.size ∧ s₁ = { s with heap := s.heap.push (baOf #[]) }) ba_called ba_typeCall0 ba_entry_init (by decide +kernel) (code_ba_new ba_newCall0 ⟨rfl, rfl⟩) ?_
  rintro obj s₁ ⟨rfl, rfl⟩
  have h0 : (s.heap.push (baOf #[])).get? s.heap.objs.size = some (baOf #[]) := Heap.get?_push_size _ rfl
  refine ⟨ba_typeIs h0, ba_args_init0 _, wpC_mono (ba_init0 (Q := fun v s' => v = .none ∧ Q (.ref s.heap.objs.size) s' ∧ s'.TypeIs (.ref s.heap.objs.size) "bytearray") (by exact hg) h0 fun h' h1 sb => ⟨rfl, ?_, ba_typeIs h1⟩) (fun fin s' z => ?_) fun _ _ e => e⟩
  · exact h _ h' (fun b o e => sb.extBut b o (Nat.ne_of_lt (Heap.lt_size e)) (Heap.get?_push_of_some _ e)) (by cases q : s.heap.get? s.heap.objs.size with | none => rfl | some o => exact absurd (Heap.lt_size q) (Nat.lt_irrefl _)) h1
  · obtain ⟨v, rfl, rfl, z⟩ := z
    exact ⟨rfl, z⟩
end
end Mine
end PartK6
section PartK7
open PySem PySem.W PyProof.Rows PySem.Calls PySem.Builtin
set_option Elab.async false
set_option maxRecDepth 100000
set_option maxHeartbeats 8000000
namespace Mine
theorem ba_slot_extend : Slot "bytearray" "extend" "bytearray.extend" :=
  .of (owner := "bytearray") (n := "extend") (by rw [typeLookup_type, builtinLookup_eq_fast]; kernel_rfl) (by decide +kernel) (by decide +kernel) (by decide +kernel)
    (by first | exact .inl (by decide +kernel) | exact .inr (by decide +kernel)) (by rw [isSubtype_type]; kernel_rfl)
theorem ba_entry_extend : entryFor table "bytearray.extend" = some Builtin.«bytearray.extend» := entryFor_of_tree (by kernel_rfl)
theorem ba_args_extend (a b : Value) : argsOk "bytearray.extend" ⟨[a, b], []⟩ := by unfold argsOk; kernel_rfl
theorem ba_slot_len : Slot "bytearray" "__len__" "bytearray.__len__" :=
  .of (owner := "bytearray") (n := "__len__") (by rw [typeLookup_type, builtinLookup_eq_fast]; kernel_rfl) (by decide +kernel) (by decide +kernel) (by decide +kernel)
    (by first | exact .inl (by decide +kernel) | exact .inr (by decide +kernel)) (by rw [isSubtype_type]; kernel_rfl)
theorem ba_entry_len : entryFor table "bytearray.__len__" = some Builtin.«bytearray.__len__» := entryFor_of_tree (by kernel_rfl)
theorem ba_args_len (a : Value) : argsOk "bytearray.__len__" ⟨[a], []⟩ := by unfold argsOk; kernel_rfl
theorem ba_no_bytes : typeLookup (.type "bytearray") "__bytes__" = pure none := by rw [typeLookup_type, builtinLookup_eq_fast]; kernel_rfl
theorem ba_no_index : typeLookup (.type "bytearray") "__index__" = pure none := by rw [typeLookup_type, builtinLookup_eq_fast]; kernel_rfl
theorem buffer_any {id : String} {full : Bool} {c : Array UInt8} {t : Tok} : Bytes.buffer? id (.bytes c t) full = pure (some c) := by
  unfold Bytes.buffer?
  rw [KBy.special_eq KBy.look_buffer, KBy.own_buffer, KBy.own_release]
  kernel_rfl
theorem take_bytes (c : Array UInt8) (t : Tok) : Bytes.takeBufferQuiet? "bytearray.extend" (.bytes c t) 0 = pure (some (c, none)) := by
  unfold Bytes.takeBufferQuiet? Bytes.takeBuffer?
  rw [KBy.special_eq KBy.look_buffer, KBy.own_buffer]
  show (Sem.attempt (Bytes.buffer? "bytearray.extend" (.bytes c t) (0 == Bytes.fullReadOnly) >>= fun r => pure (r.map (·, none))) >>= _) = _
  rw [buffer_any]
  rfl
theorem look_buffer' : typeLookup (.type "bytes") "__buffer__" = pure (some (.builtin "bytes.__buffer__")) := KBy.look_buffer
section
variable {prog : Program} {w : World} {A : Around} {E : Value → Shared → Prop} {s : Shared} {a : Addr} {b c : Array UInt8} {t : Tok}
theorem ba_extend {Q : Value → Shared → Prop} (hg : A.guards = some []) (hs : s.heap.get? a = some (baOf b)) (hz : b.size + c.size ≤ sizeLine) (h : ∀ h', h'.get? a = some (baOf (b ++ c)) → Heap.SameBut a s.heap h' → Q .none { s with heap := h' }) :
    wpC (model prog w) A (call (.builtin "bytearray.extend") [.ref a, .bytes c t]) Q E s := by
  refine callC_entry ba_slot_extend (ba_typeIs hs) ba_entry_extend (by decide +kernel) (ba_args_extend _ _) ?_
  unfold «bytearray.extend»
  refine wpC_bindA (wpAny_of_eq (a := (Value.ref a, Value.bytes c t)) rfl ?_)
  dsimp only
  refine wpC_bindA (wpAny_specialOf (typeIs_bytes _ _ _) look_buffer' ?_)
  rw [if_pos (by decide)]
  refine wpC_bindA (wpAny_rule (wpC_bindA (ba_payload hs ?_)))
  rw [take_bytes]
  refine wpC_bindA (wpAny_pure ?_)
  dsimp only
  rw [if_pos (by decide)]
  k_delta "addAtEnd"
  have fin : wpC (model prog w) A.in1 (do Bytes.write (.ref a) (· ++ c); ret .none) (fun fin s' => ∃ v, fin = .done (.ret v) ∧ Q v s') E s :=
    wpC_bindA (ba_write hs (by rw [Array.size_append]; exact hz) fun h' h1 sb => wpC_pure ⟨_, rfl, h h' h1 sb⟩)
  refine wpC_ite (fun _ => ?_) (fun _ => fin)
  refine wpC_bind ?_
  unfold Bytes.checkResize
  refine wpC_bind (ba_free hg hs ?_)
  rw [if_neg (by decide)]
  exact wpC_pure fin
theorem len_ba {Q : Value → Shared → Prop} (hs : s.heap.get? a = some (baOf b)) (hz : b.size ≤ 1099511627776) (h : ∀ t k, Q (.int b.size t) { s with toks := k }) : wpAny (model prog w) A (call (.builtin "len") [.ref a]) Q E s := by
  refine Calls.call_function_entry kind_len plain_len entry_len (args_len1 _) ?_
  unfold Builtin.«len»
  refine wpAny_bind (m := oneArg "len" _) (wpAny_pure ?_)
  refine wpAny_bind (m := callSpecial? (.ref a) (Str.ofString "__len__")) (wpAny_callSpecial?_slot (name := Str.ofString "__len__") (ba_typeIs hs) ba_slot_len (wpAny_call_entry ba_slot_len (ba_typeIs hs) ba_entry_len ?_ (ba_args_len _)))
  unfold «bytearray.__len__»
  refine wpAny_bind (wpAny_of_eq (a := (Value.ref a, [])) rfl ?_)
  dsimp only
  refine wpAny_bind (ba_payload hs ?_)
  unfold retInt
  refine wpAny_bind (wpAny_mkInt (wpAny_pure ⟨_, rfl, ?_⟩))
  dsimp only
  refine wpAny_bind (wpAny_holding (wpAny_pure ?_))
  refine wpAny_bind (wpAny_letGo ?_)
  rw [if_neg (by omega), if_neg (by omega)]
  exact wpAny_bind (wpAny_mkInt (wpAny_pure ⟨_, rfl, h _ _⟩))
theorem bytes_ba {Q : Value → Shared → Prop} (hs : s.heap.get? a = some (baOf b)) (hz : b.size ≤ sizeLine) (h : ∀ t k, Q (.bytes b t) { s with toks := k }) : wpAny (model prog w) A (call (.type "bytes") [.ref a]) Q E s := by
  refine callType_codes (Q₁ := fun obj s₁ => s₁.TypeIs obj "bytes" ∧ Q obj s₁) F.bm_called (F.bm_typeCall _) F.entry_object_init ?_ fun obj s₁ h₁ => ?_
  · refine codeAny_of_tree ?_
    show wpAny _ A.in1.in1 (do checkBuiltinCall "bytes.__new__" ⟨[.type "bytes", .ref a], []⟩; again (.builtin "bytes.__new__" ⟨[.type "bytes", .ref a], []⟩)) _ _ s
    refine wpAny_bind (wpAny_of_eq (F.bm_newCall _) (wpAny_pure ⟨plainId_quiet F.bm_plain _, codeAny_builtin F.bm_entry ?_⟩))
    rw [Around.under_plainId F.bm_plain _]
    unfold Builtin.«bytes.__new__»
    refine wpAny_bind (wpAny_of_eq (a := true) rfl ?_)
    refine bm_if_false rfl ?_
    refine wpAny_bind (wpAny_of_eq F.bm_sub ?_)
    refine bm_if_false rfl ?_
    refine wpAny_bind (wpAny_of_eq (F.bm_bind _) ?_)
    refine wpAny_bind (wpAny_of_eq (a := ()) rfl ?_)
    refine wpAny_bind (wpAny_of_eq (a := ()) rfl ?_)
    refine bm_if_false rfl ?_
    refine wpAny_bind (wpAny_specialOf (ba_typeIs hs) ba_no_bytes ?_)
    refine wpAny_bind (wpAny_bind ?_)
    show wpAny _ _ (load a >>= _) _ _ _
    refine wpAny_bind (wpAny_load hs (wpAny_pure (wpAny_pure ?_)))
    refine bm_if_false rfl ?_
    refine wpAny_bind (wpAny_specialOf (ba_typeIs hs) ba_no_index ?_)
    refine bm_if_true rfl ?_
    k_delta "fromObject"
    refine wpAny_bind ?_
    unfold Bytes.buffer?
    refine wpAny_bind (wpAny_specialOf (ba_typeIs hs) ba_look_buffer ?_)
    dsimp only
    refine wpAny_bind (ba_own (ba_typeIs hs) ba_look_buffer (by decide +kernel) (by decide +kernel) ?_)
    rw [if_neg (by decide)]
    refine wpAny_bind (wpAny_specialOf (ba_typeIs hs) ba_look_buffer ?_)
    refine wpAny_bind (ba_release (ba_typeIs hs) ?_)
    rw [if_neg (by decide)]
    refine wpAny_bind (ba_payload hs (wpAny_pure ?_))
    dsimp only
    refine wpAny_bind (wpAny_rule ?_)
    refine wpAny_bind (wpAny_mkBytes ?_ hz)
    show wpAny _ _ (if (Value.type "bytes" == Value.type "bytes") = true then _ else _) _ _ _
    refine bm_if_true (by decide) ?_
    exact wpAny_pure ⟨typeIs_bytes _ _ _, h _ _⟩
  · exact ⟨h₁.1, F.args_object_init_2 obj _, object_init_meets F.bm_called.init.lookup F.bm_called.made (by decide) prog w A.in1 _ s₁ ⟨h₁.1, rfl, h₁.2⟩⟩
end
end Mine
end PartK7
section PartK8
open PySem PySem.W PyProof.Rows PySem.Calls PySem.Builtin
set_option Elab.async false
set_option maxRecDepth 100000
set_option maxHeartbeats 8000000
namespace Mine
section
variable {M : Model} {A : Around} {E : Value → Shared → Prop} {s : Shared} {env : Env}
theorem wpC_execs_nil {Q : Flow → Shared → Prop} (h : Q .next s) : wpC M A (execs [] env) Q E s := wpC_pure h
theorem wpC_execs_cons {st rest} {Q : Flow → Shared → Prop} (h : wpC M A (exec st env) (fun f s' => match f with | .next => wpC M A (execs rest env) Q E s' | f => Q f s') E s) : wpC M A (execs (st :: rest) env) Q E s := by
  rw [arm_execs_cons]
  refine wpC_bind (wpC_mono h (fun f s' h' => ?_) fun _ _ x => x)
  cases f <;> first | exact h' | exact wpC_pure h'
/-- a statement that resizes nothing -/
theorem wpC_execs_consA {st rest} {Q : Flow → Shared → Prop} (h : wpAny M A (exec st env) (fun f s' => match f with | .next => wpC M A (execs rest env) Q E s' | f => Q f s') E s) : wpC M A (execs (st :: rest) env) Q E s := wpC_execs_cons (wpC_of h)
theorem wpC_If {test body orelse pos} {Q : Flow → Shared → Prop} (h : wpC M A (isTrue test env (eval test env)) (fun b s₂ => if b then wpC M A (execs body env) Q E s₂ else wpC M A (execs orelse env) Q E s₂) E s) :
    wpC M A (exec (.If test body orelse pos) env) Q E s := by
  rw [arm_exec_If]
  refine wpC_bindA (wpAny_standAt (wpC_bind (wpC_mono h (fun b s' h' => ?_) fun _ _ x => x)))
  cases b <;> exact h'
theorem wpC_Assign_Name {x pos' value pos} {Q : Flow → Shared → Prop} (h : wpC M A (eval value env) (fun v s₁ => wpAny M A (storeName env x v) (fun _ s₂ => Q .next s₂) E s₁) E s)
    (hs : swapsWith value (some (.Name x pos')) pos.line env = pure false := by rfl) : wpC M A (exec (.Assign [.Name x pos'] value pos) env) Q E s := by
  rw [exec_Assign_Name env x pos' value pos hs]
  refine wpC_bindA (wpAny_standAt (wpC_bind (wpC_mono h (fun v s' h' => ?_) fun _ _ x => x)))
  refine wpC_bindA (wpAny_standAt (wpC_bindA (wpAny_bindName (wpAny_mono h' (fun _ _ z => wpC_pure z) fun _ _ x => x))))
theorem wpC_Expr {e pos} {Q : Flow → Shared → Prop} (h : wpC M A (eval e env) (fun v s' => (∀ a, v ≠ .ref a) ∧ Q .next s') E s)
    (hi : interactive env = false := by rfl) (hs : swapsWith e none pos.line env = pure false := by rfl) :
    wpC M A (exec (.Expr e pos) env) Q E s := by
  rw [exec_Expr env e pos hi hs]
  refine wpC_bindA (wpAny_standAt (wpC_bind (wpC_mono h (fun v s' h' => ?_) fun _ _ x => x)))
  rw [dropValue_plain h'.1]
  exact wpC_pure h'.2
theorem wpC_runOwn {c : Code} {h : Option Value} {Q : Flow → Shared → Prop} (hc : codeC M (A.mark h) c (fun r s' => match r with | .ok f => Q f s' | .error e => cameBackBy M A env E e s') s) (hnb : h ≠ some byPass := by intro x; cases x) :
    wpC M A (runOwn c env h) Q E s := by
  unfold runOwn
  refine wpC_onRaise (wpC_mono (wpC_run hc hnb) (fun _ _ x => x) fun e s' h' => ?_)
  exact wpC_of h'
theorem wpC_While {test body orelse pos} {Q : Flow → Shared → Prop} (h : codeC M A (.whileLoop test body orelse env) (fun r s' => match r with | .ok f => Q f s' | .error e => cameBackBy M A env E e s') s) :
    wpC M A (exec (.While test body orelse pos) env) Q E s := by
  rw [exec_While]; exact wpC_bindA (wpAny_standAt (wpC_runOwn h))
theorem wpC_Try {body handlers orelse final pos} {Q : Flow → Shared → Prop} (h : wpC M A (tryStmt false (execs body env) handlers (execs orelse env) final env) Q E s) : wpC M A (exec (.Try body handlers orelse final pos) env) Q E s := by
  rw [arm_exec_Try]; exact wpC_bindA (wpAny_standAt h)
/-- a try without finally -/
theorem wpC_try {body : Sem Flow} {h hs} {orelse : Sem Flow} {Q : Flow → Shared → Prop}
    (b : wpC M A body (fun f s' => match f with | .next => wpC M A orelse Q E s' | f => Q f s') (fun e s' => wpAny M A (noteFrame e env) (fun _ s₁ => wpAny M A (setFlight e none) (fun _ s₂ => wpC M A (handleBy e env (h :: hs)) Q E s₂) E s₁) E s') s) :
    wpC M A (tryStmt false body (h :: hs) orelse [] env) Q E s := by
  unfold tryStmt
  show wpC M A (body.attempt >>= _) Q E s
  refine wpC_bind (wpC_attempt (wpC_mono b (fun f s' h' => ?_) fun e s' h' => ?_))
  · cases f <;> first | exact h' | exact wpC_pure h'
  · show wpC M A (noteFrame e env >>= _) Q E s'
    refine wpC_bindA (wpAny_mono h' (fun _ s₁ h₁ => ?_) fun _ _ x => x)
    show wpC M A (setFlight e none >>= _) Q E s₁
    exact wpC_bindA (wpAny_mono h₁ (fun _ s₂ h₂ => h₂) fun _ _ x => x)
/-- calls -/
theorem wpC_callWith {pos : Pos} {f : Value} {first : List Value} {args : List (Bool × Sem Value)} {Q : Value → Shared → Prop} (hplain : (args.any (·.1) || false) = false)
    (h : wpAny M A (evalArgs f true args []) (fun a s₁ => (∃ k, (k = Keeper.frame ∨ k = Keeper.machine ∨ k = Keeper.boundFrame) ∧ Looks M s₁.heap (keeperOf f) k) ∧ wpC M A (call f (first ++ a.pos) a.kw) Q E s₁) E s) :
    wpC M A (callWith pos f first args []) Q E s := by
  unfold callWith
  refine wpC_bindA (wpAny_holding (wpAny_mono h (fun a s₁ h₁ => wpC_bindA (wpAny_standAt ?_)) fun _ _ x => x))
  obtain ⟨⟨k, hk', L⟩, h₁⟩ := h₁
  have hplain' : (args.any (·.1) || ([] : List (Option Str × Sem Value)).any (·.1.isNone)) = false := hplain
  simp only [hplain']
  refine wpC_bindA (L.here ?_)
  have tail : ∀ {t : Sem Value}, wpC M A t Q E s₁ → wpC M A (t >>= fun r => holding [r] point >>= fun _ => pure r) Q E s₁ :=
    fun ht => wpC_bind (wpC_mono ht (fun r s₂ hr => wpC_bindA (wpAny_holding (wpAny_point (wpC_pure hr)))) fun _ _ x => x)
  have marked (mk : Value) : wpC M A (callMarked mk f (first ++ a.pos) a.kw) Q E s₁ := by unfold callMarked; exact wpC_keep h₁
  rcases hk' with rfl | rfl | rfl <;> dsimp only <;> first | exact tail h₁ | (split <;> first | exact tail h₁ | exact tail (marked _))
theorem wpC_callWith_K {K : Frag} {pos : Pos} {f : Value} {first : List Value} {Q : Value → Shared → Prop} {e : Expr} {rest : List Expr} (hk : keepIn K f = true)
    (h : wpAny M A (spliced (backTo pos (starEach (e :: rest) env))) (fun vs s₁ => K.In s₁.heap ∧ wpC M A (call f (first ++ vs)) Q E s₁) E s)
    (he : starEach (e :: rest) env = (false, eval e env) :: starEach rest env := by rfl) (hplain : (backTo pos (starEach rest env)).any (·.1) = false := by rfl) :
    wpC M A (callWith pos f first (backTo pos (starEach (e :: rest) env)) []) Q E s := by
  rw [he] at h ⊢
  exact wpC_callWith (by show ((false || (backTo pos (starEach rest env)).any (·.1)) || false) = false; rw [hplain]; rfl) (evalArgs_plain (wpAny_mono h (fun vs s' h' => ⟨keeps_K hk _ h'.1, h'.2⟩) fun _ _ x => x))
theorem wpC_callWith_T {T : String} {pos : Pos} {first : List Value} {Q : Value → Shared → Prop} {e : Expr} {rest : List Expr}
    (h : wpAny M A (spliced (backTo pos (starEach (e :: rest) env))) (fun vs s₁ => wpC M A (call (.type T) (first ++ vs)) Q E s₁) E s)
    (he : starEach (e :: rest) env = (false, eval e env) :: starEach rest env := by rfl) (hplain : (backTo pos (starEach rest env)).any (·.1) = false := by rfl) :
    wpC M A (callWith pos (.type T) first (backTo pos (starEach (e :: rest) env)) []) Q E s := by
  rw [he] at h ⊢
  exact wpC_callWith (by show ((false || (backTo pos (starEach rest env)).any (·.1)) || false) = false; rw [hplain]; rfl) (evalArgs_plain (wpAny_mono h (fun vs s' h' => ⟨⟨.machine, .inr (.inl rfl), Looks.of_pure rfl⟩, h'⟩) fun _ _ x => x))
theorem wpC_callWith_B {id : String} {pos : Pos} {first : List Value} {Q : Value → Shared → Prop} {e : Expr} {rest : List Expr}
    (h : wpAny M A (spliced (backTo pos (starEach (e :: rest) env))) (fun vs s₁ => wpC M A (call (.builtin id) (first ++ vs)) Q E s₁) E s)
    (he : starEach (e :: rest) env = (false, eval e env) :: starEach rest env := by rfl) (hplain : (backTo pos (starEach rest env)).any (·.1) = false := by rfl) :
    wpC M A (callWith pos (.builtin id) first (backTo pos (starEach (e :: rest) env)) []) Q E s := by
  rw [he] at h ⊢
  exact wpC_callWith (by show ((false || (backTo pos (starEach rest env)).any (·.1)) || false) = false; rw [hplain]; rfl) (evalArgs_plain (wpAny_mono h (fun vs s' h' => ⟨⟨.machine, .inr (.inl rfl), Looks.of_pure rfl⟩, h'⟩) fun _ _ x => x))
theorem wpC_callWith_T0 {T : String} {pos : Pos} {first : List Value} {Q : Value → Shared → Prop} (h : wpC M A (call (.type T) (first ++ [])) Q E s) : wpC M A (callWith pos (.type T) first (backTo pos (starEach [] env)) []) Q E s :=
  wpC_callWith rfl (evalArgs_nil3 ⟨⟨.machine, .inr (.inl rfl), Looks.of_pure rfl⟩, h⟩)
theorem wpC_Call {id p0 args pos} {Q : Value → Shared → Prop} (h : wpAny M A (eval (.Name id p0) env) (fun f s' => wpC M A (callWith pos f [] (backTo pos (starEach args env)) []) Q E s') E s) :
    wpC M A (eval (.Call (.Name id p0) args [] pos) env) Q E s := by
  show wpC M A (eval (.Name id p0) env >>= fun f => callWith pos f [] (backTo pos (starEach args env)) []) Q E s
  exact wpC_bindA h
/-- the method forms -/
theorem wpC_CallAttr {o name apos args pos} {Q : Value → Shared → Prop} (h : wpAny M A (attributeBase o name env (eval o env)) (fun ov s' => wpC M A (methodCall o name apos pos env ov (args.length + 0) (backTo pos (starEach args env)) []) Q E s') E s) :
    wpC M A (eval (.Call (.Attribute o name apos) args [] pos) env) Q E s := by
  rw [arm_eval_Call]
  exact wpC_bindA (wpAny_mono h (fun ov s' h' => wpC_bindA (wpAny_standAt h')) fun _ _ x => x)
/-- conditions -/
theorem wpC_isTrue_Or_nil {pos whole} {Q : Bool → Shared → Prop} (h : Q false s) : wpC M A (isTrue (.BoolOp .Or [] pos) env whole) Q E s := wpC_pure h
theorem wpC_isTrue_Or_cons {e rest pos whole} {Q : Bool → Shared → Prop} (h : wpC M A (isTrue e env (eval e env)) (fun b s' => if b then Q true s' else wpC M A (isTrue (.BoolOp .Or rest pos) env whole) Q E s') E s) : wpC M A (isTrue (.BoolOp .Or (e :: rest) pos) env whole) Q E s := by
  rw [arm_isTrue_BoolOp, arm_allTrue_cons]
  refine wpC_bind (wpC_mono h (fun b s' h' => ?_) fun _ _ x => x)
  cases b
  · exact h'
  · exact wpC_pure h'
theorem wpC_isTrue_Not {e pos whole} {Q : Bool → Shared → Prop} (h : wpC M A (isTrue e env (eval e env)) (fun b s' => Q (!b) s') E s) : wpC M A (isTrue (.UnaryOp .Not e pos) env whole) Q E s := by
  rw [arm_isTrue_UnaryOp]
  exact wpC_bind (wpC_mono h (fun b s' h' => wpC_pure h') fun _ _ x => x)
theorem wpC_isTrue_plain {e : Expr} {whole : Sem Value} {Q : Bool → Shared → Prop} (h : wpC M A whole (fun v s' => wpAny M A (truthy v) Q E s') E s)
    (he : isTrue e env whole = (do let v ← whole; standAt e.pos; holding [v] (truthy v)) := by rfl) : wpC M A (isTrue e env whole) Q E s := by
  rw [he]
  exact wpC_bind (wpC_mono h (fun v s' h' => wpC_of (wpAny_bind (wpAny_standAt (wpAny_holding h')))) fun _ _ x => x)
theorem wpC_isTrue_Compare1 {l op r pos whole} {Q : Bool → Shared → Prop}
    (h : wpC M A (eval l env) (fun a s₁ => wpAny M A (eval r env) (fun b s₂ => wpAny M A (compareOp op a b) (fun c s₃ => wpAny M A (truthy c) Q E s₃) E s₂) E s₁) E s)
    (hm : behindInMarks op r = false := by with_unfolding_all rfl) : wpC M A (isTrue (.Compare l [op] [r] pos) env whole) Q E s := by
  rw [isTrue_Compare1, markedBehindIn_of_false hm]
  refine wpC_bind (wpC_mono h (fun a s₁ h₁ => wpC_of ?_) fun _ _ x => x)
  refine wpAny_bind (wpAny_holding (wpAny_mono h₁ (fun b s₂ h₂ => ?_) fun _ _ x => x))
  refine wpAny_bind (wpAny_standAt ?_)
  refine wpAny_bind (wpAny_operate' (wpAny_mono h₂ (fun c s₃ h₃ => wpAny_holding h₃) fun _ _ x => x))
end
end Mine
end PartK8
section PartK9
open PySem PySem.W PyProof.Rows PySem.Calls
set_option Elab.async false
set_option maxRecDepth 100000
set_option maxHeartbeats 8000000
namespace Mine
section
variable {prog : Program} {w : World} {A : Around} {E : Value → Shared → Prop} {R : Result → Shared → Prop} {s : Shared}
theorem codeC_func {body env}
    (h : wpC (model prog w) (A.deeper env) (execs body env) (fun f s' => R (.ok (.ret (match f with | .ret v => v | _ => .none))) s')
      (fun e s' => wpAny (model prog w) (A.deeper env) (leaving env e) (fun _ s'' => R (.error e) s'') (fun e' s'' => R (.error e') s'') s') s) :
    codeC (model prog w) A (.func body env) R s := by
  refine codeC_of_tree rfl ?_
  show wpC _ (A.deeper env) (do point; match ← (execs body env).onRaise (leaving env) with | .ret v => ret v | _ => ret .none) _ _ s
  refine wpC_bindA (wpAny_point (wpC_bind (wpC_onRaise (wpC_mono h (fun f s' h' => ?_) fun _ _ h' => wpC_of h'))))
  cases f <;> exact wpC_pure h'
theorem codeC_call_function {a : Addr} {args : Args} {o : Obj} {fd : FuncData} {body : List Stmt} (hroom : A.depth < recursionLimit)
    (ho : s.heap.get? a = some o)
    (hd' : o.data = .func fd) (hco : fd.scope.isCoroutine = false) (hgen : fd.scope.isGenerator = false) (hbody : fd.body = .stmts body) (hcd : s.heap.CodeRec fd.code fd.qualname)
    (h : wpAny (model prog w) A.in1 (bindArgs fd args) (fun binds s₁ =>
      wpAny (model prog w) A.in1 (newFunctionEnv fd.scope fd.globals fd.closure binds (fd.qualname ++ ".<locals>.") (some a) fd.code none fd.builtins)
        (fun env s₂ => s₂.heap.NoLimit ∧ codeC (model prog w) A (.func body env) R s₂) (fun e s' => R (.error e) s') s₁) (fun e s' => R (.error e) s') s) :
    codeC (model prog w) A (.call (.ref a) args) R s := by
  refine codeC_of_tree rfl ?_
  show wpC _ A.in1 (callAny (.ref a) args) _ _ s
  refine wpC_of ?_
  simp only [callAny]
  refine wpAny_bind (wpAny_load ho ?_)
  obtain ⟨c, oc, vs, tq, hc, hoc, hdc, hq⟩ := hcd
  simp only [hd', callFunction, hco, hgen, hbody, hc]
  rw [hc] at h
  refine wpAny_bind (m := field (.ref c) 1) (wpAny_field hoc hdc hq (wpAny_bind (wpAny_pure ?_)))
  exact wpAny_bind (wpAny_mono h (fun binds s₁ h₁ => wpAny_bind (wpAny_mono h₁ (fun env s₂ h₂ => wpAny_bind (wpAny_enterFrame h₂.1 hroom
    (wpAny_pure (And.intro rfl h₂.2)))) fun _ _ h' => h')) fun _ _ h' => h')
end
section
variable {w : World} {dp un : Nat} {outer : List Env} {s : Shared} {h₀ : Heap} {K : Frag} {news : List (Addr × Obj)} {p : Program} {loose : List Str} {mean : ExcName → Option Value} {mg mb : Str → Option Value}
  {name qual : Str} {params : Arguments} {body : List Stmt} {scope : Scope} {dV kV doc pm cdv ct oc : Value} {an od : Option Addr} {osl : Array (Option Value)} {f : Addr} {args : Args} {binds : List (Str × Value)}
  {P : Value → Heap → Prop} {R : Result → Shared → Prop}

/-- the entry of a def, for clean contexts, any answer -/
theorem enterR (X : K.In h₀) (T : Top p loose mean mg mb h₀) (G : Grd h₀ outer (news.map (·.1)) s.heap) (N : ∀ q ∈ news, s.heap.get? q.1 = some q.2)
    (ho : K.lookup f = some ⟨oc, od, .func (fnOf name qual params body scope dV kV doc pm an cdv ct), osl⟩) (hcd : codeIn K cdv qual = true) (hroom : dp < recursionLimit)
    (hbind : BindsTo s (fnOf name qual params body scope dV kV doc pm an cdv ct) args binds) (hloc : ∀ y ∈ binds, scope.names.lookup y.1 = some .local)
    (h : ∀ g L' h₁, g = hideAll s.heap (news.map (·.1)) → Below (amb dp un outer) h₀ outer g → K.In g → Top p loose mean mg mb g → Kept (news.map (·.1)) s.heap g → (∀ b o, g.get? b = some o → s.heap.get? b = some o) →
      Fr g L' h₁ (fun y => binds.reverse.lookup y) → News g L' h₁ news → (∀ q ∈ news, q.1 < L') →
      wpC (model PySem.Challenge.rw_ej5024_01.row.prog w) ((amb dp un outer).deeper (envOf qual scope L' f cdv)) (execs body (envOf qual scope L' f cdv))
        (fun fl s' => R (.ok (.ret (match fl with | .ret v => v | _ => .none))) s')
        (fun e s' => wpAny (model PySem.Challenge.rw_ej5024_01.row.prog w) ((amb dp un outer).deeper (envOf qual scope L' f cdv)) (leaving (envOf qual scope L' f cdv) e) (fun _ s'' => R (.error e) s'') (fun e' s'' => R (.error e') s'') s')
        { s with heap := h₁, toks := s.toks + binds.length })
    (hcell : ∀ x ∈ scope.names, x.2 ≠ .cell) (hco : scope.isCoroutine = false := by rfl) (hgen : scope.isGenerator = false := by rfl) (hk : scope.kind = .function := by rfl) :
    codeC (model PySem.Challenge.rw_ej5024_01.row.prog w) (amb dp un outer) (.call (.ref f) args) R s := by
  have nm : ∀ b o, h₀.get? b = some o → b ∉ news.map (·.1) := fun b o e q => by
    obtain ⟨x, hx, rfl⟩ := List.mem_map.mp q
    rw [G.new _ (List.mem_map_of_mem hx)] at e; cases e
  have st : h₀.StaysIn (hideAll s.heap (news.map (·.1))) := fun b o e => hideAll_get _ (G.stays b o e) (nm b o e)
  have kp : Kept (news.map (·.1)) s.heap (hideAll s.heap (news.map (·.1))) := fun b o e q => hideAll_get _ e q
  refine codeC_call_function hroom (G.stays _ _ (X _ _ ho)) rfl hco hgen rfl (codeRec_of (X.keeps G.stays) hcd) (hbind _ _ _ _ ?_)
  refine wpAny_newFunctionEnv hcell hloc (fun h₁ hns hsb => ?_) hk
  have hk₁ : ∀ b o, s.heap.get? b = some o → h₁.get? b = some o := fun b o e => hsb.extBut b o (Nat.ne_of_lt (Heap.lt_size e)) (Heap.get?_push_of_some _ e)
  refine ⟨(T.nolimit.keeps G.stays).keeps hk₁, codeC_func ?_⟩
  exact h (hideAll s.heap (news.map (·.1))) s.heap.objs.size h₁ rfl ⟨rfl, st, funFrames_hideAll G.frames G.off⟩ (X.keeps fun b o e => st b o e) (T.keeps fun b o e => st b o e) kp (fun b o e => of_hideAll _ e)
    ⟨hns, fun b o e => hk₁ b o (of_hideAll _ e), Nat.le_of_eq (hideAll_size _ _)⟩
    (fun q hq => ⟨hk₁ _ _ (N q hq), Nat.ne_of_lt (Heap.lt_size (N q hq)), hideAll_none _ (List.mem_map_of_mem hq)⟩) (fun q hq => Heap.lt_size (N q hq))

/-- a plain answer, for clean contexts -/
theorem enterW (X : K.In h₀) (T : Top p loose mean mg mb h₀) (G : Grd h₀ outer (news.map (·.1)) s.heap) (N : ∀ q ∈ news, s.heap.get? q.1 = some q.2)
    (ho : K.lookup f = some ⟨oc, od, .func (fnOf name qual params body scope dV kV doc pm an cdv ct), osl⟩) (hcd : codeIn K cdv qual = true) (hroom : dp < recursionLimit)
    (hbind : BindsTo s (fnOf name qual params body scope dV kV doc pm an cdv ct) args binds) (hloc : ∀ y ∈ binds, scope.names.lookup y.1 = some .local)
    (h : ∀ g L' h₁, Below (amb dp un outer) h₀ outer g → K.In g → Top p loose mean mg mb g → Kept (news.map (·.1)) s.heap g → (∀ b o, g.get? b = some o → s.heap.get? b = some o) →
      Fr g L' h₁ (fun y => binds.reverse.lookup y) → News g L' h₁ news → (∀ q ∈ news, q.1 < L') →
      wpC (model PySem.Challenge.rw_ej5024_01.row.prog w) ((amb dp un outer).deeper (envOf qual scope L' f cdv)) (execs body (envOf qual scope L' f cdv))
        (fun fl s' => LeaveC g L' s (news.map (·.1)) P (match fl with | .ret v => v | _ => .none) s') (fun _ _ => False)
        { s with heap := h₁, toks := s.toks + binds.length })
    (hcell : ∀ x ∈ scope.names, x.2 ≠ .cell) (hco : scope.isCoroutine = false := by rfl) (hgen : scope.isGenerator = false := by rfl) (hk : scope.kind = .function := by rfl) :
    codeC (model PySem.Challenge.rw_ej5024_01.row.prog w) (amb dp un outer) (.call (.ref f) args) (RetP s (news.map (·.1)) P) s := by
  refine enterR X T G N ho hcd hroom hbind hloc (fun g L' h₁ _ B Xg Tg kp sub F N' l => ?_) hcell hco hgen hk
  refine wpC_mono (h g L' h₁ B Xg Tg kp sub F N' l) (fun fl s' hl => ?_) fun _ _ y => y.elim
  obtain ⟨m', news', h', tk, rfl, F', N', hP⟩ := hl
  exact ⟨_, h', tk, rfl, rfl, fun b o e q => F'.keep b o (kp b o e q), hP⟩
end
end Mine
end PartK9
section PartS5
open PySem PySem.W PyProof.Rows PySem.Calls PySem.Builtin
set_option Elab.async false
set_option maxRecDepth 100000
set_option maxHeartbeats 8000000
namespace Mine
theorem join_kind : builtinKind "bytes.join" = some .method := by decide +kernel
theorem bytes_slot_join : Slot "bytes" "join" "bytes.join" :=
  .of (owner := "bytes") (n := "join") (by rw [typeLookup_type, builtinLookup_eq_fast]; kernel_rfl) (by decide +kernel) (by decide +kernel) (by decide +kernel)
    (by first | exact .inl (by decide +kernel) | exact .inr (by decide +kernel)) (by rw [isSubtype_type]; kernel_rfl)
theorem bytes_entry_join : entryFor table "bytes.join" = some Builtin.«bytes.join» := entryFor_of_tree (by kernel_rfl)
theorem bytes_args_join (a b : Value) : argsOk "bytes.join" ⟨[a, b], []⟩ := by unfold argsOk; kernel_rfl
theorem bytes_type_join : typeOf (.builtin "bytes.join") = pure (.type "method_descriptor") := by show builtinType _ = _; rw [builtinType_eq_fast]; kernel_rfl
theorem bytes_plainAttrs : PlainAttrs "bytes" :=
  ⟨⟨"bytes.__getattribute__", by rw [typeLookup_type, builtinLookup_eq_fast]; kernel_rfl, by decide +kernel⟩, by rw [typeLookup_type, builtinLookup_eq_fast]; kernel_rfl⟩
section
variable {prog : Program} {w : World} {A : Around} {E : Value → Shared → Prop} {s : Shared}
theorem method_join {M : Model} {b : Array UInt8} {t : Tok} {pl : Sem Bool} {Q : Value × List Value → Shared → Prop} (h : Q (.builtin "bytes.join", [.bytes b t]) s) : wpAny M A (getMethod (.bytes b t) "join" pl) Q E s :=
  getMethod_builtin (typeIs_bytes _ _ _) bytes_plainAttrs bytes_slot_join bytes_type_join (fun x e => by cases e) h
theorem take_any {id : String} (c : Array UInt8) (t : Tok) : Bytes.takeBufferQuiet? id (.bytes c t) 0 = pure (some (c, none)) := by
  unfold Bytes.takeBufferQuiet? Bytes.takeBuffer?
  rw [KBy.special_eq KBy.look_buffer, KBy.own_buffer]
  show (Sem.attempt (Bytes.buffer? id (.bytes c t) (0 == Bytes.fullReadOnly) >>= fun r => pure (r.map (·, none))) >>= _) = _
  rw [buffer_any]
  rfl
theorem letGo_join {keep : List Value} {Q : Unit → Shared → Prop} (h : Q () s) : ∀ (l : List Value), wpAny (model prog w) A (Bytes.joinLetGo (l.map fun v => (v, none)) keep) Q E s
  | [] => wpAny_pure h
  | x :: l => by
    show wpAny _ _ (letGo [x] _ >>= fun _ => Bytes.joinLetGo (l.map fun v => (v, none)) keep) _ _ _
    exact wpAny_bind (wpAny_letGo (letGo_join h l))
theorem joined_go : ∀ (l : List (List UInt8)) (i : Nat) (out : Array UInt8), ((l.map List.toArray).zipIdx i).foldl (fun out (p, i) => (if i > 0 then out ++ #[] else out) ++ p) out = out ++ l.flatten.toArray
  | [], _, out => by simp
  | b :: l, i, out => by
    rw [List.map_cons, List.zipIdx_cons, List.foldl_cons, joined_go l (i + 1)]
    have e : (if i > 0 then out ++ (#[] : Array UInt8) else out) = out := by split <;> simp
    show ((if i > 0 then out ++ (#[] : Array UInt8) else out) ++ b.toArray) ++ l.flatten.toArray = _
    rw [e, List.flatten_cons]
    apply Array.ext'
    simp
theorem joined_nil (l : List (List UInt8)) : Bytes.joined #[] (l.map List.toArray) = l.flatten.toArray := by
  unfold Bytes.joined
  rw [joined_go]; simp
theorem size_go : ∀ (l : List (List UInt8)) (n : Nat), (l.map List.toArray).foldl (fun a b => a + b.size) n = n + l.flatten.length
  | [], n => rfl
  | b :: l, n => by rw [List.map_cons, List.foldl_cons, size_go l]; simp [Nat.add_assoc]
theorem join_list {l : Addr} {vs : List Value} {o : Obj} {n : Nat} {t : Tok} {Q : Value → Shared → Prop} (bs : List (List UInt8)) (hl : s.heap.get? l = some o) (hc : o.cls = .type "list") (hd : o.data = .seq vs.toArray n)
    (hv : vs.length = bs.length) (hi : ∀ (i : Nat) (b : List UInt8), bs[i]? = some b → ∃ tb, vs[i]? = some (Value.bytes b.toArray tb)) (hz : bs.flatten.length ≤ sizeLine)
    (h : ∀ t k, Q (.bytes bs.flatten.toArray t) { s with toks := k }) :
    wpAny (model prog w) A (call (.builtin "bytes.join") [.bytes #[] t, .ref l]) Q E s := by
  refine wpAny_call_entry bytes_slot_join (typeIs_bytes _ _ _) bytes_entry_join ?_ (bytes_args_join _ _)
  unfold «bytes.join» Bytes.joinM
  have hT : s.TypeIs (.ref l) "list" := ⟨_, hl, hc⟩
  refine wpAny_bind (wpAny_of_eq (a := (Value.bytes #[] t, Value.ref l)) rfl ?_)
  dsimp only
  rw [if_pos (by decide)]
  refine wpAny_bind ?_
  unfold Bytes.joinItems
  refine wpAny_bind (wpAny_typeOf hT ?_)
  rw [if_pos (by decide)]
  refine wpAny_pure ?_
  refine wpAny_bind (wpAny_seqItems hl hd ?_)
  dsimp only
  rw [if_pos (by decide)]
  have tail : ∀ (t0 : Sem PySem.Fin), (vs.length ≠ 1 → wpAny (model prog w) A.in1 t0 (fun fin s' => ∃ v, fin = .done (.ret v) ∧ Q v s') E s) → True := fun _ _ => trivial
  clear tail
  have loop : ∀ (N : Nat), N = vs.length → ∀ (f : Nat → Array (Array UInt8) × List (Value × Option Value) → Sem (ForInStep (Array (Array UInt8) × List (Value × Option Value)))) (Q2 : Array (Array UInt8) × List (Value × Option Value) → Shared → Prop),
      (∀ i b, bs[i]? = some b → ∀ ps tk, tk = (vs.take i).map (fun v => (v, (none : Option Value))) → ∀ Q3 : ForInStep (Array (Array UInt8) × List (Value × Option Value)) → Shared → Prop,
        Q3 (.yield (ps.push b.toArray, tk ++ [(vs.getD i .none, none)])) s → wpAny (model prog w) A.in1 (f i (ps, tk)) Q3 E s) →
      Q2 ((bs.map List.toArray).toArray, vs.map fun v => (v, none)) s → wpAny (model prog w) A.in1 (forIn [:N] ((#[] : Array (Array UInt8)), ([] : List (Value × Option Value))) f) Q2 E s := by
    intro N hN f Q2 turn fin
    subst hN
    rw [Std.Legacy.Range.forIn_eq_forIn_range']
    refine wpAny_forIn_list f (fun rest b s' => ∃ i, s' = s ∧ rest = List.range' i (vs.length - i) ∧ i ≤ vs.length ∧ b = (((bs.take i).map List.toArray).toArray, (vs.take i).map fun v => (v, none))) Q2 ?_ ?_ _ _ ⟨0, rfl, by simp [Std.Legacy.Range.size], Nat.zero_le _, by simp⟩
    · rintro x rest b s' ⟨i, rfl, hr, hi', rfl⟩
      have hlt : i < vs.length := by
        rcases Nat.lt_or_ge i vs.length with h | h
        · exact h
        · rw [Nat.sub_eq_zero_of_le h] at hr; cases hr
      obtain ⟨j, hj⟩ : ∃ j, vs.length - i = j + 1 := ⟨vs.length - i - 1, by omega⟩
      rw [hj, List.range'_succ] at hr
      obtain ⟨rfl, hrest⟩ := List.cons.inj hr
      have hb : x < bs.length := by omega
      refine turn x (bs[x]) (List.getElem?_eq_getElem hb) _ _ rfl _ ⟨x + 1, rfl, ?_, hlt, ?_⟩
      · rw [hrest, show vs.length - (x + 1) = j by omega]
      · rw [List.take_succ_eq_append_getElem hb, List.take_succ_eq_append_getElem hlt, List.map_append, List.map_append, show vs.getD x .none = vs[x] by simp [List.getD, List.getElem?_eq_getElem hlt]]
        simp
    · rintro b s' ⟨i, rfl, hr, hi', rfl⟩
      have : i = vs.length := by
        rcases Nat.lt_or_ge i vs.length with h | h
        · obtain ⟨j, hj⟩ : ∃ j, vs.length - i = j + 1 := ⟨vs.length - i - 1, by omega⟩
          rw [hj, List.range'_succ] at hr; cases hr
        · omega
      subst this
      rw [List.take_length, hv, List.take_length] at *
      exact fin
  have heap_free : ∀ i, ((vs.take i).map fun v => (v, (none : Option Value))).any (fun x => x.1.onHeap) = false := fun i => by
    rw [List.any_eq_false]
    intro x hx
    obtain ⟨v, hv', rfl⟩ := List.mem_map.mp hx
    obtain ⟨j, hj, rfl⟩ := List.getElem_of_mem (List.mem_of_mem_take hv')
    obtain ⟨tb, htb⟩ := hi j bs[j] (List.getElem?_eq_getElem (by omega))
    rw [List.getElem?_eq_getElem hj] at htb
    rw [Option.some.inj htb]
    exact Bool.false_ne_true
  rcases vs with _ | ⟨x, _ | ⟨y, r⟩⟩
  case cons.nil =>
    obtain ⟨b, rfl⟩ : ∃ b, bs = [b] := by
      match bs, hv with
      | [b], _ => exact ⟨b, rfl⟩
    obtain ⟨tb, htb⟩ := hi 0 b rfl
    cases Option.some.inj htb
    refine wpAny_bind (wpAny_typeOf (typeIs_bytes _ _ _) ?_)
    rw [if_pos (by decide)]
    refine wpAny_bind (wpAny_rule (wpAny_pure ⟨_, rfl, ?_⟩))
    have := h tb s.toks
    rwa [List.flatten_cons, List.flatten_nil, List.append_nil] at this
  case nil =>
    refine wpAny_bind (loop _ rfl _ _ (fun i b hb ps tk htk Q3 hQ3 => ?turn) ?fin)
    case turn =>
      obtain ⟨tb, htb⟩ := hi i b hb
      simp at htb
    case fin =>
      refine wpAny_bind (wpAny_of_eq (a := #[]) rfl ?_)
      have hsz : Array.foldl (fun x1 (x2 : Array UInt8) => x1 + x2.size) ((#[] : Array UInt8).size * ((List.map List.toArray bs).toArray.size - 1)) (List.map List.toArray bs).toArray = bs.flatten.length := by
        rw [List.foldl_toArray, size_go]; simp
      rw [if_neg (by unfold Bytes.tooLong; rw [hsz]; simpa using hz)]
      refine wpAny_bind (wpAny_mkBytes ?_ (by rw [joined_nil, List.size_toArray]; exact hz))
      rw [joined_nil]
      refine wpAny_bind (wpAny_holding (wpAny_point ?_))
      refine wpAny_bind (letGo_join ?_ _)
      exact wpAny_pure ⟨_, rfl, h _ _⟩
  case cons.cons =>
    refine wpAny_bind (loop _ rfl _ _ (fun i b hb ps tk htk Q3 hQ3 => ?turn) ?fin)
    case turn =>
      obtain ⟨tb, htb⟩ := hi i b hb
      refine wpAny_bind (wpAny_seqItems hl hd ?_)
      dsimp only
      have hc0 : (Bytes.Kind.bytes == Bytes.Kind.bytearray || tk.any fun x => x.1.onHeap) = false := by rw [htk, heap_free]; decide
      rw [if_neg (by rw [hc0]; exact Bool.false_ne_true)]
      have hx : Array.getD (x :: y :: r).toArray i Value.none = Value.bytes b.toArray tb := by rw [Array.getD_eq_getD_getElem?, List.getElem?_toArray, htb]; rfl
      have hx' : List.getD (x :: y :: r) i Value.none = Value.bytes b.toArray tb := by rw [List.getD, htb]; rfl
      rw [hx'] at hQ3
      rw [hx, take_any]
      refine wpAny_bind (wpAny_holding (wpAny_pure ?_))
      dsimp only
      refine wpAny_bind (wpAny_seqItems hl hd ?_)
      dsimp only
      rw [if_neg (by simp)]
      exact wpAny_pure hQ3
    case fin =>
      refine wpAny_bind (wpAny_of_eq (a := #[]) rfl ?_)
      have hsz : Array.foldl (fun x1 (x2 : Array UInt8) => x1 + x2.size) ((#[] : Array UInt8).size * ((List.map List.toArray bs).toArray.size - 1)) (List.map List.toArray bs).toArray = bs.flatten.length := by
        rw [List.foldl_toArray, size_go]; simp
      rw [if_neg (by unfold Bytes.tooLong; rw [hsz]; simpa using hz)]
      refine wpAny_bind (wpAny_mkBytes ?_ (by rw [joined_nil, List.size_toArray]; exact hz))
      rw [joined_nil]
      refine wpAny_bind (wpAny_holding (wpAny_point ?_))
      refine wpAny_bind (letGo_join ?_ _)
      exact wpAny_pure ⟨_, rfl, h _ _⟩
end
end Mine
end PartS5
section PartL1
open PySem PySem.W PyProof.Rows PySem.Calls PySem.Builtin
set_option Elab.async false
set_option maxRecDepth 100000
set_option maxHeartbeats 8000000
namespace Mine
local macro_rules | `(tactic| k_room) => `(tactic| ktr_room)
local macro_rules | `(tactic| k_units) => `(tactic| ktr_units)
theorem ba_plainAttrs : PlainAttrs "bytearray" :=
  ⟨⟨"bytearray.__getattribute__", by rw [typeLookup_type, builtinLookup_eq_fast]; kernel_rfl, by decide +kernel⟩, by rw [typeLookup_type, builtinLookup_eq_fast]; kernel_rfl⟩
theorem ba_type_extend : typeOf (.builtin "bytearray.extend") = pure (.type "method_descriptor") := by show builtinType _ = _; rw [builtinType_eq_fast]; kernel_rfl
section
variable {M : Model} {A : Around} {E : Value → Shared → Prop} {s : Shared} {env : Env}
theorem wpC_MethodCall {o : Expr} {name : Str} {apos pos : Pos} {args : List Expr} {pl : Sem Bool} {Q : Value → Shared → Prop}
    (h : wpAny M A (eval o env) (fun ov s₁ => wpAny M A (getMethod ov name pl) (fun fx s₂ => wpC M A (callWith pos fx.1 fx.2 (backTo pos (starEach args env)) []) Q E s₂) E s₁) E s)
    (he : eval (.Call (.Attribute o name apos) args [] pos) env = (do
      let ov ← eval o env
      standAt apos.atName
      let (f, first) ← holding [ov] (getMethod ov name pl)
      callWith pos f first (backTo pos (starEach args env)) []) := by rfl) :
    wpC M A (eval (.Call (.Attribute o name apos) args [] pos) env) Q E s := by
  rw [he]
  refine wpC_bindA (wpAny_mono h (fun ov s₁ h₁ => wpC_bindA (wpAny_standAt (wpC_bindA (wpAny_holding (wpAny_mono h₁ (fun fx s₂ h₂ => ?_) fun _ _ x => x))))) fun _ _ x => x)
  exact h₂
theorem method_ba {a : Addr} {b : Array UInt8} {pl : Sem Bool} {Q : Value × List Value → Shared → Prop} {g : Heap} {L : Addr} {news : List (Addr × Obj)} (N : News g L s.heap news) (hm : (a, baOf b) ∈ news) (h : Q (.builtin "bytearray.extend", [.ref a]) s) :
    wpAny M A (getMethod (.ref a) "extend" pl) Q E s :=
  getMethod_builtin (ba_typeIs (N _ hm).1) ba_plainAttrs ba_slot_extend ba_type_extend (fun x e => by cases e; exact ⟨_, (N _ hm).1, rfl⟩) h
end
local macro_rules | `(tactic| walk_at "getMethod ref") => `(tactic| (k_here; (with_reducible show wpAny _ _ (getMethod (Value.ref _) (PySem.Str.ofString "extend") _) _ _ _); k_dflt (refine' method_ba ?N ?m ?_; (case N => k_asm); (case m => k_mem))))

theorem write_c {w : World} {dp un : Nat} {outer : List Env} {s : Shared} {h₀ : Heap} {p : Program} {loose : List Str} {mean : ExcName → Option Value} {mg mb : Str → Option Value}
    {x dx sl es : Addr} {b : List UInt8} {c d : Array UInt8} {t : Tok}
    (X : (Mine.hd.heap_39 w.params).In h₀) (T : Top p loose mean mg mb h₀) (G : Grd h₀ outer [x, dx, es] s.heap)
    (hT : TubeAt w.params s.heap x dx b sl es) (he : s.heap.get? es = some (baOf d)) (hz : d.size + c.size ≤ sizeLine)
    (hd : dp + 9 < recursionLimit) (hu : un + 90 < cLine) :
    codeC (model PySem.Challenge.rw_ej5024_01.row.prog w) (amb dp un outer) (.call (.ref 170) ⟨[.ref x, .bytes c t], []⟩)
      (RetP s [x, dx, es] fun v h' => v = .none ∧ TubeAt w.params h' x dx b sl es ∧ h'.get? es = some (baOf (d ++ c))) s := by
  revert X; k_fill; intro X
  obtain ⟨t1, t2, t3, tb, hx, hdx⟩ := hT
  have hne : x ≠ dx := ne_of_cls hx hdx (fun e => by cases e)
  have hex : es ≠ x := ne_of_cls he hx (fun e => by cases e)
  have hed : es ≠ dx := ne_of_cls he hdx (fun e => absurd (Value.type.inj e) (by decide))
  refine' enterW (news := [(x, instObj 180 dx), (dx, tubeDict w.params t1 t2 t3 (.bytes b.toArray tb) sl es), (es, baOf d)]) (binds := [("self", .ref x), ("data", .bytes c t)]) X T G ?_ ?ho ?hcd ?hroom ?hbind ?hloc ?body ?hcell ?c2 ?c3 ?c4
  case ho => k_is
  case hcd => k_is
  case hroom => omega
  case hbind => exact BindsTo.of_eq rfl
  case hloc => exact locs rfl
  case hcell => decide
  case c2 => rfl
  case c3 => rfl
  case c4 => rfl
  · intro q hq; cases hq with
    | head => exact hx
    | tail _ q => cases q with
      | head => exact hdx
      | tail _ q => cases q with
        | head => exact he
        | tail _ q => cases q
  intro g L' h₁ B X' T' hkp hsub F N l1
  k_lt l1
  clear hkp hsub G hx hdx he
  refine wpC_execs_cons (wpC_Expr (wpC_MethodCall ?_))
  k_steps
  refine wpC_callWith_B ?_
  k_steps
  rename News g L' _ _ => N9
  rename Fr g L' _ _ => F9
  refine ba_extend rfl (News.get N9 (by k_mem)) hz fun h' h2 sb => ⟨fun a e => (by cases e), wpC_execs_nil ?_⟩
  have k9 : Kept [es] _ h' := fun b o e q => sb.extBut b o (by simpa using q) e
  obtain ⟨F10, N10⟩ := after F9 N9 (Upd.mk (pre := [_, _]) (post := []) (by intro q hq; rcases List.mem_cons.mp hq with rfl | hq; exact hex.symm; rcases List.mem_cons.mp hq with rfl | hq; exact hed.symm; cases hq) (by intro q hq; cases hq)) k9 h2
  exact leaveC_ F10 N10 ⟨rfl, ⟨t1, t2, t3, tb, News.get N10 (by k_mem), News.get N10 (by k_mem)⟩, News.get N10 (by k_mem)⟩
end Mine
end PartL1
section PartL2
open PySem PySem.W PyProof.Rows PySem.Calls PySem.Builtin
set_option Elab.async false
set_option maxRecDepth 100000
set_option maxHeartbeats 8000000
namespace Mine
section
variable {prog : Program} {w : World} {A : Around} {K : Frag} {C : Addr} {R : Result → Shared → Prop} {h : Heap} {g : Array GenState} {d : Drawn} {t : Nat} {os : OsState}
theorem make_coreC {rest : List Value} {kw : List (Str × Value)} {init : Value} (Y : Makes (model prog w) h C) (hi : Looks (model prog w) h (typeLookup (.ref C) "__init__") (some init))
    (hb : ∀ self, Looks (model prog w) h (bindSpecial init self) (init, [self])) (hne : (some init != some (Value.builtin "object.__init__")) = true ∨ (rest = [] ∧ kw = []))
    (hq : codeC (model prog w) (A.under (.builtin "type.__call__" ⟨.ref C :: rest, kw⟩)) (.call init ⟨.ref (h.objs.size + 1) :: rest, kw⟩) (InitBack (h.objs.size + 1) R) ⟨(h.push emptyDict).push (instObj C h.objs.size), g, d, t, os⟩) :
    codeC (model prog w) A (.call (.ref C) ⟨rest, kw⟩) R ⟨h, g, d, t, os⟩ := by
  have Y' := Y
  obtain ⟨⟨oc, od, cd, sl, hC, e1, e2, e4⟩, made, base, self, top, call, typ⟩ := Y
  refine codeC_of_tree rfl (wpC_of ?_)
  show wpAny _ _ (callAny (.ref C) _) _ _ _
  refine nd_load hC ?_
  show wpAny _ _ (callAny.viaDunder (.ref C) _) _ _ _
  unfold callAny.viaDunder
  refine wpAny_bind (call.at ?_)
  dsimp only
  rw [tc_bind]
  refine wpAny_bind (wpAny_pure (wpAny_bind (wpAny_pure ?_)))
  refine wpAny_pure (a := Fin.again (.call (.builtin "type.__call__") ⟨.ref C :: rest, kw⟩)) (And.intro rfl ?_)
  refine codeC_of_tree rfl ?_
  show wpC _ A.in1 (do checkBuiltinCall "type.__call__" ⟨.ref C :: rest, kw⟩; again (.builtin "type.__call__" ⟨.ref C :: rest, kw⟩)) _ _ _
  refine wpC_bindA (check_slot tc_kind tc_split typ (tc_args _ _ _) (wpC_pure ⟨Code.quiet_builtin _ (by decide +kernel), codeC_builtin entry_typeCall (by decide +kernel) ?_⟩))
  unfold Builtin.«type.__call__»
  have hm : Looks (model prog w) h (mroOf (.ref C)) cd.mro := ((Looks.ld (part := none) hC).andThen .now).andThen .now
  have k : ∀ b o, h.get? b = some o → ((h.push emptyDict).push (instObj C h.objs.size)).get? b = some o := fun b o e => Heap.get?_push_of_some _ (Heap.get?_push_of_some _ e)
  have hx : ((h.push emptyDict).push (instObj C h.objs.size)).get? (h.objs.size + 1) = some (instObj C h.objs.size) := by heap_get
  have t1 : Looks (model prog w) ((h.push emptyDict).push (instObj C h.objs.size)) (typeOf (.ref (h.objs.size + 1))) (.ref C) := (Looks.ld hx).andThen .now
  have s1 := self.keeps k
  have i1 := hi.keeps k
  have b1 := (hb (.ref (h.objs.size + 1))).keeps k
  show wpC _ _ (mroOf (.ref C) >>= _) _ _ _
  refine wpC_bindA (hm.at ?_)
  simp only [e4, Bool.false_eq_true, if_false]
  refine wpC_bindA (made.at ?_)
  refine wpC_bindA (wpAny_pure ?_)
  refine wpC_bindA (wpAny_holding (wpAny_call (new_K Y' hi hne ?_)))
  dsimp only
  have is1 : Looks (model prog w) ((h.push emptyDict).push (instObj C h.objs.size)) (isInstance (.ref (h.objs.size + 1)) (.ref C)) true := t1.andThen s1
  refine wpC_bindA (is1.at ?_)
  rw [if_neg (by decide)]
  refine wpC_bind (wpC_holding ?_)
  unfold callSpecial? specialOf
  have sp1 : Looks (model prog w) ((h.push emptyDict).push (instObj C h.objs.size)) (typeOf (.ref (h.objs.size + 1)) >>= fun tp => typeLookup tp "__init__") (some init) := t1.andThen i1
  refine wpC_bindA (sp1.at ?_)
  dsimp only
  refine wpC_holding (wpC_bindA (b1.at ?_))
  dsimp only
  refine wpC_bind (wpC_call (codeC_mono hq fun r s' z => ?_))
  rcases r with e | (v | _ | _ | _) <;> first | exact z | exact z.elim | skip
  obtain ⟨rfl, z⟩ := z
  refine wpC_pure ?_
  dsimp only
  rw [if_neg (by decide)]
  exact wpC_pure z
end
end Mine
end PartL2
section PartL3
open PySem PySem.W PyProof.Rows PySem.Calls PySem.Builtin
set_option Elab.async false
set_option maxRecDepth 100000
set_option maxHeartbeats 8000000
namespace Mine
local macro_rules | `(tactic| k_room) => `(tactic| ktr_room)
local macro_rules | `(tactic| k_units) => `(tactic| ktr_units)
section
variable {M : Model} {A : Around} {E : Value → Shared → Prop} {s : Shared} {env : Env}
theorem wpC_Tuple {elts : List Expr} {k : Nat} {pos : Pos} {Q : Value → Shared → Prop}
    (h : wpC M A (spliced (backTo pos (starEach elts env))) (fun vs s₁ => wpAny M A (newTuple vs) Q E s₁) E s) : wpC M A (eval (.Tuple elts k pos) env) Q E s := by
  show wpC M A (do standAt pos; newTuple (← spliced (backTo pos (starEach elts env)))) Q E s
  exact wpC_bindA (wpAny_standAt (wpC_bind (wpC_mono h (fun _ _ z => wpC_of z) fun _ _ z => z)))
theorem wpC_items_nil {pos : Pos} {Q : List Value → Shared → Prop} (h : Q [] s) : wpC M A (spliced (backTo pos (starEach [] env))) Q E s := wpC_pure h
theorem wpC_items_cons {pos : Pos} {e : Expr} {rest : List Expr} {Q : List Value → Shared → Prop}
    (h : wpC M A (eval e env) (fun v s₁ => wpC M A (spliced (backTo pos (starEach rest env))) (fun vs s₂ => Q (v :: vs) s₂) E s₁) E s)
    (he : starEach (e :: rest) env = (false, eval e env) :: starEach rest env := by rfl) : wpC M A (spliced (backTo pos (starEach (e :: rest) env))) Q E s := by
  rw [he]
  show wpC M A (do
    let v ← eval e env
    let here ← (pure [v] : Sem (List Value))
    return here ++ (← holding here (spliced (backTo pos (starEach rest env))))) Q E s
  exact wpC_bind (wpC_mono h (fun v s₁ h₁ => wpC_bindA (wpAny_pure (wpC_bind (wpC_holding (wpC_mono h₁ (fun vs s₂ h₂ => wpC_pure h₂) fun _ _ x => x)))) ) fun _ _ x => x)
theorem wpC_items_consA {pos : Pos} {e : Expr} {rest : List Expr} {Q : List Value → Shared → Prop}
    (h : wpAny M A (eval e env) (fun v s₁ => wpC M A (spliced (backTo pos (starEach rest env))) (fun vs s₂ => Q (v :: vs) s₂) E s₁) E s)
    (he : starEach (e :: rest) env = (false, eval e env) :: starEach rest env := by rfl) : wpC M A (spliced (backTo pos (starEach (e :: rest) env))) Q E s := wpC_items_cons (wpC_of h) he
theorem wpC_Assign_Tuple {elts k tpos value pos} {Q : Flow → Shared → Prop}
    (h : wpC M A (eval value env) (fun v s₁ => wpAny M A (assign (.Tuple elts k tpos) env v) (fun _ s' => Q .next s') E s₁) E s)
    (hs : swapsWithSole [.Tuple elts k tpos] value pos.line env = pure false := by rfl)
    (hw : swappedStores [.Tuple elts k tpos] value env = pure none := by rfl) :
    wpC M A (exec (.Assign [.Tuple elts k tpos] value pos) env) Q E s := by
  rw [exec_Assign]
  refine wpC_bindA (wpAny_standAt ?_)
  rw [hs]
  refine wpC_bindA (wpAny_pure ?_)
  rw [if_neg (by decide)]
  refine wpC_bind (wpC_mono h (fun v s₁ h₁ => ?_) fun _ _ x => x)
  rw [hw]
  refine wpC_bindA (wpAny_pure ?_)
  show wpC M A (do assignAll v [assign (.Tuple elts k tpos) env]; pure .next) Q E s₁
  exact wpC_bindA (wpAny_mono h₁ (fun _ _ x => wpC_pure x) fun _ _ x => x)
end
/-- a new place joins the list of what is new -/
theorem news_join {g h h' : Heap} {L a : Addr} {m : Str → Option Value} {news : List (Addr × Obj)} {o : Obj} (F : Fr g L h m) (N : News g L h news) (k : ∀ b o, h.get? b = some o → h'.get? b = some o) (hn : h.get? a = none) (ha : h'.get? a = some o) :
    Fr g L h' m ∧ News g L h' ((a, o) :: news) := by
  refine ⟨F.keeps k, fun q hq => ?_⟩
  rcases List.mem_cons.mp hq with rfl | hq
  · refine ⟨ha, fun e => ?_, ?_⟩
    · obtain ⟨oL, _, _, hL, _⟩ := F.ns
      have e' : a = L := e
      rw [e', hL] at hn; cases hn
    · cases q : g.get? a with
      | none => rfl
      | some o' => have := F.keep _ _ q; rw [hn] at this; cases this
  · exact ⟨k _ _ (N q hq).1, (N q hq).2⟩

theorem init_c {w : World} {dp un : Nat} {outer : List Env} {s : Shared} {h₀ : Heap} {p : Program} {loose : List Str} {mean : ExcName → Option Value} {mg mb : Str → Option Value}
    {x dx pl : Addr} {c : Array UInt8} {t : Tok} {us : List Value} {ks : List Int}
    (X : (Mine.hd.heap_39 w.params).In h₀) (T : Top p loose mean mg mb h₀) (G : Grd h₀ outer [x, dx] s.heap)
    (hx : s.heap.get? x = some (instObj 180 dx)) (hdx : s.heap.get? dx = some (dictOf [] 0)) (hsl : s.heap.IsList pl us.toArray) (hI : IntsAre us ks) (hk : ∀ k ∈ ks, (1 : Int) ≤ k) (hlen : ks.length ≤ 10)
    (hd : dp + 9 < recursionLimit) (hu : un + 90 < cLine) :
    codeC (model PySem.Challenge.rw_ej5024_01.row.prog w) (amb dp un outer) (.call (.ref 156) ⟨[.ref x, .bytes c t, .ref pl], []⟩)
      (RetP s [x, dx] fun v h' => v = .none ∧ ∃ sl es, s.heap.get? sl = none ∧ s.heap.get? es = none ∧ TubeAt w.params h' x dx c.toList sl es ∧ SizesAt h' sl ∧ h'.get? es = some (baOf #[])) s := by
  revert X; k_fill; intro X
  have hne : x ≠ dx := ne_of_cls hx hdx (fun e => by cases e)
  have hsx : pl ≠ x := list_ne hsl hx (fun e => by cases e)
  have hsd : pl ≠ dx := list_ne hsl hdx (fun e => absurd (Value.type.inj e) (by decide))
  refine' enterW (news := [(x, instObj 180 dx), (dx, dictOf [] 0)]) (binds := [("self", .ref x), ("incoming", .bytes c t), ("sizes", .ref pl)]) X T G ?_ ?ho ?hcd ?hroom ?hbind ?hloc ?body ?hcell ?c2 ?c3 ?c4
  case ho => k_is
  case hcd => k_is
  case hroom => omega
  case hbind => exact BindsTo.of_eq rfl
  case hloc => exact locs rfl
  case hcell => decide
  case c2 => rfl
  case c3 => rfl
  case c4 => rfl
  · intro q hq; cases hq with
    | head => exact hx
    | tail _ q => cases q with
      | head => exact hdx
      | tail _ q => cases q
  intro g L' h₁ B X' T' hkp hsub F N l1
  have hlg : g.IsList pl us.toArray := by
    obtain ⟨o, ho, r⟩ := hsl
    exact ⟨o, hkp _ _ ho (by simp [hsx, hsd]), r⟩
  k_lt l1
  have hul : us.length ≤ 10 := by rw [hI.length]; exact hlen
  clear G hx hdx hsl
  refine wpC_execs_cons (wpC_Assign_Tuple (wpC_Tuple (wpC_items_consA ?_)))
  k_steps
  refine wpC_items_consA ?_
  k_steps
  refine wpC_items_cons (wpC_Call ?_)
  k_steps
  rename News g L' _ _ => N9
  rename Fr g L' _ _ => F9
  refine wpC_callWith_T0 (new_ba0 rfl fun es h' keep hnone hes => ?_)
  obtain ⟨F10, N10⟩ := news_join F9 N9 keep hnone hes
  have nn : ∀ q ∈ [(_, listOf us.toArray _), (x, instObj 180 dx), (dx, dictOf [] 0)], q.1 ≠ es := fun q hq e => by
    have := (N9 q hq).1; rw [e] at this; rw [hnone] at this; cases this
  have n1 := neN (nn _ (.head _))
  have n2 := neN (nn _ (.tail _ (.head _)))
  have n3 := neN (nn _ (.tail _ (.tail _ (.head _))))
  have n4 := neN hne
  dsimp only at n1 n2 n3
  clear F9 N9 nn hnone keep hes
  refine wpC_items_nil ?_
  k_steps
  refine wpC_execs_nil ?_
  rename News g L' _ _ => N11
  rename Fr g L' _ _ => F11
  have fo : ∀ a, @Ne Nat x a → @Ne Nat dx a → a ∉ List.map (·.1) [(x, instObj 180 dx), (dx, dictOf [] 0)] := fun a h1 h2 q => by
    simp only [List.map_cons, List.map_nil, List.mem_cons, List.not_mem_nil, or_false] at q
    rcases q with q | q
    · exact h1 q.symm
    · exact h2 q.symm
  exact leaveC_ F11 N11 ⟨rfl, _, es, fresh_hidden hkp (N11 (_, listOf us.toArray _) (by k_mem)).2.2 (fo _ (by omega) (by omega)), fresh_hidden hkp (N11 (es, baOf #[]) (by k_mem)).2.2 (fo _ n2 n3), ⟨_, _, _, t, News.get N11 (by k_mem), News.get N11 (by k_mem)⟩, ⟨us, ks, ⟨_, News.get N11 (by k_mem), rfl, _, rfl⟩, hI, hk, hlen⟩, News.get N11 (by k_mem)⟩
/-- a new tube -/
theorem tube_c {w : World} {dp un : Nat} {outer : List Env} {s : Shared} {h₀ : Heap} {p : Program} {loose : List Str} {mean : ExcName → Option Value} {mg mb : Str → Option Value}
    {pl : Addr} {c : Array UInt8} {t : Tok} {us : List Value} {ks : List Int}
    (X : (Mine.hd.heap_39 w.params).In h₀) (T : Top p loose mean mg mb h₀) (G : Grd h₀ outer [] s.heap)
    (hsl : s.heap.IsList pl us.toArray) (hI : IntsAre us ks) (hk : ∀ k ∈ ks, (1 : Int) ≤ k) (hlen : ks.length ≤ 10)
    (hd : dp + 19 < recursionLimit) (hu : un + 100 < cLine) :
    codeC (model PySem.Challenge.rw_ej5024_01.row.prog w) (amb dp un outer) (.call (.ref 180) ⟨[.bytes c t, .ref pl], []⟩)
      (RetP s [] fun v h' => ∃ x dx sl es, v = .ref x ∧ s.heap.get? x = none ∧ s.heap.get? dx = none ∧ s.heap.get? sl = none ∧ s.heap.get? es = none ∧ TubeAt w.params h' x dx c.toList sl es ∧ SizesAt h' sl ∧ h'.get? es = some (baOf #[])) s := by
  revert X; k_fill; intro X
  have Xs := X.keeps G.stays
  obtain ⟨hh, g, d, tk, os⟩ := s
  have fr : hh.get? hh.objs.size = none ∧ hh.get? (hh.objs.size + 1) = none := by
    constructor
    · cases q : hh.get? hh.objs.size with
      | none => rfl
      | some o => exact absurd (Heap.lt_size q) (Nat.lt_irrefl _)
    · cases q : hh.get? (hh.objs.size + 1) with
      | none => rfl
      | some o => exact absurd (Heap.lt_size q) (Nat.not_lt.mpr (Nat.le_succ _))
  have k : ∀ b o, hh.get? b = some o → ((hh.push emptyDict).push (instObj 180 hh.objs.size)).get? b = some o := fun b o e => Heap.get?_push_of_some _ (Heap.get?_push_of_some _ e)
  refine make_coreC (init := .ref 156) (makes_of Xs ?hm) (looks_findIn Xs ?hi) (fun self => bind_fn Xs self ?hf) (.inl rfl) ?_
  case hm => k_is
  case hi => k_is
  case hf => k_is
  have ua : (amb dp un outer).under (.builtin "type.__call__" ⟨.ref 180 :: [.bytes c t, .ref pl], []⟩) = amb (dp + 1) (un + 1) outer := rfl
  rw [ua]
  refine codeC_mono (init_c (x := hh.objs.size + 1) (dx := hh.objs.size) X T ⟨fun b o e => k b o (G.stays b o e), G.frames.of_keeps fun b o e _ => ⟨o, k b o e, rfl⟩, fun env he a ha q => ?_, fun a ha => ?_⟩ ?hx ?hdx ?hl hI hk hlen (by omega) (by omega)) fun r s' hr => ?_
  case hx => heap_get
  case hdx => heap_get
  case hl => obtain ⟨o, ho, r⟩ := hsl; exact ⟨o, k _ _ ho, r⟩
  · obtain ⟨L₁, o₁, hf₁, ho₁⟩ := funFrames_in G.frames env he
    rw [hf₁] at q
    have hlt := ltN (Heap.lt_size ho₁)
    dsimp only at hlt
    have e : L₁ = a := Option.some.inj q
    subst e
    simp only [List.mem_cons, List.not_mem_nil, or_false] at ha
    rcases ha with rfl | rfl <;> omega
  · cases q : h₀.get? a with
    | none => rfl
    | some o =>
      have hlt := ltN (Heap.lt_size (G.stays _ _ q))
      dsimp only at hlt
      simp only [List.mem_cons, List.not_mem_nil, or_false] at ha
      rcases ha with rfl | rfl <;> omega
  · obtain ⟨v, h', tk', rfl, rfl, kp, rfl, sl, es, fsl, fes, hT, hS, hE⟩ := hr
    have un : ∀ a, ((hh.push emptyDict).push (instObj 180 hh.objs.size)).get? a = none → hh.get? a = none := fun a ha => by
      cases q : hh.get? a with
      | none => rfl
      | some o => have := k a o q; rw [ha] at this; cases this
    refine ⟨rfl, _, h', tk', rfl, rfl, fun b o e _ => kp b o (k b o e) ?_, _, _, sl, es, rfl, fr.2, fr.1, un _ fsl, un _ fes, hT, hS, hE⟩
    have hlt := ltN (Heap.lt_size e)
    dsimp only at hlt
    simp only [List.mem_cons, List.not_mem_nil, or_false]
    intro q
    rcases q with rfl | rfl <;> omega
end Mine
end PartL3
section PartL4
open PySem PySem.W PyProof.Rows PySem.Calls PySem.Builtin
set_option Elab.async false
set_option maxRecDepth 100000
set_option maxHeartbeats 8000000
namespace Mine
local macro_rules | `(tactic| k_room) => `(tactic| ktr_room)
local macro_rules | `(tactic| k_units) => `(tactic| ktr_units)
theorem flush_c {w : World} {dp un : Nat} {outer : List Env} {s : Shared} {h₀ : Heap} {p : Program} {loose : List Str} {mean : ExcName → Option Value} {mg mb : Str → Option Value}
    {x dx sl es : Addr} {b : List UInt8}
    (X : (Mine.hd.heap_39 w.params).In h₀) (T : Top p loose mean mg mb h₀) (G : Grd h₀ outer [x, dx] s.heap)
    (hT : TubeAt w.params s.heap x dx b sl es)
    (hd : dp + 9 < recursionLimit) (hu : un + 90 < cLine) :
    codeAny (model PySem.Challenge.rw_ej5024_01.row.prog w) (amb dp un outer) (.call (.ref 128) ⟨[.ref x], []⟩)
      (RetP s [x, dx] fun v h' => v = .none ∧ TubeAt w.params h' x dx b sl es) s := by
  revert X; k_fill; intro X
  obtain ⟨t1, t2, t3, tb, hx, hdx⟩ := hT
  have hne : x ≠ dx := ne_of_cls hx hdx (fun e => by cases e)
  refine' enter (news := [(x, instObj 180 dx), (dx, tubeDict w.params t1 t2 t3 (.bytes b.toArray tb) sl es)]) (binds := [("sock", .ref x)]) X T G ?_ ?ho ?hcd ?hroom ?hbind ?hloc ?body ?hcell ?c2 ?c3 ?c4
  case ho => k_is
  case hcd => k_is
  case hroom => omega
  case hbind => exact BindsTo.of_eq rfl
  case hloc => exact locs rfl
  case hcell => decide
  case c2 => rfl
  case c3 => rfl
  case c4 => rfl
  · intro q hq; cases hq with
    | head => exact hx
    | tail _ q => cases q with
      | head => exact hdx
      | tail _ q => cases q
  intro g L' h₁ B X' T' hkp hsub F N l1
  k_lt l1
  clear hkp hsub G hx hdx
  k_steps
  rename News g L' _ _ => N9
  rename Fr g L' _ _ => F9
  exact leaveC_ (by assumption) (by assumption) ⟨rfl, ⟨t1, t2, t3, tb, News.get N9 (by k_mem), News.get N9 (by k_mem)⟩⟩
end Mine
end PartL4
section PartL5
open PySem PySem.W PyProof.Rows PySem.Calls PySem.Builtin
set_option Elab.async false
set_option maxRecDepth 100000
set_option maxHeartbeats 8000000
namespace Mine
local macro_rules | `(tactic| k_room) => `(tactic| ktr_room)
local macro_rules | `(tactic| k_units) => `(tactic| ktr_units)
theorem callC_of {M : Model} {A : Around} {E : Value → Shared → Prop} {s : Shared} {f : Value} {args : List Value} {ex : List Addr} {P : Value → Heap → Prop} {Q : Value → Shared → Prop}
    (h : codeC M A (.call f ⟨args, []⟩) (RetP s ex P) s) (k : ∀ v h' tk, Kept ex s.heap h' → P v h' → Q v { s with heap := h', toks := tk }) : wpC M A (call f args) Q E s :=
  wpC_call (codeC_mono h fun r s' hr => by
    obtain ⟨v, h', tk, rfl, rfl, kp, hp⟩ := hr
    exact k v h' tk kp hp)
theorem callA_of {M : Model} {A : Around} {E : Value → Shared → Prop} {s : Shared} {f : Value} {args : List Value} {ex : List Addr} {P : Value → Heap → Prop} {Q : Value → Shared → Prop}
    (h : codeAny M A (.call f ⟨args, []⟩) (RetP s ex P) s) (k : ∀ v h' tk, Kept ex s.heap h' → P v h' → Q v { s with heap := h', toks := tk }) : wpAny M A (call f args) Q E s :=
  wpAny_call (codeAny_mono h fun r s' hr => by
    obtain ⟨v, h', tk, rfl, rfl, kp, hp⟩ := hr
    exact k v h' tk kp hp)
theorem fr_kept {g h h' : Heap} {L : Addr} {m : Str → Option Value} {ex : List Addr} (F : Fr g L h m) (k : Kept ex h h') (hex : ∀ a ∈ ex, a ≠ L ∧ g.get? a = none) : Fr g L h' m := by
  refine ⟨?_, fun b o e => k b o (F.keep b o e) fun q => ?_, F.above⟩
  · obtain ⟨oL, es, ep, hL, r⟩ := F.ns
    exact ⟨oL, es, ep, k _ _ hL (fun q => (hex _ q).1 rfl), r⟩
  · rw [(hex _ q).2] at e; cases e
theorem news_kept {g h h' : Heap} {L : Addr} {news : List (Addr × Obj)} {ex : List Addr} (N : News g L h news) (k : Kept ex h h') (hn : ∀ q ∈ news, q.1 ∉ ex) : News g L h' news :=
  fun q hq => ⟨k _ _ (N q hq).1 (hn q hq), (N q hq).2⟩
theorem news_put {g h : Heap} {L a : Addr} {news : List (Addr × Obj)} {o : Obj} (hL : a ≠ L) (hg : g.get? a = none) (ha : h.get? a = some o) (N : News g L h news) : News g L h ((a, o) :: news) := fun q hq => by
  rcases List.mem_cons.mp hq with rfl | hq
  · exact ⟨ha, hL, hg⟩
  · exact N q hq
/-- the places of ex change, all of them listed -/
theorem afters {g h h' : Heap} {L : Addr} {m : Str → Option Value} {ex : List Addr} {news news' rest : List (Addr × Obj)} (F : Fr g L h m) (N : News g L h news) (k : Kept ex h h') (hex : ∀ a ∈ ex, a ∈ news.map (·.1))
    (hr : ∀ q ∈ rest, q ∈ news ∧ q.1 ∉ ex) (hn : ∀ q ∈ news', q.1 ∈ ex ∧ h'.get? q.1 = some q.2) : Fr g L h' m ∧ News g L h' (news' ++ rest) := by
  have hx : ∀ a ∈ ex, a ≠ L ∧ g.get? a = none := fun a ha => by
    obtain ⟨q, hq, rfl⟩ := List.mem_map.mp (hex a ha)
    exact (N q hq).2
  refine ⟨fr_kept F k hx, fun q hq => ?_⟩
  rcases List.mem_append.mp hq with hq | hq
  · exact ⟨(hn q hq).2, hx _ (hn q hq).1⟩
  · obtain ⟨q1, q2⟩ := hr q hq
    exact ⟨k _ _ (N q q1).1 q2, (N q q1).2⟩

theorem write2_c {w : World} {dp un : Nat} {outer : List Env} {s : Shared} {h₀ : Heap} {p : Program} {loose : List Str} {mean : ExcName → Option Value} {mg mb : Str → Option Value}
    {x dx sl es : Addr} {b : List UInt8} {c d : Array UInt8} {t : Tok}
    (X : (Mine.hd.heap_39 w.params).In h₀) (T : Top p loose mean mg mb h₀) (G : Grd h₀ outer [x, dx, es] s.heap)
    (hT : TubeAt w.params s.heap x dx b sl es) (he : s.heap.get? es = some (baOf d)) (hz : d.size + c.size ≤ sizeLine)
    (hd : dp + 19 < recursionLimit) (hu : un + 100 < cLine) :
    codeC (model PySem.Challenge.rw_ej5024_01.row.prog w) (amb dp un outer) (.call (.ref 142) ⟨[.ref x, .bytes c t], []⟩)
      (RetP s [x, dx, es] fun v h' => v = .none ∧ TubeAt w.params h' x dx b sl es ∧ h'.get? es = some (baOf (d ++ c))) s := by
  revert X; k_fill; intro X
  obtain ⟨t1, t2, t3, tb, hx, hdx⟩ := hT
  have hne : x ≠ dx := ne_of_cls hx hdx (fun e => by cases e)
  have hex : es ≠ x := ne_of_cls he hx (fun e => by cases e)
  have hed : es ≠ dx := ne_of_cls he hdx (fun e => absurd (Value.type.inj e) (by decide))
  refine' enterW (news := [(x, instObj 180 dx), (dx, tubeDict w.params t1 t2 t3 (.bytes b.toArray tb) sl es), (es, baOf d)]) (binds := [("sock", .ref x), ("d", .bytes c t)]) X T G ?_ ?ho ?hcd ?hroom ?hbind ?hloc ?body ?hcell ?c2 ?c3 ?c4
  case ho => k_is
  case hcd => k_is
  case hroom => omega
  case hbind => exact BindsTo.of_eq rfl
  case hloc => exact locs rfl
  case hcell => decide
  case c2 => rfl
  case c3 => rfl
  case c4 => rfl
  · intro q hq; cases hq with
    | head => exact hx
    | tail _ q => cases q with
      | head => exact hdx
      | tail _ q => cases q with
        | head => exact he
        | tail _ q => cases q
  intro g L' h₁ B X' T' hkp hsub F N l1
  k_lt l1
  clear hkp hsub G hx hdx he
  refine wpC_execs_cons (wpC_Try (wpC_try (wpC_execs_cons (wpC_Expr (wpC_MethodCall ?_)))))
  k_steps
  dsimp only
  refine wpC_callWith_K (K := Mine.hd.heap_39 w.params) ?hk ?_
  case hk => k_is
  k_steps
  refine callC_of (write_c (dp := dp + 1) (un := un + 3) (outer := _ :: outer) X T (Grd.push (ex := [x, dx, es]) B F N rfl rfl (by simp)) ⟨t1, t2, t3, tb, News.get N (by k_mem), News.get N (by k_mem)⟩ (News.get N (by k_mem)) hz (by omega) (by omega)) fun v h' tk kp hp => ?_
  obtain ⟨rfl, ⟨t1', t2', t3', tb', hx', hdx'⟩, he'⟩ := hp
  refine ⟨fun a e => (by cases e), wpC_execs_nil (wpC_execs_nil (wpC_execs_nil ?_))⟩
  obtain ⟨F9, N9⟩ := afters (rest := []) (news' := [(x, instObj 180 dx), (dx, tubeDict w.params t1' t2' t3' (.bytes b.toArray tb') sl es), (es, baOf (d ++ c))]) F N kp (by simp) (by simp) (by simp [hx', hdx', he'])
  exact leaveC_ F9 N9 ⟨rfl, ⟨t1', t2', t3', tb', hx', hdx'⟩, he'⟩
end Mine
end PartL5
section PartL6
open PySem PySem.W PyProof.Rows PySem.Calls PySem.Builtin
set_option Elab.async false
set_option maxRecDepth 100000
set_option maxHeartbeats 8000000
namespace Mine
section
variable {M : Model} {A : Around} {E : Value → Shared → Prop} {s : Shared} {env : Env}
theorem wpC_tryA {body : Sem Flow} {h hs} {orelse : Sem Flow} {Q : Flow → Shared → Prop}
    (b : wpC M A body (fun f s' => match f with | .next => wpC M A orelse Q E s' | f => Q f s') (fun e s' => wpAny M A (noteFrame e env) (fun _ s₁ => wpAny M A (setFlight e none) (fun _ s₂ => wpAny M A (handleBy e env (h :: hs)) Q E s₂) E s₁) E s') s) :
    wpC M A (tryStmt false body (h :: hs) orelse [] env) Q E s :=
  wpC_try (wpC_mono b (fun _ _ z => z) fun _ _ z => wpAny_mono z (fun _ _ y => wpAny_mono y (fun _ _ x => wpC_of x) fun _ _ x => x) fun _ _ x => x)
theorem wpC_noted {α : Type} {m : Sem α} {Q : α → Shared → Prop} (h : wpC M A m Q (notedBy M A env E) s) : wpC M A (m.onRaise fun x => do noteFrame x env; theTreesLotGoes x) Q E s :=
  wpC_onRaise (wpC_mono h (fun _ _ q => q) fun _ _ hx => wpC_of (wpAny_bind (wpAny_mono hx (fun _ _ e => wpAny_theTreesLotGoes e) fun _ _ e => e)))
end
section
variable {prog : Program} {w : World} {A : Around} {E : Value → Shared → Prop} {s : Shared} {env : Env}
theorem codeC_while {test body orelse} {Q : Flow → Shared → Prop} (hE : PassesOwn (model prog w) A env E) (I : Nat → Shared → Prop)
    (turn : ∀ n s, I n s → wpC (model prog w) A (isTrue test env (eval test env)) (fun b s₂ =>
        if b then wpC (model prog w) A (execs body env) (fun f s₃ => match f with
            | .next | .cont => ∃ m, m < n ∧ I m s₃
            | .brk => Q .next s₃
            | .ret v => Q (.ret v) s₃) E s₂
        else wpC (model prog w) A (execs orelse env) Q E s₂) E s)
    (n : Nat) (h : I n s) : codeC (model prog w) A (.whileLoop test body orelse env) (fun r s' => match r with | .ok f => Q f s' | .error e => cameBackBy (model prog w) A env E e s') s := by
  refine codeC_loop rfl rfl I (fun n s hI => ?_) n h
  show wpC _ A ((whileTurn test body orelse env).onRaise (fun x => do noteFrame x env; theTreesLotGoes x)) _ _ s
  refine wpC_noted ?_
  simp only [whileTurn]
  refine wpC_bind (wpC_mono (turn n s hI) (fun b s₂ h₂ => ?_) hE)
  cases b with
  | false =>
    simp only [Bool.false_eq_true, if_false] at h₂ ⊢
    exact wpC_bind (wpC_mono h₂ (fun f s₃ h₃ => wpC_pure h₃) hE)
  | true =>
    simp only [if_true] at h₂ ⊢
    refine wpC_bind (wpC_mono h₂ (fun f s₃ h₃ => ?_) hE)
    cases f with
    | next => exact wpC_pure ⟨rfl, h₃⟩
    | cont => exact wpC_pure ⟨rfl, h₃⟩
    | brk => exact wpC_pure h₃
    | ret v => exact wpC_pure h₃
end
section
variable {M : Model} {A : Around} {E : Value → Shared → Prop} {s' : Shared} {base g h : Heap} {outer : List Env} {L a e : Addr} {m : Str → Option Value} {name : Str} {scope : Scope} {cd cls : Value} {vs : List Value} {news : List (Addr × Obj)} {Q : Unit → Shared → Prop}
/-- a new exception is looked at in the function that raised it -/
theorem look_madeS (K : Below A base outer g) (hx : Heap.MadeExcOf h s'.heap e cls vs) (F : Fr g L h m) (N : News g L h news)
    (k : ∀ h' t, RaisedS base (hideAll h (news.map (·.1))) (envOf name scope L a cd :: outer) e cls t vs news h' → Fr g L (hideAll h (news.map (·.1))) m → (hideAll h (news.map (·.1))).UpToSlots h' → Q () { s' with heap := h' })
    (hk : scope.kind = .function := by rfl) :
    wpAny M (A.deeper (envOf name scope L a cd)) (noteFrame (.ref e) (envOf name scope L a cd)) (fun _ s₂ => wpAny M (A.deeper (envOf name scope L a cd)) (setFlight (.ref e) none) Q E s₂) E s' := by
  have K' := K.push (name := name) (a := a) (cd := cd) F hk
  have hin : ∀ env ∈ (envOf name scope L a cd :: outer), ∀ b, env.frame = some b → b ∈ (envOf name scope L a cd :: outer).filterMap (·.frame) := fun env he b hb => List.mem_filterMap.mpr ⟨env, he, hb⟩
  have st : base.StaysIn (hideAll h ((envOf name scope L a cd :: outer).filterMap (·.frame))) := fun b o q => hideAll_get _ (K'.stays b o q) fun hm => by
    rw [(K'.frames.mem hm).1] at q; cases q
  have sg : ∀ b o, (hideAll h (news.map (·.1))).get? b = some o → b ∉ (envOf name scope L a cd :: outer).filterMap (·.frame) → (hideAll h ((envOf name scope L a cd :: outer).filterMap (·.frame))).get? b = some o := fun b o q nm => hideAll_get _ (of_hideAll _ q) nm
  have hl : ∀ q ∈ news, (hideAll h ((envOf name scope L a cd :: outer).filterMap (·.frame))).get? q.1 = some q.2 ∧ (hideAll h (news.map (·.1))).get? q.1 = none ∧ base.get? q.1 = none := fun q hq => by
    refine ⟨hideAll_get _ (N q hq).1 fun hm => ?_, hideAll_none _ (List.mem_map_of_mem hq), fresh_of_stays K.stays (N q hq).2.2⟩
    obtain ⟨env, he, hf⟩ := List.mem_filterMap.mp hm
    rcases List.mem_cons.mp he with rfl | he
    · exact (N q hq).2.1 (Option.some.inj hf).symm
    · obtain ⟨o, ho, _⟩ := (K.frames.mem (List.mem_filterMap.mpr ⟨env, he, hf⟩)).2
      rw [(N q hq).2.2] at ho; cases ho
  have nL : L ∉ news.map (·.1) := fun q => by
    obtain ⟨p, hp, e⟩ := List.mem_map.mp q
    exact (N p hp).2.1 e
  have F2 : Fr g L (hideAll h (news.map (·.1))) m := by
    obtain ⟨oL, es, ep, hL, r⟩ := F.ns
    refine ⟨⟨oL, es, ep, hideAll_get _ hL nL, r⟩, fun b o q => hideAll_get _ (F.keep b o q) fun hm => ?_, F.above⟩
    obtain ⟨p, hp, rfl⟩ := List.mem_map.mp hm
    rw [(N p hp).2.2] at q; cases q
  have upG : ∀ {h' : Heap}, h.UpToSlots h' → (hideAll h (news.map (·.1))).UpToSlots h' := fun u b o q nd => u b o (of_hideAll _ q) nd
  obtain ⟨t, he, htn, ht⟩ := hx.there
  have fresh : ∀ b, h.get? b = none → (hideAll h ((envOf name scope L a cd :: outer).filterMap (·.frame))).get? b = none := fun b hb => by
    cases hq : (hideAll h ((envOf name scope L a cd :: outer).filterMap (·.frame))).get? b with
    | none => rfl
    | some o' => have := of_hideAll _ hq; rw [hb] at this; cases this
  have kB : ∀ b o, (hideAll h ((envOf name scope L a cd :: outer).filterMap (·.frame))).get? b = some o → s'.heap.get? b = some o := fun b o q => hx.keeps b o (of_hideAll _ q)
  have hfl : s'.heap.FunFrames (hideAll h ((envOf name scope L a cd :: outer).filterMap (·.frame))) (envOf name scope L a cd :: outer) := (funFrames_hide K'.frames hin).of_keeps fun b o hb _ => ⟨o, hx.keeps b o hb, rfl⟩
  have fin : ∀ h', Heap.NotedW (hideAll h ((envOf name scope L a cd :: outer).filterMap (·.frame))) (envOf name scope L a cd :: outer) e cls (.ref t) (rawInt L) s'.heap h' → wpAny M (A.deeper (envOf name scope L a cd)) (setFlight (.ref e) none) Q E { s' with heap := h' } := fun h₁ hN => by
    obtain ⟨n1, n2, n3, n4⟩ := hN
    have up1 : s'.heap.UpToSlots h₁ := n4
    refine wpAny_landsW (s := { s' with heap := h₁ }) ⟨n1, fresh e hx.new, n2, n3⟩ fun h₂ hW up2 => ?_
    exact k h₂ t ⟨⟨_, st, sg, hl, hW, fresh t htn⟩, (Heap.TupAt.of_slots (Heap.TupAt.of_slots ⟨_, _, ht, rfl, rfl⟩ up1) up2)⟩ F2 (upG ((Heap.UpToSlots.of_keeps hx.keeps).trans (up1.trans up2)))
  unfold noteFrame
  show wpAny M _ (field (.ref e) 1 >>= _) _ _ _
  refine wpAny_bind (wpAny_field (x := .none) he rfl rfl ?_)
  rw [if_neg (show ¬ ((Value.none != Value.none) = true) by decide)]
  exact wpAny_entryW (a0 := .ref t) K'.stack hfl rfl he kB (fresh e hx.new) rfl (Nat.le_of_ble_eq_true rfl) rfl fin
end
end Mine
end PartL6
section PartL7
open PySem PySem.W PyProof.Rows PySem.Calls PySem.Builtin
set_option Elab.async false
set_option maxRecDepth 100000
set_option maxHeartbeats 8000000
namespace Mine
local macro_rules | `(tactic| k_room) => `(tactic| ktr_room)
local macro_rules | `(tactic| k_units) => `(tactic| ktr_units)
/-- a list of sizes, as an object -/
def SizesObj (ol : Obj) : Prop := ∃ us ks n, ol.cls = .type "list" ∧ ol.data = .seq (List.toArray us) n ∧ IntsAre us ks ∧ (∀ k ∈ ks, (1 : Int) ≤ k) ∧ ks.length ≤ 10
theorem SizesAt.of {h : Heap} {sl : Addr} {ol : Obj} (e : h.get? sl = some ol) (S : SizesObj ol) : SizesAt h sl := by
  obtain ⟨us, ks, n, hc, hd, r⟩ := S
  exact ⟨us, ks, ⟨ol, e, hc, n, hd⟩, r⟩
theorem SizesAt.obj {h : Heap} {sl : Addr} (S : SizesAt h sl) : ∃ ol, h.get? sl = some ol ∧ SizesObj ol := by
  obtain ⟨us, ks, ⟨ol, e, hc, n, hd⟩, r⟩ := S
  exact ⟨ol, e, us, ks, n, hc, hd, r⟩
/-- tube.read from a function that holds the tube among what is new -/
theorem read_call {w : World} {dp un : Nat} {outer : List Env} {s : Shared} {h₀ g : Heap} {L : Addr} {m : Str → Option Value} {p : Program} {loose : List Str} {mean : ExcName → Option Value} {mg mb : Str → Option Value}
    {env : Env} {x dx sl es : Addr} {b : List UInt8} {t1 t2 t3 tb ts : Tok} {size : Int} {rest : List (Addr × Obj)} {Q E : Value → Shared → Prop}
    (X : (Mine.hd.heap_39 w.params).In h₀) (T : Top p loose mean mg mb h₀) (B : Below (amb dp un outer) h₀ outer g) (F : Fr g L s.heap m)
    (N : News g L s.heap ((x, instObj 180 dx) :: (dx, tubeDict w.params t1 t2 t3 (.bytes b.toArray tb) sl es) :: rest))
    (hr : ∀ q ∈ rest, q.2.cls ≠ .type "dict" ∧ q.2.cls ≠ .ref 180) (hS : SizesAt s.heap sl) (hsz : 0 ≤ size) (hb : b.length ≤ 1000) (hf : env.frame = some L) (hkd : env.scope.kind = .function)
    (hd : dp + 14 < recursionLimit) (hu : un + 100 < cLine)
    (h : ∀ (k : Nat) sl' t h' tok t1' t2' t3' tb' ol', (k : Int) ≤ size → (1 ≤ size → 1 ≤ k) → SizesObj ol' → Fr g L h' m →
      News g L h' ((x, instObj 180 dx) :: (dx, tubeDict w.params t1' t2' t3' (.bytes (b.drop k).toArray tb') sl' es) :: (sl', ol') :: rest) → Q (.bytes (b.take k).toArray t) { s with heap := h', toks := tok }) :
    wpAny (model PySem.Challenge.rw_ej5024_01.row.prog w) ((amb dp un outer).deeper env) (call (.ref 163) [.ref x, .int size ts]) Q E s := by
  refine callA_of (read_c (dp := dp + 1) (un := un + 3) (outer := env :: outer) X T (Grd.push (ex := [x, dx]) B F N hf hkd (by simp)) ⟨t1, t2, t3, tb, News.get N (by k_mem), News.get N (by k_mem)⟩ hS hsz hb (by omega) (by omega)) fun v h' tk kp hp => ?_
  obtain ⟨k, sl', t, hk1, hk2, rfl, ⟨t1', t2', t3', tb', hx', hdx'⟩, hS', hfresh⟩ := hp
  obtain ⟨ol', hol, hSO⟩ := SizesAt.obj hS'
  have rx : ∀ q ∈ rest, q.1 ∉ [x, dx] := fun q hq hm => by
    have hq' := (N q (.tail _ (.tail _ hq))).1
    simp only [List.mem_cons, List.not_mem_nil, or_false] at hm
    rcases hm with e | e
    · have hx0 := (N _ (.head _)).1
      rw [e] at hq'; dsimp only at hx0; rw [hq'] at hx0
      exact (hr q hq).2 (by rw [Option.some.inj hx0])
    · have hx0 := (N _ (.tail _ (.head _))).1
      rw [e] at hq'; dsimp only at hx0; rw [hq'] at hx0
      exact (hr q hq).1 (by rw [Option.some.inj hx0])
  obtain ⟨F9, N9⟩ := afters (rest := rest) (news' := [(x, instObj 180 dx), (dx, tubeDict w.params t1' t2' t3' (.bytes (b.drop k).toArray tb') sl' es)]) F N kp (by simp) (fun q hq => ⟨by simp [hq], rx q hq⟩) (by simp [hx', hdx'])
  have nL : sl' ≠ L := fun e => by
    obtain ⟨oL, _, _, hL, _⟩ := F.ns
    rw [e, hL] at hfresh; cases hfresh
  have ng : g.get? sl' = none := by
    cases q : g.get? sl' with
    | none => rfl
    | some o => have := F.keep _ _ q; rw [hfresh] at this; cases this
  refine h k sl' t h' tk t1' t2' t3' tb' ol' hk1 hk2 hSO F9 fun q hq => ?_
  rcases List.mem_cons.mp hq with rfl | hq
  · exact N9 _ (.head _)
  rcases List.mem_cons.mp hq with rfl | hq
  · exact N9 _ (.tail _ (.head _))
  rcases List.mem_cons.mp hq with rfl | hq
  · exact ⟨hol, nL, ng⟩
  · exact N9 _ (.tail _ (.tail _ hq))
end Mine
end PartL7
section PartL8
open PySem PySem.W PyProof.Rows PySem.Calls PySem.Builtin
set_option Elab.async false
set_option maxRecDepth 100000
set_option maxHeartbeats 8000000
namespace Mine
local macro_rules | `(tactic| k_room) => `(tactic| ktr_room)
local macro_rules | `(tactic| k_units) => `(tactic| ktr_units)
theorem SizesAt.keeps {h h' : Heap} {sl : Addr} (S : SizesAt h sl) (k : ∀ b o, h.get? b = some o → h'.get? b = some o) : SizesAt h' sl := by
  obtain ⟨us, ks, ⟨o, ho, r⟩, q⟩ := S
  exact ⟨us, ks, ⟨o, k _ _ ho, r⟩, q⟩
local macro_rules | `(tactic| walk_at "call ref") => `(tactic| (k_here; (with_reducible show wpAny _ _ (PySem.call (Value.ref 163) _) _ _ _); k_dflt (refine' read_call ?X ?T ?B ?F ?N ?r ?S ?z ?b ?f ?kd ?d ?u ?_; (case B => k_asm); (case F => k_asm); (case N => k_asm); (case X => assumption); (case T => assumption); (case r => first | assumption | simp); (case S => first | exact SizesAt.keeps (by assumption) (Fr.keep (by assumption)) | exact SizesAt.of (News.get (by assumption) (by k_mem)) (by assumption)); (case z => omega); (case b => first | assumption | (simp only [List.length_drop]; omega)); (case f => rfl); (case kd => rfl); (case d => omega); (case u => omega)); intro k9 sl9 t9 h9 tk9 t19 t29 t39 tb9 ol9 hk9 hj9 hs9 F9 N9))
local macro_rules | `(tactic| walk_at "call builtin:len") => `(tactic| (k_here; (with_reducible show wpAny _ _ (PySem.call (Value.builtin "len") [Value.ref _]) _ _ _); k_dflt (refine' len_ba ?a ?z ?_; (case a => exact News.get (by assumption) (by k_mem)); (case z => (simp only [List.size_toArray, List.length_take]; omega))); intro _ _))
local macro_rules | `(tactic| walk_at "getMethod ref") => `(tactic| (k_here; (with_reducible show wpAny _ _ (getMethod (Value.ref _) (PySem.Str.ofString "extend") _) _ _ _); k_dflt (refine' method_ba ?N ?m ?_; (case N => k_asm); (case m => k_mem))))
local macro_rules | `(tactic| walk_at "call type:bytes") => `(tactic| (k_here; (with_reducible show wpAny _ _ (PySem.call (Value.type "bytes") [Value.ref _]) _ _ _); k_dflt (refine' bytes_ba ?a ?z ?_; (case a => exact News.get (by assumption) (by k_mem)); (case z => assumption)); intro _ _))
theorem take_step (b : List UInt8) (j k : Nat) : (b.take j).toArray ++ ((b.drop j).take k).toArray = (b.take (min (j + k) b.length)).toArray := by
  rw [List.append_toArray, ← List.take_add]
  congr 1
  rcases Nat.le_total (j + k) b.length with h | h
  · rw [Nat.min_eq_left h]
  · rw [Nat.min_eq_right h, List.take_of_length_le h, List.take_of_length_le (Nat.le_refl _)]
theorem drop_step (b : List UInt8) (j k : Nat) : (b.drop j).drop k = b.drop (min (j + k) b.length) := by
  rw [List.drop_drop]
  rcases Nat.le_total (j + k) b.length with h | h
  · rw [Nat.min_eq_left h]
  · rw [Nat.min_eq_right h, List.drop_of_length_le h, List.drop_of_length_le (Nat.le_refl _)]
theorem RaisedS.sub {base G h : Heap} {l : List Env} {e t : Addr} {cls : Value} {vs : List Value} {news news' : List (Addr × Obj)} (R : RaisedS base G l e cls t vs news h) (hs : ∀ q ∈ news', q ∈ news) : RaisedS base G l e cls t vs news' h := by
  obtain ⟨⟨B, a, b, c, d, f⟩, g⟩ := R
  exact ⟨⟨B, a, b, fun q hq => c q (hs q hq), d, f⟩, g⟩
theorem SizesObj.ne {h : Heap} {sl a : Addr} {ol o : Obj} (S : SizesObj ol) (e : h.get? sl = some ol) (ha : h.get? a = some o) (hc : o.cls ≠ .type "list") : sl ≠ a := by
  obtain ⟨_, _, _, c, _⟩ := S
  exact ne_of_cls e ha (by rw [c]; exact fun z => hc z.symm)
/-- the tube is short: an InterfaceError flies out -/
def Short (P : Params) (h₀ : Heap) (outer : List Env) (s : Shared) (x dx es : Addr) (r : Result) (s' : Shared) : Prop :=
  ∃ e t vs h' tk sl' ol t1 t2 t3 tb, r = .error (.ref e) ∧ s' = { s with heap := h', toks := tk } ∧
    RaisedS h₀ (hideAll s.heap [x, dx]) outer e (.ref 65) t vs [(x, instObj 180 dx), (dx, tubeDict P t1 t2 t3 (.bytes #[] tb) sl' es), (sl', ol)] h' ∧ (hideAll s.heap [x, dx]).UpToSlots h' ∧ SizesObj ol
def ReadR (P : Params) (h₀ : Heap) (outer : List Env) (s : Shared) (x dx es : Addr) (b : List UInt8) (n : Nat) (r : Result) (s' : Shared) : Prop :=
  (n ≤ b.length → RetP s [x, dx] (fun v h' => ∃ t sl', v = .bytes (b.take n).toArray t ∧ TubeAt P h' x dx (b.drop n) sl' es ∧ SizesAt h' sl' ∧ s.heap.get? sl' = none) r s') ∧
  (b.length < n → Short P h₀ outer s x dx es r s')

theorem read2_c {w : World} {dp un : Nat} {outer : List Env} {s : Shared} {h₀ : Heap} {p : Program} {loose : List Str} {mean : ExcName → Option Value} {mg mb : Str → Option Value}
    {x dx sl es : Addr} {b : List UInt8} {n : Nat} {ts : Tok}
    (X : (Mine.hd.heap_39 w.params).In h₀) (T : Top p loose mean mg mb h₀) (G : Grd h₀ outer [x, dx] s.heap)
    (hT : TubeAt w.params s.heap x dx b sl es) (hS : SizesAt s.heap sl) (hb : b.length ≤ 1000) (hn : n ≤ 1000) (D : KtsDicts (outer.filterMap (·.frame)) (hideAll s.heap [x, dx]))
    (hd : dp + 29 < recursionLimit) (hu : un + 200 < cLine) :
    codeC (model PySem.Challenge.rw_ej5024_01.row.prog w) (amb dp un outer) (.call (.ref 135) ⟨[.ref x, .int n ts], []⟩) (ReadR w.params h₀ outer s x dx es b n) s := by
  revert X; k_fill; intro X
  obtain ⟨t1, t2, t3, tb, hx, hdx⟩ := hT
  have hne : x ≠ dx := ne_of_cls hx hdx (fun e => by cases e)
  obtain ⟨ol, hol, hSO⟩ := hS.obj
  have hsx : sl ≠ x := ne_of_cls hol hx (fun e => by obtain ⟨_, _, _, hc, _⟩ := hSO; rw [hc] at e; cases e)
  have hsd : sl ≠ dx := ne_of_cls hol hdx (fun e => by obtain ⟨_, _, _, hc, _⟩ := hSO; rw [hc] at e; exact absurd (Value.type.inj e) (by decide))
  refine' enterR (news := [(x, instObj 180 dx), (dx, tubeDict w.params t1 t2 t3 (.bytes b.toArray tb) sl es)]) (binds := [("sock", .ref x), ("size", .int n ts)]) X T G ?_ ?ho ?hcd ?hroom ?hbind ?hloc ?body ?hcell ?c2 ?c3 ?c4
  case ho => k_is
  case hcd => k_is
  case hroom => omega
  case hbind => exact BindsTo.of_eq rfl
  case hloc => exact locs rfl
  case hcell => decide
  case c2 => rfl
  case c3 => rfl
  case c4 => rfl
  · intro q hq; cases hq with
    | head => exact hx
    | tail _ q => cases q with
      | head => exact hdx
      | tail _ q => cases q
  intro g L' h₁ hg B X' T' hkp hsub F N l1
  have hSg : SizesAt g sl := SizesAt.of (hkp _ _ hol (by simp [hsx, hsd])) hSO
  k_lt l1
  clear hsub G hx hdx hol hSO hS
  refine wpC_execs_cons (wpC_Assign_Name (wpC_Call ?_))
  k_steps
  refine wpC_callWith_T ?_
  k_steps
  rename_i k9 sl9 t9 h9 tk9 u1 u2 u3 ub ol9 hk9 hj9 hs9 F9 N9
  have hz0 : (b.take k9).toArray.size ≤ sizeLine := by
    have e := List.length_take_le k9 b
    rw [List.size_toArray]
    have : (1000 : Nat) ≤ sizeLine := by decide
    have := List.length_take_le' k9 b
    omega
  refine new_ba1 rfl hz0 fun bf h' keep hnone hbf => ?_
  obtain ⟨F10, N10⟩ := news_join F9 N9 keep hnone hbf
  clear keep F9 N9 hnone hbf
  k_steps
  rename News g L' _ _ => N11
  rename Fr g L' _ _ => F11
  refine wpC_execs_cons (wpC_Try (wpC_tryA (wpC_execs_cons (wpC_While (codeC_while PassesOwn.looking
    (fun m st => ∃ j h tk vb sl' ol u1 u2 u3 ub, st = { s with heap := h, toks := tk } ∧ m = n - j ∧ j ≤ n ∧ j ≤ b.length ∧ SizesObj ol ∧
      Fr g L' h (fun y => if y = "block" then vb else if y = "buff" then some (.ref bf) else List.lookup y [(("sock" : Str), Value.ref x), ("size", .int n ts)].reverse) ∧
      News g L' h [(x, instObj 180 dx), (dx, tubeDict w.params u1 u2 u3 (.bytes (b.drop j).toArray ub) sl' es), (sl', ol), (bf, baOf (b.take j).toArray)]) ?turn (n - min k9 b.length) ?init)))))
  case init =>
    refine ⟨min k9 b.length, _, _, none, sl9, ol9, u1, u2, u3, ub, rfl, rfl, by omega, by omega, hs9, ?_, ?_⟩
    · have e : (fun y : Str => if y = "block" then none else if y = "buff" then some (Value.ref bf) else List.lookup y [(("sock" : Str), Value.ref x), ("size", .int n ts)].reverse) = fun y : Str => if y = "buff" then some (Value.ref bf) else List.lookup y [(("sock" : Str), Value.ref x), ("size", .int n ts)].reverse := by
        funext y
        by_cases hy : y = "block"
        · subst hy; rfl
        · rw [if_neg hy]
      rw [e]; exact F11
    · have e1 : b.drop (min k9 b.length) = b.drop k9 := by
        rcases Nat.le_total k9 b.length with h | h
        · rw [Nat.min_eq_left h]
        · rw [Nat.min_eq_right h, List.drop_of_length_le h, List.drop_of_length_le (Nat.le_refl _)]
      have e2 : b.take (min k9 b.length) = b.take k9 := by
        rcases Nat.le_total k9 b.length with h | h
        · rw [Nat.min_eq_left h]
        · rw [Nat.min_eq_right h, List.take_of_length_le h, List.take_of_length_le (Nat.le_refl _)]
      rw [e1, e2]
      exact fun q hq => N11 q (by simp only [List.mem_cons, List.not_mem_nil, or_false] at hq ⊢; rcases hq with z | z | z | z <;> simp [z])
  case turn =>
    clear N11 F11
    rintro m st ⟨j, h, tk, vb, sl', ol', v1, v2, v3, vb2, rfl, rfl, hjn, hjb, hso, F, N⟩
    have hr0 : ∀ q ∈ [(sl', ol'), (bf, baOf (b.take j).toArray)], q.2.cls ≠ .type "dict" ∧ q.2.cls ≠ .ref 180 := fun q hq => by
      obtain ⟨_, _, _, hc, _⟩ := hso
      simp only [List.mem_cons, List.not_mem_nil, or_false] at hq
      rcases hq with rfl | rfl
      · rw [hc]; exact ⟨fun e => absurd (Value.type.inj e) (by decide), fun e => by cases e⟩
      · exact ⟨fun e => absurd (Value.type.inj e) (by decide), fun e => by cases e⟩
    have hsz : (b.take j).toArray.size = j := by simp only [List.size_toArray, List.length_take]; omega
    refine wpC_of ?_
    k_steps
    · rename_i t' k' hlt
      rw [hsz] at hlt
      refine wpC_execs_consA ?_
      k_steps
      rename_i t9' k9' k9 sl9 t9 h9 tk9 u1 u2 u3 ub ol9 hk9 hj9 hs9 h10 F10 N10
      rw [hsz] at hk9 hj9
      refine wpC_execs_consA ?_
      k_steps
      · rename_i hemp h11 e11 hmade
        have hemp' : (b.drop j).take k9 = [] := by simpa using hemp
        have hlen : b.length = j := by
          have := congrArg List.length hemp'
          simp only [List.length_take, List.length_drop, List.length_nil] at this
          omega
        have hdrop : (b.drop j).drop k9 = [] := by rw [List.drop_of_length_le (by simp only [List.length_drop]; omega)]
        have D' : KtsDicts (outer.filterMap (·.frame)) g := by rw [hg]; exact D
        refine look_madeS B hmade F10 N10 (fun h12 t12 R12 F12 U12 => ?_)
        clear hkp hSg
        k_steps
        rename RaisedS h₀ g outer _ _ _ _ _ _ => R13
        rename Heap.UpToSlots g _ => U13
        rw [hdrop] at R13
        rw [hg] at R13 U13
        exact ⟨fun hh => absurd hlt (by omega), fun _ => ⟨e11, t12, _, _, _, sl9, ol9, u1, u2, u3, ub, rfl, rfl, RaisedS.sub R13 (by simp), U13, hs9⟩⟩
      · rename_i hemp
        show wpC _ _ _ _ _ _
        refine wpC_execs_cons (wpC_Expr (wpC_MethodCall ?_))
        k_steps
        refine wpC_callWith_B ?_
        k_steps
        have hz9 : (b.take j).toArray.size + ((b.drop j).take k9).toArray.size ≤ sizeLine := by
          have : (2000 : Nat) ≤ sizeLine := by decide
          simp only [List.size_toArray, List.length_take, List.length_drop]; omega
        have hne' : (b.drop j).take k9 ≠ [] := fun e => by rw [e] at hemp; cases hemp
        have hpos : 0 < min k9 (b.length - j) := by
          have := List.length_pos_iff.mpr hne'
          simp only [List.length_take, List.length_drop] at this
          exact this
        refine ba_extend rfl (News.get N10 (by k_mem)) hz9 fun h12 hb12 sb => ⟨fun a e => (by cases e), wpC_execs_nil ?_⟩
        rw [take_step] at hb12
        have k12 : Kept [bf] h10 h12 := fun q o e hq => sb.extBut q o (by simpa using hq) e
        have nb : ∀ q ∈ [(x, instObj 180 dx), (dx, tubeDict w.params u1 u2 u3 (.bytes ((b.drop j).drop k9).toArray ub) sl9 es), (sl9, ol9)], q.1 ≠ bf := fun q hq e => by
          have h1 := (N10 q (by simp only [List.mem_cons, List.not_mem_nil, or_false] at hq ⊢; rcases hq with z | z | z <;> simp [z])).1
          have h2 := News.get N10 (show (bf, baOf (b.take j).toArray) ∈ _ by k_mem)
          rw [e, h2] at h1
          have h3 := congrArg Obj.cls (Option.some.inj h1)
          simp only [List.mem_cons, List.not_mem_nil, or_false] at hq
          obtain ⟨_, _, _, hc, _⟩ := hs9
          rcases hq with rfl | rfl | rfl
          · cases h3
          · exact absurd (Value.type.inj h3) (by decide)
          · rw [hc] at h3; exact absurd (Value.type.inj h3) (by decide)
        obtain ⟨F13, N13⟩ := afters (ex := [bf]) (rest := [(x, instObj 180 dx), (dx, tubeDict w.params u1 u2 u3 (.bytes ((b.drop j).drop k9).toArray ub) sl9 es), (sl9, ol9)]) (news' := [(bf, baOf (b.take (min (j + k9) b.length)).toArray)]) F10 N10 k12 (by simp)
          (fun q hq => ⟨by simp only [List.mem_cons, List.not_mem_nil, or_false] at hq ⊢; rcases hq with z | z | z <;> simp [z], by simpa using nb q hq⟩) (by simp [hb12])
        rw [drop_step] at N13
        refine ⟨n - min (j + k9) b.length, by omega, min (j + k9) b.length, h12, _, some (.bytes ((b.drop j).take k9).toArray t9), sl9, ol9, u1, u2, u3, ub, rfl, rfl, by omega, by omega, hs9, ?_, fun q hq => N13 q (by simp only [List.mem_cons, List.not_mem_nil, or_false, List.mem_append] at hq ⊢; rcases hq with z | z | z | z <;> simp [z])⟩
        refine Eq.mp (congrArg (Fr g L' h12) (funext fun y => ?_)) F13
        by_cases hy : y = "block"
        · subst hy; rfl
        · simp only [if_neg hy]
    · rename_i t' k' hge
      rw [hsz] at hge
      have hjn' : j = n := by omega
      subst hjn'
      have hzb : (b.take j).toArray.size ≤ sizeLine := by
        have : (1000 : Nat) ≤ sizeLine := by decide
        omega
      refine wpC_execs_nil (wpC_execs_nil (wpC_execs_nil (wpC_execs_consA ?_)))
      k_steps
      exact ⟨fun _ => ⟨_, h, _, rfl, rfl, fun q o e hq => F.keep q o (hkp q o e hq), _, sl', rfl, ⟨v1, v2, v3, vb2, (N _ (.head _)).1, (N _ (.tail _ (.head _))).1⟩, SizesAt.of (N _ (.tail _ (.tail _ (.head _)))).1 hso, fresh_hidden hkp (N _ (.tail _ (.tail _ (.head _)))).2.2 fun q => by
        simp only [List.map_cons, List.map_nil, List.mem_cons, List.not_mem_nil, or_false] at q
        rcases q with q | q
        · exact hso.ne (N _ (.tail _ (.tail _ (.head _)))).1 (N _ (.head _)).1 (fun e => by cases e) q
        · exact hso.ne (N _ (.tail _ (.tail _ (.head _)))).1 (N _ (.tail _ (.head _))).1 (fun e => absurd (Value.type.inj e) (by decide)) q⟩, fun hh => absurd hh (by omega)⟩
end Mine
end PartL8
section PartL9
open PySem PySem.W PyProof.Rows PySem.Calls PySem.Builtin
set_option Elab.async false
set_option maxRecDepth 100000
set_option maxHeartbeats 8000000
namespace Mine
local macro_rules | `(tactic| k_room) => `(tactic| ktr_room)
local macro_rules | `(tactic| k_units) => `(tactic| ktr_units)
/-- kept, but for the places of ex; frames up to their slots -/
def KeptS (ex fs : List Addr) (h h' : Heap) : Prop := ∀ b o, h.get? b = some o → b ∉ ex → (b ∉ fs → h'.get? b = some o) ∧ (b ∈ fs → ∃ sl, h'.get? b = some { o with slots := sl })
def RetS (s : Shared) (ex fs : List Addr) (P : Value → Heap → Prop) (r : Result) (s' : Shared) : Prop :=
  ∃ v h' tk, r = .ok (.ret v) ∧ s' = { s with heap := h', toks := tk } ∧ KeptS ex fs s.heap h' ∧ P v h'
theorem Kept.toS {ex fs : List Addr} {h h' : Heap} (k : Kept ex h h') : KeptS ex fs h h' := fun b o e q => ⟨fun _ => k b o e q, fun _ => ⟨o.slots, k b o e q⟩⟩
theorem fr_hide {g h : Heap} {L : Addr} {m : Str → Option Value} {news : List (Addr × Obj)} {ex : List Addr} (F : Fr g L h m) (N : News g L h news) (hex : ∀ a ∈ ex, a ∈ news.map (·.1)) : Fr g L (hideAll h ex) m := by
  have hx : ∀ a ∈ ex, a ≠ L ∧ g.get? a = none := fun a ha => by
    obtain ⟨q, hq, rfl⟩ := List.mem_map.mp (hex a ha)
    exact (N q hq).2
  obtain ⟨oL, es, ep, hL, r⟩ := F.ns
  refine ⟨⟨oL, es, ep, hideAll_get _ hL fun q => (hx _ q).1 rfl, r⟩, fun b o q => hideAll_get _ (F.keep b o q) fun hm => ?_, F.above⟩
  rw [(hx _ hm).2] at q; cases q
theorem kts_push {g h : Heap} {L : Addr} {m : Str → Option Value} {news : List (Addr × Obj)} {ex : List Addr} {env : Env} {outer : List Env} (D : KtsDicts (outer.filterMap (·.frame)) g) (F : Fr g L h m) (N : News g L h news) (hf : env.frame = some L)
    (hex : ∀ a ∈ ex, a ∈ news.map (·.1)) : KtsDicts ((env :: outer).filterMap (·.frame)) (hideAll h ex) := fun b hb => by
  have F2 := fr_hide F N hex
  obtain ⟨e, he, hfe⟩ := List.mem_filterMap.mp hb
  rcases List.mem_cons.mp he with rfl | he
  · rw [hf] at hfe
    obtain rfl := Option.some.inj hfe
    obtain ⟨oL, es, ep, hL, hd, _⟩ := F2.ns
    exact ⟨oL, es, ep, hL, hd⟩
  · obtain ⟨o, es, n, ho, hd⟩ := D b (List.mem_filterMap.mpr ⟨e, he, hfe⟩)
    exact ⟨o, es, n, F2.keep _ _ ho, hd⟩

theorem short_c {w : World} {dp un : Nat} {outer : List Env} {s : Shared} {h₀ : Heap} {p : Program} {loose : List Str} {mean : ExcName → Option Value} {mg mb : Str → Option Value}
    {x dx sl es : Addr} {b : List UInt8} {n : Nat} {ts : Tok}
    (X : (Mine.hd.heap_39 w.params).In h₀) (T : Top p loose mean mg mb h₀) (G : Grd h₀ outer [x, dx] s.heap)
    (hT : TubeAt w.params s.heap x dx b sl es) (hS : SizesAt s.heap sl) (hb : b.length ≤ 1000) (hn : n ≤ 1000) (D : KtsDicts (outer.filterMap (·.frame)) (hideAll s.heap [x, dx]))
    (hd : dp + 39 < recursionLimit) (hu : un + 300 < cLine) :
    codeC (model PySem.Challenge.rw_ej5024_01.row.prog w) (amb dp un outer) (.call (.ref 224) ⟨[.ref x, .int n ts], []⟩)
      (RetS s [x, dx] (outer.filterMap (·.frame)) fun v h' => ∃ sl', v = .bool (decide (b.length < n)) ∧ TubeAt w.params h' x dx (b.drop n) sl' es ∧ SizesAt h' sl' ∧ s.heap.get? sl' = none) s := by
  revert X; k_fill; intro X
  obtain ⟨t1, t2, t3, tb, hx, hdx⟩ := hT
  have hne : x ≠ dx := ne_of_cls hx hdx (fun e => by cases e)
  obtain ⟨ol, hol, hSO⟩ := hS.obj
  have hsx : sl ≠ x := ne_of_cls hol hx (fun e => by obtain ⟨_, _, _, hc, _⟩ := hSO; rw [hc] at e; cases e)
  have hsd : sl ≠ dx := ne_of_cls hol hdx (fun e => by obtain ⟨_, _, _, hc, _⟩ := hSO; rw [hc] at e; exact absurd (Value.type.inj e) (by decide))
  refine' enterR (news := [(x, instObj 180 dx), (dx, tubeDict w.params t1 t2 t3 (.bytes b.toArray tb) sl es)]) (binds := [("tube", .ref x), ("size", .int n ts)]) X T G ?_ ?ho ?hcd ?hroom ?hbind ?hloc ?body ?hcell ?c2 ?c3 ?c4
  case ho => k_is
  case hcd => k_is
  case hroom => omega
  case hbind => exact BindsTo.of_eq rfl
  case hloc => exact locs rfl
  case hcell => decide
  case c2 => rfl
  case c3 => rfl
  case c4 => rfl
  · intro q hq; cases hq with
    | head => exact hx
    | tail _ q => cases q with
      | head => exact hdx
      | tail _ q => cases q
  intro g L' h₁ hg B X' T' hkp hsub F N l1
  have hSg : SizesAt g sl := SizesAt.of (hkp _ _ hol (by simp [hsx, hsd])) hSO
  have Dg : KtsDicts (outer.filterMap (·.frame)) g := by rw [hg]; exact D
  k_lt l1
  clear hsub G hx hdx hol hSO hS
  refine wpC_execs_cons (wpC_Try (wpC_tryA (wpC_execs_cons (wpC_Expr (wpC_Call ?_)))))
  k_steps
  rename Fr g L' _ _ => F1
  rename News g L' _ _ => N1
  refine wpC_callWith_K (K := Mine.hd.heap_39 w.params) ?hk ?_
  case hk => k_is
  k_steps
  refine wpC_call (codeC_mono (read2_c (dp := dp + 1) (un := un + 3) (outer := _ :: outer) X T (Grd.push (ex := [x, dx]) B F1 N1 rfl rfl (by simp)) ⟨t1, t2, t3, tb, News.get N1 (by k_mem), News.get N1 (by k_mem)⟩ (SizesAt.keeps hSg F1.keep) hb hn (kts_push Dg F1 N1 rfl (by simp)) (by omega) (by omega)) fun r s' hr => ?_)
  rcases Nat.lt_or_ge b.length n with hlt | hge
  · obtain ⟨e, t, vs, h', tk, sl', ol', u1, u2, u3, ub, rfl, rfl, R1, U1, hso⟩ := hr.2 hlt
    have F2 := fr_hide F1 N1 (ex := [x, dx]) (by simp)
    clear F1 hr
    dsimp only
    k_steps
    rename KtsTurn _ g _ => T9
    rename News _ L' _ [_, _, _] => N9
    rename Fr _ L' _ (fun y => _) => F9
    have hdr : b.drop n = [] := List.drop_of_length_le (by omega)
    refine ⟨_, _, _, rfl, rfl, fun q o e hq => ?_, sl', by rw [decide_eq_true hlt], ⟨u1, u2, u3, ub, ?_, ?_⟩, ?_, ?_⟩
    · have hgq := hkp q o e hq
      refine ⟨fun hf => F9.keep _ _ (T9.other _ _ hgq hf), fun hf => ?_⟩
      obtain ⟨sl, hs⟩ := T9.frame _ _ hgq hf
      exact ⟨sl, F9.keep _ _ hs⟩
    · exact (N9 _ (.head _)).1
    · rw [hdr]; exact (N9 _ (.tail _ (.head _))).1
    · exact SizesAt.of (N9 _ (.tail _ (.tail _ (.head _)))).1 hso
    · refine fresh_hidden hkp ?_ fun q => ?_
      · have hn := (N9 _ (.tail _ (.tail _ (.head _)))).2.2
        cases z : g.get? sl' with
        | none => rfl
        | some o =>
          obtain ⟨sl, hs⟩ := T9.up z
          dsimp only at hn
          rw [hs] at hn; cases hn
      · simp only [List.map_cons, List.map_nil, List.mem_cons, List.not_mem_nil, or_false] at q
        rcases q with q | q
        · exact hso.ne (N9 _ (.tail _ (.tail _ (.head _)))).1 (N9 _ (.head _)).1 (fun e => by cases e) q
        · exact hso.ne (N9 _ (.tail _ (.tail _ (.head _)))).1 (N9 _ (.tail _ (.head _))).1 (fun e => absurd (Value.type.inj e) (by decide)) q
  · obtain ⟨v, h', tk, rfl, rfl, kp, tb', sl', rfl, hT', hS', fsl⟩ := hr.1 hge
    have fsl' : s.heap.get? sl' = none := by
      obtain ⟨ol', hol', hso'⟩ := hS'.obj
      obtain ⟨_, _, _, _, hx', hdx'⟩ := hT'
      refine fresh_hidden hkp (by cases z : g.get? sl' with
        | none => rfl
        | some o => have := F1.keep _ _ z; dsimp only at fsl; rw [fsl] at this; cases this) fun q => ?_
      simp only [List.map_cons, List.map_nil, List.mem_cons, List.not_mem_nil, or_false] at q
      rcases q with q | q
      · exact hso'.ne hol' hx' (fun e => by cases e) q
      · exact hso'.ne hol' hdx' (fun e => absurd (Value.type.inj e) (by decide)) q
    dsimp only at kp
    obtain ⟨u1, u2, u3, ub, hx', hdx'⟩ := hT'
    obtain ⟨F9, N9⟩ := afters (rest := []) (news' := [(x, instObj 180 dx), (dx, tubeDict w.params u1 u2 u3 (.bytes (b.drop n).toArray ub) sl' es)]) F1 N1 kp (by simp) (by simp) (by simp [hx', hdx'])
    have k9 : KeptS [x, dx] (outer.filterMap (·.frame)) s.heap h' := Kept.toS fun q o e hq => F9.keep _ _ (hkp q o e hq)
    clear F1 N1 hr
    refine ⟨fun a e => (by cases e), wpC_execs_nil (wpC_execs_nil (wpC_execs_consA ?_))⟩
    k_steps
    exact ⟨_, h', _, rfl, rfl, k9, sl', by rw [decide_eq_false (by omega)], ⟨u1, u2, u3, ub, hx', hdx'⟩, hS', fsl'⟩
end Mine
end PartL9
section PartM1
open PySem PySem.W PyProof.Rows PySem.Calls PySem.Builtin
set_option Elab.async false
set_option maxRecDepth 100000
set_option maxHeartbeats 8000000
namespace Mine
section
variable {w : World} {dp un : Nat} {outer : List Env} {s : Shared} {h₀ : Heap} {K : Frag} {news : List (Addr × Obj)} {p : Program} {loose : List Str} {mean : ExcName → Option Value} {mg mb : Str → Option Value}
  {name qual : Str} {params : Arguments} {body : List Stmt} {scope : Scope} {dV kV doc pm cdv ct oc : Value} {an od : Option Addr} {osl : Array (Option Value)} {f : Addr} {args : Args} {binds : List (Str × Value)}
  {P : Value → Heap → Prop}
theorem enterWC (X : K.In h₀) (T : Top p loose mean mg mb h₀) (G : Grd h₀ outer (news.map (·.1)) s.heap) (N : ∀ q ∈ news, s.heap.get? q.1 = some q.2)
    (ho : K.lookup f = some ⟨oc, od, .func (fnX name qual params body scope [] dV kV doc pm an cdv ct), osl⟩) (hcd : codeIn K cdv qual = true) (hroom : dp < recursionLimit)
    (hbind : BindsTo s (fnX name qual params body scope [] dV kV doc pm an cdv ct) args binds)
    (hkind : (binds.all fun y => scope.names.lookup y.1 == some .local || scope.names.lookup y.1 == some .cell) = true)
    (hnd : ((cellsFrom 0 scope.names []).map (·.1)).Nodup)
    (h : ∀ g L' h₁ tk cells, Below (amb dp un outer) h₀ outer g → K.In g → Top p loose mean mg mb g → Kept (news.map (·.1)) s.heap g → (∀ b o, g.get? b = some o → s.heap.get? b = some o) →
      Fr g L' h₁ (bindL (envOfC qual scope L' f cdv).kindOf binds fun _ => none) → News g L' h₁ (cells ++ news) →
      CellsAre (bindC (envOfC qual scope L' f cdv).kindOf binds fun _ => none) (cellsFrom (L' + 1) scope.names []) cells → (∀ q ∈ news, q.1 < L') →
      wpC (model PySem.Challenge.rw_ej5024_01.row.prog w) ((amb dp un outer).deeper (envOfC qual scope L' f cdv)) (execs body (envOfC qual scope L' f cdv))
        (fun fl s' => LeaveC g L' s (news.map (·.1)) P (match fl with | .ret v => v | _ => .none) s') (fun _ _ => False)
        { s with heap := h₁, toks := tk })
    (hco : scope.isCoroutine = false := by rfl) (hgen : scope.isGenerator = false := by rfl) (hk : scope.kind = .function := by rfl) :
    codeC (model PySem.Challenge.rw_ej5024_01.row.prog w) (amb dp un outer) (.call (.ref f) args) (RetP s (news.map (·.1)) P) s := by
  have nm : ∀ b o, h₀.get? b = some o → b ∉ news.map (·.1) := fun b o e q => by
    obtain ⟨x, hx, rfl⟩ := List.mem_map.mp q
    rw [G.new _ (List.mem_map_of_mem hx)] at e; cases e
  have st : h₀.StaysIn (hideAll s.heap (news.map (·.1))) := fun b o e => hideAll_get _ (G.stays b o e) (nm b o e)
  have kp : Kept (news.map (·.1)) s.heap (hideAll s.heap (news.map (·.1))) := fun b o e q => hideAll_get _ e q
  refine codeC_call_function hroom (G.stays _ _ (X _ _ ho)) rfl hco hgen rfl (codeRec_of (X.keeps G.stays) hcd) (hbind _ _ _ _ ?_)
  refine wpAny_newFunctionEnv_cells hk (kindsX hkind _) fun env' he s' x => ?_
  subst he
  refine ⟨(T.nolimit.keeps G.stays).keeps x.toInCall.keep, codeC_func ?_⟩
  obtain ⟨h₁, tk, rfl, _⟩ := x.done
  have hk₁ := x.toInCall.keep
  obtain ⟨cells, NC, Y⟩ := Cl.news (h₀ := s.heap) (Nat.le_refl _) fun n c hm => ⟨x.cell n c (lookup_of_mem_nodup (cellsFrom_names scope.names 0 (s.heap.objs.size + 1) [] [] rfl ▸ hnd) hm), x.above n c hm⟩
  refine wpC_mono (h (hideAll s.heap (news.map (·.1))) s.heap.objs.size h₁ tk cells ⟨rfl, st, funFrames_hideAll G.frames G.off⟩ (X.keeps fun b o e => st b o e) (T.keeps fun b o e => st b o e) kp (fun b o e => of_hideAll _ e)
    ⟨x.toInCall.ns, fun b o e => hk₁ b o (of_hideAll _ e), Nat.le_of_eq (hideAll_size _ _)⟩ (fun q hq => ?_) Y (fun q hq => Heap.lt_size (N q hq))) (fun fl s' hl => ?_) fun _ _ y => y.elim
  · rcases List.mem_append.mp hq with hq | hq
    · refine ⟨(NC q hq).1, (NC q hq).2.1, ?_⟩
      cases z : (hideAll s.heap (news.map (·.1))).get? q.1 with
      | none => rfl
      | some o => have := of_hideAll _ z; rw [(NC q hq).2.2] at this; cases this
    · exact ⟨hk₁ _ _ (N q hq), Nat.ne_of_lt (Heap.lt_size (N q hq)), hideAll_none _ (List.mem_map_of_mem hq)⟩
  · obtain ⟨m', news', h', tk, rfl, F', N', hP⟩ := hl
    exact ⟨_, h', tk, rfl, rfl, fun b o e q => F'.keep b o (kp b o e q), hP⟩
end
end Mine
end PartM1
section PartM0
open PySem PySem.W PyProof.Rows PySem.Calls PySem.Builtin
set_option Elab.async false
set_option maxRecDepth 100000
set_option maxHeartbeats 8000000
namespace Mine
theorem codeC_loop2 {M : Model} {A : Around} {s : Shared} {c : Code} {R : Result → Shared → Prop} (hd : decOk c = true) (hq : c.quiet = true) (I : Nat → Shared → Prop)
    (turn : ∀ n s, I n s → wpC M (A.under c) (M.den c) (fun fin s' => match fin with | .done f => R (.ok f) s' | .again c' => (c' = c ∧ ∃ m, m < n ∧ I m s') ∨ (c'.quiet = true ∧ codeC M A c' R s')) (fun e s' => R (.error e) s') s)
    (n : Nat) (h : I n s) : codeC M A c R s := by
  induction n using Nat.strongRecOn generalizing s with
  | ind n ih =>
    refine codeC_of_tree hd (wpC_mono (turn n s h) (fun fin s' hf => ?_) fun _ _ h' => h')
    cases fin with
    | done f => exact hf
    | again c' =>
      rcases hf with ⟨rfl, m, hm, hI⟩ | hf
      · exact ⟨hq, ih m hm hI⟩
      · exact hf
section
variable {prog : Program} {w : World} {A : Around} {E : Value → Shared → Prop} {s : Shared} {env : Env}
/-- a for that raises nothing -/
theorem codeC_for {R : Result → Shared → Prop} {target it body orelse} (I : Nat → Shared → Prop)
    (turn : ∀ n s, I n s → wpAny (model prog w) A (pyNext it) (fun r s₁ => match r with
      | none => wpAny (model prog w) A (execs orelse env) (fun f s₃ => R (.ok f) s₃) (fun _ _ => False) s₁
      | some v => wpAny (model prog w) A (letOwnedTupleGo target it v) (fun _ s₁' =>
          wpAny (model prog w) A (assign target env v) (fun _ s₂ => wpC (model prog w) A (execs body env) (fun f s₃ => match f with
            | .next | .cont => ∃ m, m < n ∧ I m s₃
            | .brk => R (.ok .next) s₃
            | .ret v => R (.ok (.ret v)) s₃) (fun _ _ => False) s₂) (fun _ _ => False) s₁') (fun _ _ => False) s₁) (fun _ _ => False) s)
    (n : Nat) (h : I n s) : codeC (model prog w) A (.forLoop target it body orelse env) R s := by
  refine codeC_loop2 rfl rfl I (fun n s hI => ?_) n h
  show wpC _ A ((forTurn target it body orelse env).onRaise (fun x => do noteFrame x env; theTreesLotGoes x)) _ _ s
  refine wpC_onRaise (wpC_mono (E := fun _ _ => False) ?_ (fun _ _ z => z) fun _ _ z => z.elim)
  simp only [forTurn]
  refine wpC_bindA (wpAny_standAt (wpC_bindA (wpAny_onRaise (wpAny_mono (turn n s hI) (fun r s₁ h₁ => ?_) fun _ _ z => z.elim))))
  cases r with
  | none => exact wpC_pure (.inr ⟨rfl, codeC_of (codeAny_block (wpAny_mono h₁ (fun _ _ z => z) fun _ _ z => z.elim))⟩)
  | some v =>
    refine wpC_bindA (wpAny_mono h₁ (fun _ s₁' h₁' => ?_) fun _ _ h' => h')
    refine wpC_bindA (wpAny_mono h₁' (fun _ s₂ h₂ => wpC_bind (wpC_mono h₂ (fun f s₃ h₃ => ?_) fun _ _ h' => h')) fun _ _ h' => h')
    cases f with
    | next => exact wpC_pure (.inl ⟨rfl, h₃⟩)
    | cont => exact wpC_pure (.inl ⟨rfl, h₃⟩)
    | brk => exact wpC_pure h₃
    | ret v => exact wpC_pure h₃
theorem wpC_For {M : Model} {target iter body orelse pos} {Q : Flow → Shared → Prop}
    (h : wpAny M A (eval iter env) (fun x s₁ => wpAny M A (pyIter x) (fun it s₂ =>
      codeC M A (.forLoop target it body orelse env) (fun r s' => match r with | .ok f => Q f s' | .error e => cameBackBy M A env E e s') s₂) E s₁) E s)
    (hs : ∀ x, foldedSetIterable iter env x = pure x := by intro _; rfl) :
    wpC M A (exec (.For target iter body orelse pos) env) Q E s := by
  rw [arm_exec_For]
  exact wpC_bindA (wpAny_standAt (wpC_bindA (wpAny_mono h (fun x s₁ h₁ => wpC_bindA (wpAny_of_eq (hs x) (wpC_bindA (wpAny_standAt (wpC_bindA (wpAny_holding
    (wpAny_mono h₁ (fun it s₂ h₂ => wpC_runOwn h₂) fun _ _ h' => h'))))))) fun _ _ h' => h')))
theorem letOwned_list {M : Model} {elts : List Expr} {kk : Nat} {pos : Pos} {I a : Addr} {o : Obj} {Q : Unit → Shared → Prop} (ho : s.heap.get? I = some o) (hc : o.cls = .type "list_iterator") (h : Q () s) :
    wpAny M A (letOwnedTupleGo (.Tuple elts kk pos) (.ref I) (.ref a)) Q E s := by
  show wpAny M A (load I >>= _) Q E s
  refine wpAny_bind (wpAny_load ho ?_)
  obtain ⟨cls, dd, dt, sl⟩ := o
  simp only at hc
  subst hc
  cases dt <;> exact wpAny_pure h
end
end Mine
end PartM0
section PartM2
open PySem PySem.W PyProof.Rows PySem.Calls PySem.Builtin
set_option Elab.async false
set_option maxRecDepth 100000
set_option maxHeartbeats 8000000
namespace Mine
local macro_rules | `(tactic| k_room) => `(tactic| ktr_room)
local macro_rules | `(tactic| k_units) => `(tactic| ktr_units)
theorem next_callN {w : World} {dp un : Nat} {outer : List Env} {s : Shared} {h₀ g : Heap} {L : Addr} {m : Str → Option Value} {news : List (Addr × Obj)} {upd : Obj → List (Addr × Obj)} {p : Program} {loose : List Str} {mean : ExcName → Option Value} {mg mb : Str → Option Value}
    {env : Env} {st ls : Addr} {vs : List Value} {ns : List Int} {k lim : Int} {tk tl : Tok} {n nl : Nat} {Q E : Value → Shared → Prop}
    (X : (Mine.hd.heap_39 w.params).In h₀) (T : Top p loose mean mg mb h₀) (B : Below (amb dp un outer) h₀ outer g) (F : Fr g L s.heap m) (N : News g L s.heap news) (U : UpdF st (listOf #[.ref ls, .int k tk] n) news upd)
    (hls : (ls, listOf vs.toArray nl) ∈ news) (hne : ls ≠ st) (hI : IntsAre vs ns) (hlen : ns.length ≤ 63) (hk : 0 ≤ k) (hf : env.frame = some L) (hkd : env.scope.kind = .function) (hlim : 0 < lim) (hd : dp + 4 < recursionLimit) (hu : un + 33 < cLine)
    (h : ∀ i t h' k' tk' n' tok, 0 ≤ i → i < lim → 0 ≤ k' → Fr g L h' m → News g L h' (upd (listOf #[.ref ls, .int k' tk'] n')) → Q (.int i t) { s with heap := h', toks := tok }) :
    wpAny (model PySem.Challenge.rw_ej5024_01.row.prog w) ((amb dp un outer).deeper env) (call (.ref 191) [.ref st, .int lim tl]) Q E s := by
  have hls' : s.heap.IsList ls vs.toArray := ⟨_, (N _ hls).1, rfl, _, rfl⟩
  obtain ⟨pre, post, rfl, hupd, h1, h2⟩ := U.split
  have D := N (st, listOf #[.ref ls, .int k tk] n) (by simp)
  refine wpAny_call (codeAny_mono (next_c (dp := dp + 1) (un := un + 3) (outer := env :: outer) X T (Grd.push (ex := [st]) B F N hf hkd (by simp)) ⟨k, tk, n, hk, D.1⟩ hls' hI hne hlen hlim (by omega) (by omega)) ?_)
  rintro r s' ⟨v, h', tk', rfl, rfl, hkp, ⟨i, t, rfl, hi, hi2⟩, k', tk₂, n', hk', hst'⟩
  have := after F N (Upd.mk h1 h2) hkp hst'
  refine h i t h' k' tk₂ n' tk' hi hi2 hk' this.1 ?_
  rw [hupd]; exact this.2
local macro_rules | `(tactic| k_all) => `(tactic| assumption)
local macro_rules | `(tactic| walk_at "call ref") => `(tactic| (k_here; (with_reducible show wpAny _ _ (PySem.call (Value.ref 191) _) _ _ _); k_dflt (refine' next_callN ?X ?T ?B ?F ?N ?U ?ls ?ne ?I ?len ?k ?f ?kd ?lim ?d ?u ?_; (case F => k_asm); (case N => k_asm); (case B => k_asm); (case X => assumption); (case T => assumption); (case U => k_updF); (case ls => k_mem); (case ne => (refine neN ?_; omega)); (case I => k_asm); (case len => k_asm); (case k => omega); (case f => rfl); (case kd => rfl); (case lim => first | omega | decide); (case d => omega); (case u => omega)); intro i9 t9 h9 k9 tk9 n9 tok9 hi9 hj9 hk9 F9 N9; (try dsimp only at N9)))
/-- the iterable of a comprehension of the law's: a range, after a draw from the state -/
def IterP (g : Heap) (L : Addr) (m : Str → Option Value) (s : Shared) (cut : Addr) (upd : Obj → List (Addr × Obj)) (lo hi : Int) (xv : Value) (s₁ : Shared) : Prop :=
  ∃ (b : Int) (r : Addr) (h : Heap) (tok : Nat) (k : Int) (tk : Tok) (n : Nat) (t u v : Tok), xv = .ref r ∧ s₁ = { s with heap := h, toks := tok } ∧ lo ≤ b ∧ b ≤ hi ∧ 0 ≤ k ∧ Fr g L h m ∧
    News g L h (upd (listOf #[.ref cut, .int k tk] n)) ∧ IsRange h r 0 b 1 t u v
theorem range_ok {b : Int} (h0 : 0 ≤ b) (h9 : b ≤ 9) : Builtin.Range.small 0 b 1 = true ∧ Builtin.Range.rangeSize 0 b 1 = ((b.toNat : Nat) : Int) ∧ b.toNat ≤ sizeLine := by
  have : b = 0 ∨ b = 1 ∨ b = 2 ∨ b = 3 ∨ b = 4 ∨ b = 5 ∨ b = 6 ∨ b = 7 ∨ b = 8 ∨ b = 9 := by omega
  rcases this with rfl | rfl | rfl | rfl | rfl | rfl | rfl | rfl | rfl | rfl <;> decide +kernel
/-- a turn's end in a comprehension of the law's -/
def StepP (g : Heap) (L : Addr) (m : Str → Option Value) (s : Shared) (I : Addr) (oI : Obj) (C : Addr) (oC : Obj) (D : Addr) (ys : List Value) (Inv : List Value → List (Addr × Obj) → Prop) (y : Value) (s₂ : Shared) : Prop :=
  ∃ h' tk' news', s₂ = { s with heap := h', toks := tk' } ∧ Fr g L h' m ∧ News g L h' ((I, oI) :: (C, oC) :: (D, LCg.lst ys) :: news') ∧ LCg.Off3 I C D news' ∧ Inv (ys ++ [y]) news'
theorem rest_I {prog : Program} {w : World} {A : Around} {s : Shared} {g : Heap} {L : Addr} {m : Str → Option Value} {env : Env} {elt : Expr} {x : Str} {scope : Scope} {cl : List (Str × Addr)} {P : Nat → Value → Prop} {S : List (Addr × Obj) → Prop} {Fin : List Value → List (Addr × Obj) → Prop}
    (Inv : List Value → List (Addr × Obj) → Prop) (hS : ∀ ys news, Inv ys news → S news)
    (step : ∀ ys news v I oI C oC D m₂ h tk (E' : Value → Shared → Prop), P ys.length v → Inv ys news → LCg.NsObj oC m₂ → m₂ x = some v → Fr g L h m → News g L h ((I, oI) :: (C, oC) :: (D, LCg.lst ys) :: news) → LCg.Off3 I C D news → ((@Ne Nat I C) ∧ (@Ne Nat I D) ∧ (@Ne Nat C D)) →
      wpAny (model prog w) A (eval elt (compEnvC scope cl C env)) (StepP g L m s I oI C oC D ys Inv) E' { s with heap := h, toks := tk }) :
    ∀ (k i : Nat) (ys : List Value) (news : List (Addr × Obj)), Inv ys news → ys.length = i → (∀ ys news, Inv ys news → ys.length = i + k → Fin ys news) → LCg.CompRest prog w A g L m env elt x scope cl s S P Fin k i ys news
  | 0, i, ys, news, hI, hl, hF => LCg.CompRest.zero (hF ys news hI hl)
  | k + 1, i, ys, news, hI, hl, hF => LCg.CompRest.succ fun v I oI C oC D m₂ h tk E' hP hC hx F N off ne => by
      subst hl
      refine wpAny_mono (step ys news v I oI C oC D m₂ h tk E' hP hI hC hx F N off ne) (fun y s₂ hs => ?_) fun _ _ z => z
      obtain ⟨h', tk', news', rfl, F', N', off', hI'⟩ := hs
      exact ⟨h', tk', news', rfl, F', N', off', hS _ _ hI', rest_I Inv hS step k (ys.length + 1) _ _ hI' (by rw [List.length_append]; rfl) (fun ys news a b => hF ys news a (by omega))⟩
/-- a piece among what is new -/
def PieceIn (pn : List (Addr × Obj)) (v : Value) (b : List UInt8) : Prop :=
  ∃ kind ds a d tk tb n₁ n₂, v = .ref a ∧ (a, tupOf #[.int kind tk, .bytes b.toArray tb, .ref d] n₁) ∈ pn ∧ (d, tupOf (List.toArray ds) n₂) ∈ pn ∧ Due kind b ds
theorem PieceIn.mono {pn pn' : List (Addr × Obj)} {v : Value} {b : List UInt8} (h : PieceIn pn v b) (hs : ∀ q ∈ pn, q ∈ pn') : PieceIn pn' v b := by
  obtain ⟨kind, ds, a, d, tk, tb, n₁, n₂, e, h1, h2, D⟩ := h
  exact ⟨kind, ds, a, d, tk, tb, n₁, n₂, e, hs _ h1, hs _ h2, D⟩
inductive Pcs (pn : List (Addr × Obj)) : List Value → List (List UInt8) → Prop
  | nil : Pcs pn [] []
  | cons {v b vs bs} : PieceIn pn v b → Pcs pn vs bs → Pcs pn (v :: vs) (b :: bs)
theorem Pcs.mono {pn pn' : List (Addr × Obj)} (hs : ∀ q ∈ pn, q ∈ pn') : ∀ {vs bs}, Pcs pn vs bs → Pcs pn' vs bs
  | _, _, .nil => .nil
  | _, _, .cons h r => .cons (h.mono hs) (Pcs.mono hs r)
theorem Pcs.snoc {pn : List (Addr × Obj)} {v : Value} {b : List UInt8} (h : PieceIn pn v b) : ∀ {vs bs}, Pcs pn vs bs → Pcs pn (vs ++ [v]) (bs ++ [b])
  | _, _, .nil => .cons h .nil
  | _, _, .cons k r => .cons k (Pcs.snoc h r)
theorem Pcs.length {pn : List (Addr × Obj)} : ∀ {vs bs}, Pcs pn vs bs → bs.length = vs.length
  | _, _, .nil => rfl
  | _, _, .cons _ r => by simp [Pcs.length r]
theorem Pcs.at {pn : List (Addr × Obj)} : ∀ {vs bs}, Pcs pn vs bs → ∀ (i : Nat) v, vs[i]? = some v → ∃ b, bs[i]? = some b ∧ PieceIn pn v b
  | _, _, .nil, i, v, h => by simp at h
  | _, _, .cons k r, 0, v, h => by
    simp only [List.getElem?_cons_zero, Option.some.injEq] at h
    subst h; exact ⟨_, rfl, k⟩
  | _, _, .cons k r, i + 1, v, h => by
    simp only [List.getElem?_cons_succ] at h
    obtain ⟨b, hb, hp⟩ := Pcs.at r i v h
    exact ⟨b, by simpa using hb, hp⟩
theorem bl_len (x : Int) (n : Nat) : (bl x n).length = n := by rw [bl, Array.length_toList, byteArr_size, beL_length]; omega
theorem Due.len {kind : Int} {b : List UInt8} {ds : List Value} (h : Due kind b ds) : b.length ≤ 18 := by
  cases h <;> simp only [List.length_append, List.length_cons, List.length_replicate, show ∀ x, (bl x 4).length = 4 from fun x => bl_len x 4, show ∀ x, (bl x 2).length = 2 from fun x => bl_len x 2, show ∀ x, (bl x 1).length = 1 from fun x => bl_len x 1] <;> omega
theorem Pcs.len {pn : List (Addr × Obj)} : ∀ {vs bs}, Pcs pn vs bs → bs.flatten.length ≤ 18 * bs.length
  | _, _, .nil => Nat.le_refl _
  | _, _, .cons k r => by
    obtain ⟨_, _, _, _, _, _, _, _, _, _, _, D⟩ := k
    have h1 := D.len
    have h2 := Pcs.len r
    simp only [List.flatten_cons, List.length_append, List.length_cons]
    omega
theorem fresh_new {g h : Heap} {L a : Addr} {m : Str → Option Value} (F : Fr g L h m) (ha : h.get? a = none) : a ≠ L ∧ g.get? a = none := by
  constructor
  · rintro rfl
    obtain ⟨oL, _, _, hL, _⟩ := F.ns
    rw [hL] at ha; cases ha
  · cases q : g.get? a with
    | none => rfl
    | some o => have := F.keep _ _ q; rw [ha] at this; cases this
theorem off_fresh {g h : Heap} {L a : Addr} {news : List (Addr × Obj)} {q : Addr × Obj} (N : News g L h news) (hq : q ∈ news) (ha : h.get? a = none) : q.1 ≠ a := fun e => by
  have := (N q hq).1
  rw [e, ha] at this; cases this
theorem fr_keptS {g h h' : Heap} {L : Addr} {m : Str → Option Value} {ex : List Addr} (F : Fr g L h m) (k : KeptS ex [L] h h') (hex : ∀ a ∈ ex, a ≠ L ∧ g.get? a = none) : Fr g L h' m := by
  refine ⟨?_, fun b o e => (k b o (F.keep b o e) fun q => ?_).1 fun q => ?_, F.above⟩
  · obtain ⟨oL, es, ep, hL, hd, r⟩ := F.ns
    obtain ⟨sl, hs⟩ := (k L oL hL fun q => (hex _ q).1 rfl).2 (by simp)
    exact ⟨_, es, ep, hs, hd, r⟩
  · rw [(hex _ q).2] at e; cases e
  · rw [List.mem_singleton.mp q, kts_self F] at e; cases e
theorem aftersS {g h h' : Heap} {L : Addr} {m : Str → Option Value} {ex : List Addr} {news news' rest : List (Addr × Obj)} (F : Fr g L h m) (N : News g L h news) (k : KeptS ex [L] h h') (hex : ∀ a ∈ ex, a ∈ news.map (·.1))
    (hr : ∀ q ∈ rest, q ∈ news ∧ q.1 ∉ ex) (hn : ∀ q ∈ news', q.1 ∈ ex ∧ h'.get? q.1 = some q.2) : Fr g L h' m ∧ News g L h' (news' ++ rest) := by
  have hx : ∀ a ∈ ex, a ≠ L ∧ g.get? a = none := fun a ha => by
    obtain ⟨q, hq, rfl⟩ := List.mem_map.mp (hex a ha)
    exact (N q hq).2
  refine ⟨fr_keptS F k hx, fun q hq => ?_⟩
  rcases List.mem_append.mp hq with hq | hq
  · exact ⟨(hn q hq).2, hx _ (hn q hq).1⟩
  · obtain ⟨q1, q2⟩ := hr q hq
    exact ⟨(k _ _ (N q q1).1 q2).1 fun z => (N q q1).2.1 (List.mem_singleton.mp z), (N q q1).2⟩
theorem piece_callN {w : World} {dp un : Nat} {outer : List Env} {s : Shared} {h₀ g : Heap} {L : Addr} {m : Str → Option Value} {news : List (Addr × Obj)} {upd : Obj → List (Addr × Obj)} {p : Program} {loose : List Str} {mean : ExcName → Option Value} {mg mb : Str → Option Value}
    {env : Env} {st ls : Addr} {vs : List Value} {ns : List Int} {k : Int} {tk : Tok} {n nl : Nat} {Q E : Value → Shared → Prop}
    (X : (Mine.hd.heap_39 w.params).In h₀) (T : Top p loose mean mg mb h₀) (B : Below (amb dp un outer) h₀ outer g) (F : Fr g L s.heap m) (N : News g L s.heap news) (U : UpdF st (listOf #[.ref ls, .int k tk] n) news upd)
    (hls : (ls, listOf vs.toArray nl) ∈ news) (hne : ls ≠ st) (hI : IntsAre vs ns) (hlen : ns.length ≤ 63) (hk : 0 ≤ k) (hf : env.frame = some L) (hkd : env.scope.kind = .function) (hd : dp + 19 < recursionLimit) (hu : un + 99 < cLine)
    (h : ∀ kind b ds a d ta tb n₁ n₂ h' k' tk' n' tok, Due kind b ds → 0 ≤ k' → (∀ q ∈ news, @Ne Nat q.1 a ∧ @Ne Nat q.1 d) → Fr g L h' m →
      News g L h' ((a, tupOf #[.int kind ta, .bytes b.toArray tb, .ref d] n₁) :: (d, tupOf (List.toArray ds) n₂) :: upd (listOf #[.ref ls, .int k' tk'] n')) → Q (.ref a) { s with heap := h', toks := tok }) :
    wpAny (model PySem.Challenge.rw_ej5024_01.row.prog w) ((amb dp un outer).deeper env) (call (.ref 210) [.ref st]) Q E s := by
  have hls' : s.heap.IsList ls vs.toArray := ⟨_, (N _ hls).1, rfl, _, rfl⟩
  obtain ⟨pre, post, rfl, hupd, h1, h2⟩ := U.split
  have D := N (st, listOf #[.ref ls, .int k tk] n) (by simp)
  refine wpAny_call (codeAny_mono (piece_c (dp := dp + 1) (un := un + 3) (outer := env :: outer) X T (Grd.push (ex := [st]) B F N hf hkd (by simp)) ⟨k, tk, n, hk, D.1⟩ hls' hI hne hlen (by omega) (by omega)) ?_)
  rintro r s' ⟨v, h', tok, rfl, rfl, hkp, ⟨kind, b, ds, a, d, ta, tb, n₁, n₂, rfl, ha, hd', hD, fa, fd⟩, k', tk₂, n', hk', hst'⟩
  have F9 := after F N (Upd.mk h1 h2) hkp hst'
  have nL : ∀ x, s.heap.get? x = none → x ≠ L ∧ g.get? x = none := fun x hx => by
    constructor
    · rintro rfl
      obtain ⟨oL, _, _, hL, _⟩ := F.ns
      rw [hL] at hx; cases hx
    · cases q : g.get? x with
      | none => rfl
      | some o => have := F.keep _ _ q; rw [hx] at this; cases this
  refine h kind b ds a d ta tb n₁ n₂ h' k' tk₂ n' tok hD hk' (fun q hq => ?_) F9.1 ?_
  · have hq' := (N q hq).1
    constructor
    · rintro rfl; rw [hq'] at fa; cases fa
    · rintro rfl; rw [hq'] at fd; cases fd
  · rw [hupd]
    exact news_put (nL a fa).1 (nL a fa).2 ha (news_put (nL d fd).1 (nL d fd).2 hd' F9.2)
end Mine
end PartM2
section PartM3
open PySem PySem.W PyProof.Rows PySem.Calls PySem.Builtin
set_option Elab.async false
set_option maxRecDepth 100000
set_option maxHeartbeats 8000000
namespace Mine
local macro_rules | `(tactic| k_room) => `(tactic| ktr_room)
local macro_rules | `(tactic| k_units) => `(tactic| ktr_units)
local macro_rules | `(tactic| k_all) => `(tactic| assumption)
local macro_rules | `(tactic| walk_at "call ref") => `(tactic| (k_here; (with_reducible show wpAny _ _ (PySem.call (Value.ref 191) _) _ _ _); k_dflt (refine' next_callN ?X ?T ?B ?F ?N ?U ?ls ?ne ?I ?len ?k ?f ?kd ?lim ?d ?u ?_; (case F => k_asm); (case N => k_asm); (case B => k_asm); (case X => assumption); (case T => assumption); (case U => k_updF); (case ls => k_mem); (case ne => (refine neN ?_; omega)); (case I => k_asm); (case len => k_asm); (case k => omega); (case f => rfl); (case kd => rfl); (case lim => first | omega | decide); (case d => omega); (case u => omega)); intro i9 t9 h9 k9 tk9 n9 tok9 hi9 hj9 hk9 F9 N9; (try dsimp only at N9)))
local macro_rules | `(tactic| walk_at "call ref") => `(tactic| (k_here; (with_reducible show wpAny _ _ (PySem.call (Value.ref 210) _) _ _ _); k_dflt (refine' piece_callN ?X ?T ?B ?F ?N ?U ?ls ?ne ?I ?len ?k ?f ?kd ?d ?u ?_; (case F => k_asm); (case N => k_asm); (case B => k_asm); (case X => assumption); (case T => assumption); (case U => k_updF); (case ls => k_mem); (case ne => (refine neN ?_; omega)); (case I => k_asm); (case len => k_asm); (case k => omega); (case f => rfl); (case kd => rfl); (case d => omega); (case u => omega)); intro kind9 b9 ds9 a9 d9 ta9 tb9 n19 n29 h9 k9 tk9 n9 tok9 hD9 hk9 hn9 F9 N9; (try dsimp only at N9)))
local macro_rules | `(tactic| walk_at "call builtin:len") => `(tactic| (k_here; (with_reducible show wpAny _ _ (PySem.call (Value.builtin "len") [Value.bytes _ _]) _ _ _); (refine len_bytes (by (rw [List.size_toArray]; omega)) ?_)))
local macro_rules | `(tactic| walk_at "call ref") => `(tactic| (k_here; (with_reducible show wpAny _ _ (PySem.call (Value.ref 217) _) _ _ _); k_dflt (refine' good_call ?X ?T ?B ?F ?N ?e ?D ?f ?kd ?d ?u ?_; (case F => k_asm); (case N => k_asm); (case B => k_asm); (case X => assumption); (case T => assumption); (case D => assumption); (case e => exact News.get (by assumption) (by k_mem)); (case f => rfl); (case kd => rfl); (case d => omega); (case u => omega)); intro h9 tok9 F9 N9 kp9))
local macro_rules | `(tactic| walk_at "call type:bytes") => `(tactic| (k_here; (with_reducible show wpAny _ _ (PySem.call (Value.type "bytes") [Value.ref _]) _ _ _); k_dflt (refine' bytes_ba ?a ?z ?_; (case a => exact News.get (by assumption) (by k_mem)); (case z => assumption)); intro _ _))
theorem law_c {w : World} {dp un : Nat} {s : Shared} {h₀ : Heap} {p : Program} {loose : List Str} {mean : ExcName → Option Value} {mg mb : Str → Option Value}
    {ls : Addr} {vs : List Value} {ns : List Int}
    (X : (Mine.hd.heap_39 w.params).In h₀) (T : Top p loose mean mg mb h₀) (G : Grd h₀ [] [] s.heap) (hls : s.heap.IsList ls vs.toArray) (hI : IntsAre vs ns) (hlen : ns.length ≤ 63)
    (hd : dp + 99 < recursionLimit) (hu : un + 900 < cLine) :
    codeC (model PySem.Challenge.rw_ej5024_01.row.prog w) (amb dp un []) (.call (.ref 229) ⟨[.ref ls], []⟩) (RetP s [] fun v _ => v = .bool true) s := by
  revert X; k_fill; intro X
  refine' enterWC (news := []) (binds := [("script", .ref ls)]) X T G ?_ ?ho ?hcd ?hroom ?hbind ?hkind ?hnd ?body ?c2 ?c3 ?c4
  case ho => k_is
  case hcd => k_is
  case hroom => omega
  case hbind => exact BindsTo.of_eq rfl
  case hkind => rfl
  case hnd => decide +kernel
  case c2 => rfl
  case c3 => rfl
  case c4 => rfl
  · intro q hq; cases hq
  intro g L' h₁ tk cells B X' T' hkp hsub F N Y l1
  have hlg : g.IsList ls vs.toArray := by
    obtain ⟨o, ho, r⟩ := hls
    exact ⟨o, hkp _ _ ho (by simp), r⟩
  k_cells Y
  simp only [List.cons_append, List.nil_append] at N
  clear hsub G hls hkp l1
  refine wpC_execs_consA ?_
  k_steps
  rename_i oc9 dc9 cut ws h2 hIw hCw _ lt1 st h3 lt2 h4 oc F1 N1 dc
  clear oc9 dc9
  have hlw : (List.take 50 ns).length ≤ 63 := by omega
  obtain ⟨k0, tk0, n0, hk0, N2⟩ : ∃ k tk n, (0 : Int) ≤ k ∧ News g L' h4 [(L' + 1, oc), (cut, listOf ws.toArray 0), (st, listOf #[.ref cut, .int k tk] n)] :=
    ⟨0, _, 0, by decide, fun q hq => N1 q (by simp only [List.mem_cons, List.not_mem_nil, or_false] at hq ⊢; rcases hq with z | z | z <;> simp only [z, true_or, or_true]; exact .inl rfl)⟩
  clear N1
  obtain ⟨m1, F2⟩ : ∃ m, Fr g L' h4 m := ⟨_, F1⟩
  clear F1
  refine wpC_execs_consA ?_
  refine LCg.Assign_ListComp_U (F₀ := F2) (by rfl) (by with_unfolding_all rfl) (by with_unfolding_all rfl) (by decide) (by rfl) (by decide) (by rfl) (by rfl) (by rfl) ?_
  refine wpAny_mono (Q := IterP g L' m1 s cut (fun o => [(L' + 1, oc), (cut, listOf ws.toArray 0), (st, o)]) 1 8) ?_ (fun xv s₁ hx => ?_) (fun _ _ z => z)
  · k_steps
    rename IsRange _ _ _ _ _ _ _ _ => hR9
    exact ⟨_, _, _, _, _, _, _, _, _, _, rfl, rfl, by omega, by omega, by assumption, by assumption, by assumption, hR9⟩
  · obtain ⟨i, r, h5, tok5, k5, tk5, n5, t, u, v, rfl, rfl, hi0, hi8, hk5, F5, N5, hR⟩ := hx
    obtain ⟨r1, r2, r3⟩ := range_ok (b := i) (by omega) (by omega)
    refine LCg.CompSrc.range (n := i.toNat) rfl F5 N5 hR r1 r2 r3 fun g9 => ?_
    refine rest_I (fun ys news => ∃ k tk n pn bs, (0 : Int) ≤ k ∧ news = (L' + 1, oc) :: (cut, listOf ws.toArray 0) :: (st, listOf #[.ref cut, .int k tk] n) :: pn ∧ (∀ p ∈ pn, p.1 ≠ st) ∧ Pcs pn ys bs)
      (fun _ _ _ => trivial) (fun ys news v I oI C oC D m₂ h tk E' _ hinv hC hx F N off ne => ?_) i.toNat 0 [] _ ⟨k5, tk5, n5, [], [], hk5, rfl, (by simp), .nil⟩ rfl (fun ys news hinv hl => ?_)
    · obtain ⟨k, tk1, n, pn, bs, hk, rfl, hpn, hP⟩ := hinv
      simp only [LCg.Off3] at off
      clear F5 N5 hR N2 F2
      k_steps
      rename_i kind9 b9 ds9 a9 d9 ta9 tb9 n19 n29 h9 k9 tk9 n9 tok9 hD9 hk9 hn9 F9 N9
      have nI := hn9 _ (.head _)
      have nC := hn9 _ (.tail _ (.head _))
      have nD := hn9 _ (.tail _ (.tail _ (.head _)))
      have nst := hn9 (st, listOf #[.ref cut, .int k tk1] n) (by simp)
      refine ⟨_, _, (L' + 1, oc) :: (cut, listOf ws.toArray 0) :: (st, listOf #[.ref cut, .int k9 tk9] n9) :: (a9, tupOf #[.int kind9 ta9, .bytes b9.toArray tb9, .ref d9] n19) :: (d9, tupOf ds9.toArray n29) :: pn, rfl, F9,
        fun q hq => N9 q (by simp only [List.mem_cons] at hq ⊢; rcases hq with z | z | z | z | z | z | z | z | z <;> simp [z]), ?_, ⟨k9, tk9, n9, _, bs ++ [b9], hk9, rfl, fun q hq => ?_, ?_⟩⟩
      · exact ⟨off.1, off.2.1, off.2.2.1, ⟨nI.1.symm, nC.1.symm, nD.1.symm⟩, ⟨nI.2.symm, nC.2.symm, nD.2.symm⟩, off.2.2.2⟩
      · rcases List.mem_cons.mp hq with rfl | hq
        · exact nst.1.symm
        · rcases List.mem_cons.mp hq with rfl | hq
          · exact nst.2.symm
          · exact hpn q hq
      · exact Pcs.snoc ⟨kind9, ds9, a9, d9, ta9, tb9, n19, n29, rfl, .head _, .tail _ (.head _), hD9⟩ (hP.mono fun q hq => .tail _ (.tail _ hq))
    · intro D h tk F N o1
      obtain ⟨k, tk1, n, pn, bs, hk, rfl, hpn, hP⟩ := hinv
      dsimp only
      clear F5 N5 hR N2 F2
      simp only [LCg.Off1] at o1
      refine wpC_execs_consA ?_
      k_steps
      rename_i left tleft _ _ _ _ _ hlf0 hlf4 _ _ _ _
      refine wpC_execs_consA ?_
      k_steps
      rename_i bey tbey _ _ _ _ _ hby0 hby4 _ _ _ _
      rename Fr g L' _ _ => F6
      rename News g L' _ _ => N6
      obtain ⟨m2, hm2, F7⟩ := (⟨_, rfl, F6⟩ : ∃ m2, m2 = _ ∧ Fr g L' _ m2)
      clear F6
      refine wpC_execs_consA ?_
      refine LCg.Assign_ListComp_U (F₀ := F7) (by rfl) (by with_unfolding_all rfl) (by with_unfolding_all rfl) (by decide) (by rfl) (by decide) (by rfl) (by rfl) (by rfl) ?_
      refine wpAny_mono (Q := IterP g L' m2 s cut (fun o => (D, LCg.lst ys) :: (L' + 1, oc) :: (cut, listOf ws.toArray 0) :: (st, o) :: pn) 0 8) ?_ (fun xv s₁ hx => ?_) (fun _ _ z => z)
      · k_steps
        rename IsRange _ _ _ _ _ _ _ _ => hR9
        exact ⟨_, _, _, _, _, _, _, _, _, _, rfl, rfl, by omega, by omega, by assumption, by assumption, by assumption, hR9⟩
      · obtain ⟨i2, r, h5, tok5, k5, tk5, n5, t, u, v, rfl, rfl, hi20, hi28, hk5, F5, N5, hR⟩ := hx
        obtain ⟨r1, r2, r3⟩ := range_ok (b := i2) (by omega) (by omega)
        refine LCg.CompSrc.range (n := i2.toNat) rfl F5 N5 hR r1 r2 r3 fun g9 => ?_
        refine rest_I (fun ys2 news => ∃ k tk n ks, (0 : Int) ≤ k ∧ news = (D, LCg.lst ys) :: (L' + 1, oc) :: (cut, listOf ws.toArray 0) :: (st, listOf #[.ref cut, .int k tk] n) :: pn ∧ IntsAre ys2 ks ∧ ∀ q ∈ ks, (1 : Int) ≤ q)
          (fun _ _ _ => trivial) (fun ys2 news v I oI C oC D2 m₂ h tk E' _ hinv hC hx F N off ne => ?_) i2.toNat 0 [] _ ⟨k5, tk5, n5, [], hk5, rfl, .nil, (by simp)⟩ rfl (fun ys2 news hinv hl2 => ?_)
        · obtain ⟨k, tk1, n, ks, hk, rfl, hks, hk1⟩ := hinv
          simp only [LCg.Off3] at off
          clear F5 N5 hR N6 F7
          k_steps
          rename_i i9 t9 h9 k9 tk9 n9 tok9 hi9 hj9 hk9 F9 N9
          refine ⟨_, _, (D, LCg.lst ys) :: (L' + 1, oc) :: (cut, listOf ws.toArray 0) :: (st, listOf #[.ref cut, .int k9 tk9] n9) :: pn, rfl, F9, N9, off, ⟨k9, tk9, n9, ks ++ [1 + i9], hk9, rfl, IntsAre.append hks (IntsAre.cons _ _ .nil), fun q hq => ?_⟩⟩
          rcases List.mem_append.mp hq with hq | hq
          · exact hk1 q hq
          · rw [List.mem_singleton.mp hq]; omega
        · obtain ⟨k, tk1, n, ks, hk, rfl, hks, hk1⟩ := hinv
          subst hm2
          clear F5 N5 hR N6 F7
          intro D2 h tk F N o2
          simp only [LCg.Off1] at o2
          dsimp only at F ⊢
          have hbl : bs.length = ys.length := hP.length
          have hysl : ys.length ≤ 8 := by omega
          refine wpC_execs_consA (wpAny_Assign_Name (methodCall_KW (Constant_bytes (method_join ?_))))
          dsimp only
          refine callWith_builtin rfl (evalArgs_plain ?_)
          refine wpAny_items_cons (LCg.ListComp_U (F₀ := F) (by rfl) (by decide) (by rfl) (by decide) (by rfl) (nameX_L F rfl ?_))
          refine LCg.CompSrc.ledger (its := ys.toArray) rfl F N (by k_mem) (by rw [List.size_toArray]; exact Nat.le_trans hysl (by decide)) fun g9 => ?_
          refine rest_I (fun ys3 news => news = (D2, LCg.lst ys2) :: (D, LCg.lst ys) :: (L' + 1, oc) :: (cut, listOf ws.toArray 0) :: (st, listOf #[.ref cut, .int k tk1] n) :: pn ∧ ∀ (i : Nat) (b : List UInt8), i < ys3.length → bs[i]? = some b → ∃ tb, ys3[i]? = some (Value.bytes b.toArray tb))
            (fun ys3 news hh => by rw [hh.1]; exact .inr ⟨_, by k_mem, rfl, _, rfl⟩) (fun ys3 news v I oI C oC D3 m₂ h tk E' hpv hinv hC hx F N off ne => ?_) ys.toArray.size 0 [] _ ⟨rfl, fun i b hi => by cases hi⟩ rfl (fun ys3 news hinv hl3 => ?_)
          · obtain ⟨rfl, hoct⟩ := hinv
            obtain ⟨b, hb, kind, ds, a, d, ta, tb, n1, n2, rfl, ha, hd', hD⟩ := hP.at ys3.length v (by simpa using hpv)
            have N' : News g L' h ((a, tupOf #[.int kind ta, .bytes b.toArray tb, .ref d] n1) :: (I, oI) :: (C, oC) :: (D3, LCg.lst ys3) :: (D2, LCg.lst ys2) :: (D, LCg.lst ys) :: (L' + 1, oc) :: (cut, listOf ws.toArray 0) :: (st, listOf #[.ref cut, .int k tk1] n) :: pn) := fun q hq => by
              rcases List.mem_cons.mp hq with rfl | hq
              · exact N _ (by simp [ha])
              · exact N q hq
            k_steps
            refine ⟨h, _, _, rfl, F, N, off, rfl, fun i' b' hi' hb' => ?_⟩
            rcases Nat.lt_or_ge i' ys3.length with hlt | hge
            · obtain ⟨tb', e⟩ := hoct i' b' hlt hb'
              exact ⟨tb', by rw [List.getElem?_append_left hlt]; exact e⟩
            · rw [List.length_append, List.length_singleton] at hi'
              obtain rfl : i' = ys3.length := by omega
              rw [hb] at hb'
              cases hb'
              exact ⟨tb, by simp⟩
          · obtain ⟨rfl, hoct⟩ := hinv
            intro D3 h tk F N o3
            refine wpAny_items_nil ?_
            dsimp only [List.cons_append, List.nil_append]
            rw [List.size_toArray] at hl3
            have hfl : bs.flatten.length ≤ 144 := by have := hP.len; omega
            refine join_list bs (N _ (.head _)).1 rfl rfl (by omega) (fun i b hb => hoct i b (by
              rcases Nat.lt_or_ge i bs.length with h | h
              · omega
              · rw [List.getElem?_eq_none h] at hb; cases hb) hb) (Nat.le_trans hfl (by decide)) fun tw tkw => ?_
            k_steps
            rename News g L' _ _ => N7
            rename Fr g L' _ _ => F7
            refine wpC_execs_cons (wpC_Assign_Name (wpC_Call ?_))
            k_steps
            refine wpC_callWith_K (K := Mine.hd.heap_39 w.params) ?hk ?_
            case hk => k_is
            k_steps
            have hzl : ∀ q : UInt8, ((List.replicate left.toNat [q]).flatten).length = left.toNat := fun q => by rw [rep_flat, List.length_replicate]
            refine bytes_add_K (by rw [List.size_toArray, List.size_toArray, hzl]; omega) rfl fun tz kz => ?_
            obtain ⟨zs, hzs⟩ : ∃ zs, zs = (List.replicate left.toNat [(122 : UInt8)]).flatten := ⟨_, rfl⟩
            have hzn : zs.length = left.toNat := by rw [hzs, hzl]
            rw [show (List.replicate left.toNat [_]).flatten = zs from hzs.symm]
            k_steps
            refine callC_of (tube_c (dp := dp + 1) (un := un + 3) (outer := [_]) X T (Grd.push (ex := []) B F7 N7 rfl rfl (by simp)) ⟨_, (N7 _ (.tail _ (.head _))).1, rfl, _, rfl⟩ hks hk1 (by rw [← hks.length]; omega) (by omega) (by omega)) fun v h8 tk8 kp8 hp => ?_
            obtain ⟨x, dx, sl, es, rfl, fx, fdx, fsl, fes, ⟨t1, t2, t3, tb, hx, hdx⟩, hS, hE⟩ := hp
            obtain ⟨ol, hol, hso⟩ := hS.obj
            have F8 := fr_kept0 F7 kp8
            have q1 := fresh_new F7 fx
            have q2 := fresh_new F7 fdx
            have q3 := fresh_new F7 fsl
            have sub8 : ∀ q ∈ (D, LCg.lst ys) :: pn, q ∈ (D3, LCg.lst ys3) :: (D2, LCg.lst ys2) :: (D, LCg.lst ys) :: (L' + 1, oc) :: (cut, listOf ws.toArray 0) :: (st, listOf #[.ref cut, .int k tk1] n) :: pn := fun q hq => by
              simp only [List.mem_cons] at hq ⊢; rcases hq with z | z <;> simp [z]
            have N8 : News g L' h8 ((x, instObj 180 dx) :: (dx, tubeDict w.params t1 t2 t3 (.bytes (bs.flatten ++ zs).toArray tb) sl es) :: (sl, ol) :: (D, LCg.lst ys) :: pn) :=
              news_put q1.1 q1.2 hx (news_put q2.1 q2.2 hdx (news_put q3.1 q3.2 hol fun q hq => news_kept0 N7 kp8 q (sub8 q hq)))
            have ox : ∀ q ∈ (D, LCg.lst ys) :: pn, q.1 ≠ x ∧ q.1 ≠ dx := fun q hq => ⟨off_fresh N7 (sub8 q hq) fx, off_fresh N7 (sub8 q hq) fdx⟩
            clear F7 N7 kp8 fx fdx fsl fes hx hdx hol q1 q2 q3 hS hE sub8
            k_steps
            refine wpC_execs_cons (wpC_Assign_Name (wpC_Call ?_))
            k_steps
            refine wpC_callWith_K (K := Mine.hd.heap_39 w.params) ?hk ?_
            case hk => k_is
            k_steps
            rename News g L' _ _ => N7
            rename Fr g L' _ _ => F7
            refine callC_of (tube_c (us := []) (ks := []) (dp := dp + 1) (un := un + 3) (outer := [_]) X T (Grd.push (ex := []) B F7 N7 rfl rfl (by simp)) ⟨_, (N7 _ (.head _)).1, rfl, _, rfl⟩ .nil (by simp) (by simp) (by omega) (by omega)) fun v h8 tk8 kp8 hp => ?_
            obtain ⟨x2, dx2, sl2, es2, rfl, fx, fdx, fsl, fes, ⟨v1, v2, v3, vb, hx, hdx⟩, hS, hE⟩ := hp
            have F8 := fr_kept0 F7 kp8
            have q1 := fresh_new F7 fx
            have q2 := fresh_new F7 fdx
            have q3 := fresh_new F7 fes
            have ne2 : ∀ q ∈ (x, instObj 180 dx) :: (dx, tubeDict w.params t1 t2 t3 (.bytes (bs.flatten ++ zs).toArray tb) sl es) :: (sl, ol) :: (D, LCg.lst ys) :: pn, q.1 ≠ x2 ∧ q.1 ≠ dx2 ∧ q.1 ≠ es2 :=
              fun q hq => ⟨off_fresh N7 (.tail _ hq) fx, off_fresh N7 (.tail _ hq) fdx, off_fresh N7 (.tail _ hq) fes⟩
            have N8 : News g L' h8 ((x2, instObj 180 dx2) :: (dx2, tubeDict w.params v1 v2 v3 (.bytes #[] vb) sl2 es2) :: (es2, baOf #[]) :: (x, instObj 180 dx) :: (dx, tubeDict w.params t1 t2 t3 (.bytes (bs.flatten ++ zs).toArray tb) sl es) :: (sl, ol) :: (D, LCg.lst ys) :: pn) :=
              news_put q1.1 q1.2 hx (news_put q2.1 q2.2 hdx (news_put q3.1 q3.2 hE fun q hq => news_kept0 N7 kp8 q (.tail _ hq)))
            have xx := ne2 _ (.head _)
            have dxx := ne2 _ (.tail _ (.head _))
            have Dx := ne2 _ (.tail _ (.tail _ (.tail _ (.head _))))
            have px := fun q hq => ne2 q (.tail _ (.tail _ (.tail _ (.tail _ hq))))
            have Dx0 := ox _ (.head _)
            have px0 := fun q hq => ox q (.tail _ hq)
            dsimp only at xx dxx Dx Dx0
            clear F7 N7 kp8 fx fdx fsl fes hx hdx q1 q2 q3 hS hE ne2 ox
            k_steps
            rename News g L' _ _ => N7
            rename Fr g L' _ _ => F7
            refine wpC_execs_cons (wpC_For (nameX_L F7 rfl ?_))
            refine wpAny_pyIter_list ⟨_, News.get N7 (by k_mem), rfl, _, rfl⟩ ?_
            obtain ⟨m3, hm3, F8⟩ := (⟨_, rfl, F7⟩ : ∃ m3, m3 = _ ∧ Fr g L' _ m3)
            rename_i hh
            have F9 := F8.push { cls := .type "list_iterator", data := .fields #[.ref D, .int 0 0] }
            have N9 := N7.push F8 { cls := .type "list_iterator", data := .fields #[.ref D, .int 0 0] }
            have oI := fun q hq => Nat.ne_of_lt (Heap.lt_size (N7 q hq).1)
            have i1 := oI _ (.head _)
            have i2 := oI _ (.tail _ (.head _))
            have i3 := oI _ (.tail _ (.tail _ (.head _)))
            have i4 := oI _ (.tail _ (.tail _ (.tail _ (.head _))))
            have i5 := oI _ (.tail _ (.tail _ (.tail _ (.tail _ (.head _)))))
            have i6 := oI _ (.tail _ (.tail _ (.tail _ (.tail _ (.tail _ (.tail _ (.head _)))))))
            have i7 := fun q hq => oI q (.tail _ (.tail _ (.tail _ (.tail _ (.tail _ (.tail _ (.tail _ hq)))))))
            clear F7 F8 N7 oI
            dsimp only at i1 i2 i3 i4 i5 i6 i7 F9 N9 ⊢
            generalize hIe : hh.objs.size = I at i1 i2 i3 i4 i5 i6 i7 N9 ⊢
            refine codeC_for (fun mm st => ∃ j h tk vb' vd vo vk oI sl ol t1 t2 t3 tb v1 v2 v3 vb, st = { s with heap := h, toks := tk } ∧ mm = ys.length - j ∧ j ≤ ys.length ∧ SizesObj ol ∧ oI.cls = .type "list_iterator" ∧ oI.data = .fields #[.ref D, .int j 0] ∧
              Fr g L' h (fun y => if y = "block" then vb' else if y = "due" then vd else if y = "octets" then vo else if y = "kind" then vk else m3 y) ∧
              News g L' h ((I, oI) :: (x2, instObj 180 dx2) :: (dx2, tubeDict w.params v1 v2 v3 (.bytes #[] vb) sl2 es2) :: (es2, baOf (bs.take j).flatten.toArray) :: (x, instObj 180 dx) ::
                (dx, tubeDict w.params t1 t2 t3 (.bytes ((bs.drop j).flatten ++ zs).toArray tb) sl es) :: (sl, ol) :: (D, LCg.lst ys) :: pn)) ?turn ys.length ?init
            case init =>
              refine ⟨0, _, _, m3 "block", m3 "due", m3 "octets", m3 "kind", _, sl, ol, t1, t2, t3, tb, v1, v2, v3, vb, rfl, rfl, Nat.zero_le _, hso, rfl, rfl, ?_, N9⟩
              refine Eq.mp (congrArg (Fr g L' _) (funext fun y => ?_)) F9
              by_cases h1 : y = "block"
              · subst h1; rfl
              by_cases h2 : y = "due"
              · subst h2; rfl
              by_cases h3 : y = "octets"
              · subst h3; rfl
              by_cases h4 : y = "kind"
              · subst h4; rfl
              simp only [if_neg h1, if_neg h2, if_neg h3, if_neg h4]
            case turn =>
              clear N9 F9 hso
              rintro mm st ⟨j, h, tk, vb', vd, vo, vk, oI, sl, ol, t1, t2, t3, tb, v1, v2, v3, vb, rfl, rfl, hj, hso, hoc, hod, F, N⟩
              have sI : sl ≠ I := hso.ne (N (sl, ol) (by k_mem)).1 (N (I, oI) (.head _)).1 (fun e => by rw [hoc] at e; exact absurd (Value.type.inj e) (by decide))
              have kI : ∀ h' oI', Kept [I] h h' → h'.get? I = some oI' → Fr g L' h' (fun y => if y = "block" then vb' else if y = "due" then vd else if y = "octets" then vo else if y = "kind" then vk else m3 y) ∧
                  News g L' h' ([(I, oI')] ++ (x2, instObj 180 dx2) :: (dx2, tubeDict w.params v1 v2 v3 (.bytes #[] vb) sl2 es2) :: (es2, baOf (bs.take j).flatten.toArray) :: (x, instObj 180 dx) ::
                    (dx, tubeDict w.params t1 t2 t3 (.bytes ((bs.drop j).flatten ++ zs).toArray tb) sl es) :: (sl, ol) :: (D, LCg.lst ys) :: pn) := fun h' oI' kp ho' => by
                refine afters F N kp (by simp) (fun q hq => ⟨.tail _ hq, fun hm => ?_⟩) (fun q hq => by rw [List.mem_singleton.mp hq]; exact ⟨.head _, ho'⟩)
                have hm' := List.mem_singleton.mp hm
                simp only [List.mem_cons] at hq
                rcases hq with rfl | rfl | rfl | rfl | rfl | rfl | rfl | hq
                · exact i1 hm'
                · exact i2 hm'
                · exact i3 hm'
                · exact i4 hm'
                · exact i5 hm'
                · exact sI hm'
                · exact i6 hm'
                · exact i7 q hq hm'
              by_cases hlt : j < ys.length
              · obtain ⟨b, hb, kind, ds, a, d, ta, tb0, n1, n2, hv, ha, hd', hD⟩ := hP.at j ys[j] (List.getElem?_eq_getElem hlt)
                have hjb : j < bs.length := by omega
                rw [List.getElem?_eq_getElem hjb] at hb
                have hbs : (bs.drop j).flatten = b ++ (bs.drop (j + 1)).flatten := by rw [List.drop_eq_getElem_cons hjb, Option.some.inj hb, List.flatten_cons]
                have hbt : (bs.take (j + 1)).flatten = (bs.take j).flatten ++ b := by rw [List.take_succ_eq_append_getElem hjb, Option.some.inj hb, List.flatten_append]; simp
                have hblen := hD.len
                refine wpAny_pyNext_list_item (l := D) (i := j) (x := ys[j]) (items := ys.toArray) ⟨oI, (N (I, oI) (.head _)).1, hoc, hod⟩ ⟨_, (N (D, LCg.lst ys) (by k_mem)).1, rfl, _, rfl⟩ (by simp [hlt]) fun h' hit sb => ?_
                obtain ⟨oI', hoI', hoc', hod'⟩ := hit
                obtain ⟨F1, N1⟩ := kI h' oI' (fun q o e hq => sb.extBut q o (by simpa using hq) e) hoI'
                clear F N kI
                rw [hv]
                refine letOwned_list hoI' hoc' ?_
                rw [hbs] at N1
                have N2 : News g L' h' ((a, tupOf #[.int kind ta, .bytes b.toArray tb0, .ref d] n1) :: (I, oI') :: (x2, instObj 180 dx2) :: (dx2, tubeDict w.params v1 v2 v3 (.bytes #[] vb) sl2 es2) :: (es2, baOf (bs.take j).flatten.toArray) :: (x, instObj 180 dx) ::
                    (dx, tubeDict w.params t1 t2 t3 (.bytes (b ++ (bs.drop (j + 1)).flatten ++ zs).toArray tb) sl es) :: (sl, ol) :: (D, LCg.lst ys) :: pn) := fun q hq => by
                  rcases List.mem_cons.mp hq with rfl | hq
                  · exact N1 _ (by simp [ha])
                  · exact N1 q hq
                clear N1
                subst hm3
                k_steps
                rename News g L' _ _ => N3
                rename Fr g L' _ _ => F3
                have N4 : News g L' _ _ := fun q hq => N3 q (List.mem_cons_of_mem _ hq)
                clear N3
                refine wpC_execs_cons (wpC_Assign_Name (wpC_Call ?_))
                k_steps
                refine wpC_callWith_K (K := Mine.hd.heap_39 w.params) ?hk ?_
                case hk => k_is
                k_steps
                have hdl : (bs.drop j).flatten.length ≤ 144 := by
                  have := congrArg List.length (congrArg List.flatten (List.take_append_drop j bs))
                  rw [List.flatten_append, List.length_append] at this
                  omega
                rw [hbs, List.length_append] at hdl
                refine wpC_call (codeC_mono (read2_c (n := b.length) (dp := dp + 1) (un := un + 3) (outer := [_]) X T (Grd.push (ex := [x, dx]) B F3 N4 rfl rfl (by simp)) ⟨t1, t2, t3, tb, News.get N4 (by k_mem), News.get N4 (by k_mem)⟩
                  (SizesAt.of (N4 (sl, ol) (by k_mem)).1 hso) (by simp only [List.length_append]; omega) (by omega) (kts_push ktsDicts_nil F3 N4 rfl (by simp)) (by omega) (by omega)) fun r s' hr => ?_)
                obtain ⟨v, h6, tk6, rfl, rfl, kp6, tb', sl', rfl, ⟨u1, u2, u3, ub, hx6, hdx6⟩, hS6, fsl⟩ := hr.1 (by simp only [List.length_append]; omega)
                clear hr
                rw [List.append_assoc, List.drop_left] at hdx6
                rw [List.append_assoc, List.take_left]
                obtain ⟨ol', hol', hso'⟩ := hS6.obj
                obtain ⟨F6, N6⟩ := afters (ex := [x, dx]) (news' := [(x, instObj 180 dx), (dx, tubeDict w.params u1 u2 u3 (.bytes ((bs.drop (j + 1)).flatten ++ zs).toArray ub) sl' es)])
                  (rest := (I, oI') :: (x2, instObj 180 dx2) :: (dx2, tubeDict w.params v1 v2 v3 (.bytes #[] vb) sl2 es2) :: (es2, baOf (bs.take j).flatten.toArray) :: (D, LCg.lst ys) :: pn) F3 N4 kp6 (by simp)
                  (fun q hq => ⟨by simp only [List.mem_cons] at hq ⊢; rcases hq with z | z | z | z | z | z <;> simp [z], fun hm => by
                    simp only [List.mem_cons, List.not_mem_nil, or_false] at hm
                    simp only [List.mem_cons] at hq
                    rcases hq with rfl | rfl | rfl | rfl | rfl | hq
                    · exact hm.elim (fun e => i4 e.symm) (fun e => i5 e.symm)
                    · exact hm.elim (fun e => xx.1 e.symm) (fun e => dxx.1 e.symm)
                    · exact hm.elim (fun e => xx.2.1 e.symm) (fun e => dxx.2.1 e.symm)
                    · exact hm.elim (fun e => xx.2.2 e.symm) (fun e => dxx.2.2 e.symm)
                    · exact hm.elim Dx0.1 Dx0.2
                    · exact hm.elim (px0 q hq).1 (px0 q hq).2⟩) (by simp [hx6, hdx6])
                have fs := fresh_new F3 fsl
                have N7 : News g L' h6 ((d, tupOf ds.toArray n2) :: (sl', ol') :: (x, instObj 180 dx) :: (dx, tubeDict w.params u1 u2 u3 (.bytes ((bs.drop (j + 1)).flatten ++ zs).toArray ub) sl' es) ::
                    (I, oI') :: (x2, instObj 180 dx2) :: (dx2, tubeDict w.params v1 v2 v3 (.bytes #[] vb) sl2 es2) :: (es2, baOf (bs.take j).flatten.toArray) :: (D, LCg.lst ys) :: pn) := fun q hq => by
                  rcases List.mem_cons.mp hq with rfl | hq
                  · exact N6 _ (by simp [hd'])
                  · exact news_put fs.1 fs.2 hol' N6 q hq
                clear N6 N4 F3 kp6 fsl fs hx6 hdx6 hS6 hol'
                k_steps
                refine wpC_execs_consA ?_
                k_steps
                · rename_i hbad
                  exact absurd hbad (by simp)
                · rename_i _ h9 tok9 F9 N9 kp9
                  clear kp9
                  show wpC _ _ _ _ _ _
                  refine wpC_execs_cons (wpC_Expr (wpC_Call ?_))
                  k_steps
                  refine wpC_callWith_K (K := Mine.hd.heap_39 w.params) ?hk ?_
                  case hk => k_is
                  k_steps
                  have htl : (bs.take j).flatten.length ≤ 144 := by
                    have := congrArg List.length (congrArg List.flatten (List.take_append_drop j bs))
                    rw [List.flatten_append, List.length_append] at this
                    omega
                  refine callC_of (write2_c (dp := dp + 1) (un := un + 3) (outer := [_]) X T (Grd.push (ex := [x2, dx2, es2]) B F9 N9 rfl rfl (by simp)) ⟨v1, v2, v3, vb, News.get N9 (by k_mem), News.get N9 (by k_mem)⟩ (News.get N9 (by k_mem))
                    (by rw [List.size_toArray, List.size_toArray]; exact Nat.le_trans (show _ ≤ 200 by omega) (by decide)) (by omega) (by omega)) fun v h7 tk7 kp7 hp => ?_
                  obtain ⟨rfl, ⟨y1, y2, y3, yb, hx7, hdx7⟩, he7⟩ := hp
                  have s1 : sl' ≠ x2 := hso'.ne (N9 (sl', ol') (by k_mem)).1 (N9 (x2, instObj 180 dx2) (by k_mem)).1 (fun e => by cases e)
                  have s2 : sl' ≠ dx2 := hso'.ne (N9 (sl', ol') (by k_mem)).1 (N9 (dx2, tubeDict w.params v1 v2 v3 (.bytes #[] vb) sl2 es2) (by k_mem)).1 (fun e => absurd (Value.type.inj e) (by decide))
                  have s3 : sl' ≠ es2 := hso'.ne (N9 (sl', ol') (by k_mem)).1 (N9 (es2, baOf (bs.take j).flatten.toArray) (by k_mem)).1 (fun e => absurd (Value.type.inj e) (by decide))
                  obtain ⟨F10, N10⟩ := afters (ex := [x2, dx2, es2]) (news' := [(x2, instObj 180 dx2), (dx2, tubeDict w.params y1 y2 y3 (.bytes #[] yb) sl2 es2), (es2, baOf ((bs.take j).flatten.toArray ++ b.toArray))])
                    (rest := (sl', ol') :: (x, instObj 180 dx) :: (dx, tubeDict w.params u1 u2 u3 (.bytes ((bs.drop (j + 1)).flatten ++ zs).toArray ub) sl' es) :: (I, oI') :: (D, LCg.lst ys) :: pn) F9 N9 kp7 (by simp)
                    (fun q hq => ⟨by simp only [List.mem_cons] at hq ⊢; rcases hq with z | z | z | z | z | z <;> simp [z], fun hm => by
                      simp only [List.mem_cons, List.not_mem_nil, or_false] at hm
                      simp only [List.mem_cons] at hq
                      rcases hq with rfl | rfl | rfl | rfl | rfl | hq
                      · exact hm.elim s1 fun hm => hm.elim s2 s3
                      · exact hm.elim xx.1 fun hm => hm.elim xx.2.1 xx.2.2
                      · exact hm.elim dxx.1 fun hm => hm.elim dxx.2.1 dxx.2.2
                      · exact hm.elim (fun e => i1 e.symm) fun hm => hm.elim (fun e => i2 e.symm) (fun e => i3 e.symm)
                      · exact hm.elim Dx.1 fun hm => hm.elim Dx.2.1 Dx.2.2
                      · exact hm.elim (px q hq).1 fun hm => hm.elim (px q hq).2.1 (px q hq).2.2⟩) (by simp [hx7, hdx7, he7])
                  rw [List.append_toArray, ← hbt] at N10
                  refine ⟨fun a e => (by cases e), wpC_execs_nil ⟨ys.length - (j + 1), by omega, j + 1, h7, _, some (.bytes b.toArray tb'), some (.ref d), some (.bytes b.toArray tb0), some (.int kind ta), oI', sl', ol', u1, u2, u3, ub, y1, y2, y3, yb, rfl, rfl, hlt, hso', hoc', hod', ?_,
                    fun q hq => N10 q (by simp only [List.mem_cons, List.mem_append, List.not_mem_nil, or_false] at hq ⊢; rcases hq with z | z | z | z | z | z | z | z | z <;> simp [z])⟩⟩
                  refine Eq.mp (congrArg (Fr g L' _) (funext fun y => ?_)) F10
                  by_cases h1 : y = "block"
                  · subst h1; rfl
                  by_cases h2 : y = "due"
                  · subst h2; rfl
                  by_cases h3 : y = "octets"
                  · subst h3; rfl
                  by_cases h4 : y = "kind"
                  · subst h4; rfl
                  simp only [if_neg h1, if_neg h2, if_neg h3, if_neg h4]
              · have hjl : j = ys.length := by omega
                subst hjl
                refine wpAny_pyNext_list_end (l := D) (i := ys.length) (items := ys.toArray) rfl ⟨oI, (N (I, oI) (.head _)).1, hoc, hod⟩ ⟨_, (N (D, LCg.lst ys) (by k_mem)).1, rfl, _, rfl⟩ (by simp) fun h' he => ?_
                have kp : Kept [I] h h' := fun q o e hq => he q o (by simpa using hq) e
                have F1 := fr_kept F kp (fun a ha => by rw [List.mem_singleton.mp ha]; exact (N (I, oI) (.head _)).2)
                have N1 : News g L' h' ((x2, instObj 180 dx2) :: (dx2, tubeDict w.params v1 v2 v3 (.bytes #[] vb) sl2 es2) :: (es2, baOf bs.flatten.toArray) :: (x, instObj 180 dx) ::
                    (dx, tubeDict w.params t1 t2 t3 (.bytes zs.toArray tb) sl es) :: (sl, ol) :: []) := by
                  rw [← hbl, List.take_length, List.drop_length, List.flatten_nil, List.nil_append] at N
                  refine news_kept (fun q hq => N q (by simp only [List.mem_cons, List.not_mem_nil, or_false] at hq ⊢; rcases hq with z | z | z | z | z | z <;> simp [z])) kp (fun q hq hm => ?_)
                  have hm' := List.mem_singleton.mp hm
                  simp only [List.mem_cons, List.not_mem_nil, or_false] at hq
                  rcases hq with rfl | rfl | rfl | rfl | rfl | rfl
                  · exact i1 hm'
                  · exact i2 hm'
                  · exact i3 hm'
                  · exact i4 hm'
                  · exact i5 hm'
                  · exact sI hm'
                clear F N kI kp he
                refine wpAny_execs_nil ?_
                show wpC _ _ _ _ _ _
                subst hm3
                refine wpC_execs_cons (wpC_If (wpC_isTrue_Or_cons (wpC_isTrue_Compare1 (wpC_Call ?_))))
                k_steps
                refine wpC_callWith_K (K := Mine.hd.heap_39 w.params) ?hk ?_
                case hk => k_is
                k_steps
                refine wpC_call (codeC_mono (read2_c (n := 0) (dp := dp + 1) (un := un + 3) (outer := [_]) X T (Grd.push (ex := [x, dx]) B F1 N1 rfl rfl (by simp)) ⟨t1, t2, t3, tb, News.get N1 (by k_mem), News.get N1 (by k_mem)⟩
                  (SizesAt.of (N1 (sl, ol) (by k_mem)).1 hso) (by omega) (by omega) (kts_push ktsDicts_nil F1 N1 rfl (by simp)) (by omega) (by omega)) fun r s' hr => ?_)
                obtain ⟨v, h6, tk6, rfl, rfl, kp6, tb', sl', rfl, ⟨u1, u2, u3, ub, hx6, hdx6⟩, hS6, fsl⟩ := hr.1 (Nat.zero_le _)
                clear hr
                rw [List.drop_zero] at hdx6
                rw [List.take_zero]
                obtain ⟨ol', hol', hso'⟩ := hS6.obj
                have fs := fresh_new F1 fsl
                obtain ⟨F6, N6⟩ := afters (ex := [x, dx]) (news' := [(x, instObj 180 dx), (dx, tubeDict w.params u1 u2 u3 (.bytes zs.toArray ub) sl' es)])
                  (rest := [(x2, instObj 180 dx2), (dx2, tubeDict w.params v1 v2 v3 (.bytes #[] vb) sl2 es2), (es2, baOf bs.flatten.toArray)]) F1 N1 kp6 (by simp)
                  (fun q hq => ⟨by simp only [List.mem_cons, List.not_mem_nil, or_false] at hq ⊢; rcases hq with z | z | z <;> simp [z], fun hm => by
                    simp only [List.mem_cons, List.not_mem_nil, or_false] at hm
                    simp only [List.mem_cons, List.not_mem_nil, or_false] at hq
                    rcases hq with rfl | rfl | rfl
                    · exact hm.elim (fun e => xx.1 e.symm) (fun e => dxx.1 e.symm)
                    · exact hm.elim (fun e => xx.2.1 e.symm) (fun e => dxx.2.1 e.symm)
                    · exact hm.elim (fun e => xx.2.2 e.symm) (fun e => dxx.2.2 e.symm)⟩) (by simp [hx6, hdx6])
                have N7 : News g L' h6 ((sl', ol') :: (x, instObj 180 dx) :: (dx, tubeDict w.params u1 u2 u3 (.bytes zs.toArray ub) sl' es) ::
                    (x2, instObj 180 dx2) :: (dx2, tubeDict w.params v1 v2 v3 (.bytes #[] vb) sl2 es2) :: (es2, baOf bs.flatten.toArray) :: []) := fun q hq => news_put fs.1 fs.2 hol' N6 q hq
                clear N6 N1 F1 kp6 fsl fs hx6 hdx6 hS6 hol' hso
                k_steps
                refine wpC_isTrue_Or_cons (wpC_isTrue_Not (wpC_isTrue_plain (wpC_Call ?_)))
                k_steps
                refine wpC_callWith_K (K := Mine.hd.heap_39 w.params) ?hk ?_
                case hk => k_is
                k_steps
                obtain ⟨m, hm⟩ : ∃ m : Nat, left + (1 + bey) = (m : Int) := ⟨(left + (1 + bey)).toNat, by omega⟩
                rw [hm]
                refine wpC_call (codeC_mono (short_c (n := m) (dp := dp + 1) (un := un + 3) (outer := [_]) X T (Grd.push (ex := [x, dx]) B F6 N7 rfl rfl (by simp)) ⟨u1, u2, u3, ub, News.get N7 (by k_mem), News.get N7 (by k_mem)⟩
                  (SizesAt.of (N7 (sl', ol') (by k_mem)).1 hso') (by omega) (by omega) (kts_push ktsDicts_nil F6 N7 rfl (by simp)) (by omega) (by omega)) fun r s' hr => ?_)
                obtain ⟨v, h7, tk7, rfl, rfl, kp7, sl2', rfl, ⟨w1, w2, w3, wb, hx7, hdx7⟩, hS7, fsl⟩ := hr
                have kp7' : KeptS [x, dx] [L'] h6 h7 := kp7
                rw [List.drop_of_length_le (show zs.length ≤ m by omega)] at hdx7
                rw [decide_eq_true (show zs.length < m by omega)]
                obtain ⟨ol2, hol2, hso2⟩ := hS7.obj
                have fs := fresh_new F6 fsl
                obtain ⟨F8, N8⟩ := aftersS (ex := [x, dx]) (news' := [(x, instObj 180 dx), (dx, tubeDict w.params w1 w2 w3 (.bytes #[] wb) sl2' es)])
                  (rest := [(x2, instObj 180 dx2), (dx2, tubeDict w.params v1 v2 v3 (.bytes #[] vb) sl2 es2), (es2, baOf bs.flatten.toArray)]) F6 N7 kp7' (by simp)
                  (fun q hq => ⟨by simp only [List.mem_cons, List.not_mem_nil, or_false] at hq ⊢; rcases hq with z | z | z <;> simp [z], fun hm => by
                    simp only [List.mem_cons, List.not_mem_nil, or_false] at hm
                    simp only [List.mem_cons, List.not_mem_nil, or_false] at hq
                    rcases hq with rfl | rfl | rfl
                    · exact hm.elim (fun e => xx.1 e.symm) (fun e => dxx.1 e.symm)
                    · exact hm.elim (fun e => xx.2.1 e.symm) (fun e => dxx.2.1 e.symm)
                    · exact hm.elim (fun e => xx.2.2 e.symm) (fun e => dxx.2.2 e.symm)⟩) (by simp [hx7, hdx7])
                have N9 : News g L' h7 ((sl2', ol2) :: (x, instObj 180 dx) :: (dx, tubeDict w.params w1 w2 w3 (.bytes #[] wb) sl2' es) ::
                    (x2, instObj 180 dx2) :: (dx2, tubeDict w.params v1 v2 v3 (.bytes #[] vb) sl2 es2) :: (es2, baOf bs.flatten.toArray) :: []) := fun q hq => news_put fs.1 fs.2 hol2 N8 q hq
                clear N8 N7 F6 kp7 kp7' fsl fs hx7 hdx7 hS7 hol2 hso'
                k_steps
                refine wpC_isTrue_Or_cons (wpC_of ?_)
                k_steps
                refine wpC_isTrue_Or_nil ?_
                show wpC _ _ _ _ _ _
                refine wpC_execs_nil ?_
                show wpC _ _ _ _ _ _
                refine wpC_execs_cons (wpC_If (wpC_isTrue_Or_cons (wpC_isTrue_Compare1 (wpC_Call ?_))))
                k_steps
                refine wpC_callWith_K (K := Mine.hd.heap_39 w.params) ?hk ?_
                case hk => k_is
                k_steps
                refine callC_of (codeC_of (flush_c (dp := dp + 1) (un := un + 3) (outer := [_]) X T (Grd.push (ex := [x2, dx2]) B F8 N9 rfl rfl (by simp)) ⟨v1, v2, v3, vb, News.get N9 (by k_mem), News.get N9 (by k_mem)⟩ (by omega) (by omega))) fun v h8 tk8 kp8 hp => ?_
                obtain ⟨rfl, y1, y2, y3, yb, hx8, hdx8⟩ := hp
                have s1 : sl2' ≠ x2 := hso2.ne (N9 (sl2', ol2) (by k_mem)).1 (N9 (x2, instObj 180 dx2) (by k_mem)).1 (fun e => by cases e)
                have s2 : sl2' ≠ dx2 := hso2.ne (N9 (sl2', ol2) (by k_mem)).1 (N9 (dx2, tubeDict w.params v1 v2 v3 (.bytes #[] vb) sl2 es2) (by k_mem)).1 (fun e => absurd (Value.type.inj e) (by decide))
                have s3 : es2 ≠ x2 := ne_of_cls (N9 (es2, baOf bs.flatten.toArray) (by k_mem)).1 (N9 (x2, instObj 180 dx2) (by k_mem)).1 (fun e => by cases e)
                have s4 : es2 ≠ dx2 := ne_of_cls (N9 (es2, baOf bs.flatten.toArray) (by k_mem)).1 (N9 (dx2, tubeDict w.params v1 v2 v3 (.bytes #[] vb) sl2 es2) (by k_mem)).1 (fun e => absurd (Value.type.inj e) (by decide))
                obtain ⟨F10, N10⟩ := afters (ex := [x2, dx2]) (news' := [(x2, instObj 180 dx2), (dx2, tubeDict w.params y1 y2 y3 (.bytes #[] yb) sl2 es2)])
                  (rest := [(sl2', ol2), (x, instObj 180 dx), (dx, tubeDict w.params w1 w2 w3 (.bytes #[] wb) sl2' es), (es2, baOf bs.flatten.toArray)]) F8 N9 kp8 (by simp)
                  (fun q hq => ⟨by simp only [List.mem_cons, List.not_mem_nil, or_false] at hq ⊢; rcases hq with z | z | z | z <;> simp [z], fun hm => by
                    simp only [List.mem_cons, List.not_mem_nil, or_false] at hm
                    simp only [List.mem_cons, List.not_mem_nil, or_false] at hq
                    rcases hq with rfl | rfl | rfl | rfl
                    · exact hm.elim s1 s2
                    · exact hm.elim xx.1 xx.2.1
                    · exact hm.elim dxx.1 dxx.2.1
                    · exact hm.elim s3 s4⟩) (by simp [hx8, hdx8])
                clear N9 F8 kp8 hx8 hdx8 s1 s2 s3 s4
                k_steps
                refine wpC_isTrue_Or_cons (wpC_isTrue_plain (wpC_Call ?_))
                k_steps
                refine wpC_callWith_K (K := Mine.hd.heap_39 w.params) ?hk ?_
                case hk => k_is
                k_steps
                refine wpC_call (codeC_mono (short_c (n := 0) (dp := dp + 1) (un := un + 3) (outer := [_]) X T (Grd.push (ex := [x, dx]) B F10 N10 rfl rfl (by simp)) ⟨w1, w2, w3, wb, News.get N10 (by k_mem), News.get N10 (by k_mem)⟩
                  (SizesAt.of (N10 (sl2', ol2) (by k_mem)).1 hso2) (by simp) (by omega) (kts_push ktsDicts_nil F10 N10 rfl (by simp)) (by omega) (by omega)) fun r s' hr => ?_)
                obtain ⟨v, h9, tk7, rfl, rfl, kp7, sl3, rfl, ⟨p1, p2, p3, wbX, hx7, hdx7⟩, hS7, fsl⟩ := hr
                have kp7' : KeptS [x, dx] [L'] _ h9 := kp7
                rw [List.drop_nil] at hdx7
                obtain ⟨ol3, hol2, hso3⟩ := hS7.obj
                have fs := fresh_new F10 fsl
                obtain ⟨F11, N8⟩ := aftersS (ex := [x, dx]) (news' := [(x, instObj 180 dx), (dx, tubeDict w.params p1 p2 p3 (.bytes #[] wbX) sl3 es)])
                  (rest := [(x2, instObj 180 dx2), (dx2, tubeDict w.params y1 y2 y3 (.bytes #[] yb) sl2 es2), (es2, baOf bs.flatten.toArray)]) F10 N10 kp7' (by simp)
                  (fun q hq => ⟨by simp only [List.mem_cons, List.not_mem_nil, or_false] at hq ⊢; rcases hq with z | z | z <;> simp [z], fun hm => by
                    simp only [List.mem_cons, List.not_mem_nil, or_false] at hm
                    simp only [List.mem_cons, List.not_mem_nil, or_false] at hq
                    rcases hq with rfl | rfl | rfl
                    · exact hm.elim (fun e => xx.1 e.symm) (fun e => dxx.1 e.symm)
                    · exact hm.elim (fun e => xx.2.1 e.symm) (fun e => dxx.2.1 e.symm)
                    · exact hm.elim (fun e => xx.2.2 e.symm) (fun e => dxx.2.2 e.symm)⟩) (by simp [hx7, hdx7])
                have N11 : News g L' h9 ((sl3, ol3) :: (x, instObj 180 dx) :: (dx, tubeDict w.params p1 p2 p3 (.bytes #[] wbX) sl3 es) ::
                    (x2, instObj 180 dx2) :: (dx2, tubeDict w.params y1 y2 y3 (.bytes #[] yb) sl2 es2) :: (es2, baOf bs.flatten.toArray) :: []) := fun q hq => news_put fs.1 fs.2 hol2 N8 q hq
                clear N8 N10 F10 kp7 kp7' fsl fs hx7 hdx7 hS7 hol2 hso2
                k_steps
                refine wpC_isTrue_Or_cons (wpC_isTrue_Not (wpC_isTrue_plain (wpC_Call ?_)))
                k_steps
                refine wpC_callWith_K (K := Mine.hd.heap_39 w.params) ?hk ?_
                case hk => k_is
                k_steps
                refine wpC_call (codeC_mono (short_c (n := 1) (dp := dp + 1) (un := un + 3) (outer := [_]) X T (Grd.push (ex := [x, dx]) B F11 N11 rfl rfl (by simp)) ⟨p1, p2, p3, wbX, News.get N11 (by k_mem), News.get N11 (by k_mem)⟩
                  (SizesAt.of (N11 (sl3, ol3) (by k_mem)).1 hso3) (by simp) (by omega) (kts_push ktsDicts_nil F11 N11 rfl (by simp)) (by omega) (by omega)) fun r s' hr => ?_)
                obtain ⟨v, h10, tk7, rfl, rfl, kp7, sl4, rfl, ⟨q1, q2, q3, wbY, hx7, hdx7⟩, hS7, fsl⟩ := hr
                have kp7' : KeptS [x, dx] [L'] _ h10 := kp7
                rw [List.drop_nil] at hdx7
                obtain ⟨ol4, hol2, hso4⟩ := hS7.obj
                have fs := fresh_new F11 fsl
                obtain ⟨F12, N8⟩ := aftersS (ex := [x, dx]) (news' := [(x, instObj 180 dx), (dx, tubeDict w.params q1 q2 q3 (.bytes #[] wbY) sl4 es)])
                  (rest := [(x2, instObj 180 dx2), (dx2, tubeDict w.params y1 y2 y3 (.bytes #[] yb) sl2 es2), (es2, baOf bs.flatten.toArray)]) F11 N11 kp7' (by simp)
                  (fun q hq => ⟨by simp only [List.mem_cons, List.not_mem_nil, or_false] at hq ⊢; rcases hq with z | z | z <;> simp [z], fun hm => by
                    simp only [List.mem_cons, List.not_mem_nil, or_false] at hm
                    simp only [List.mem_cons, List.not_mem_nil, or_false] at hq
                    rcases hq with rfl | rfl | rfl
                    · exact hm.elim (fun e => xx.1 e.symm) (fun e => dxx.1 e.symm)
                    · exact hm.elim (fun e => xx.2.1 e.symm) (fun e => dxx.2.1 e.symm)
                    · exact hm.elim (fun e => xx.2.2 e.symm) (fun e => dxx.2.2 e.symm)⟩) (by simp [hx7, hdx7])
                have N12 : News g L' h10 ((sl4, ol4) :: (x, instObj 180 dx) :: (dx, tubeDict w.params q1 q2 q3 (.bytes #[] wbY) sl4 es) ::
                    (x2, instObj 180 dx2) :: (dx2, tubeDict w.params y1 y2 y3 (.bytes #[] yb) sl2 es2) :: (es2, baOf bs.flatten.toArray) :: []) := fun q hq => news_put fs.1 fs.2 hol2 N8 q hq
                clear N8 N11 F11 kp7 kp7' fsl fs hx7 hdx7 hS7 hol2 hso3
                k_steps
                refine wpC_isTrue_Or_nil ?_
                show wpC _ _ _ _ _ _
                refine wpC_execs_nil ?_
                show wpC _ _ _ _ _ _
                have hzb : bs.flatten.toArray.size ≤ sizeLine := by
                  have : (1000 : Nat) ≤ sizeLine := by decide
                  rw [List.size_toArray]; omega
                refine wpC_execs_consA ?_
                k_steps
                exact leaveC_ F12 N12 (by rw [beq_self_eq_true])
end Mine
end PartM3
section PartZ1
open PySem PySem.W PyProof.Rows PySem.Calls PySem.Builtin
set_option Elab.async false
set_option maxRecDepth 100000
set_option maxHeartbeats 8000000
namespace Mine
end Mine
theorem PySem.Challenge.cw_ej5024_01_holds : PySem.Challenge.rw_ej5024_01.Holds := by
  refine Mine.hd ?_
  k_fill
  intro w s₀ s₁ mg mb G Y fa o pm cd doc dV kV ho hd hcd hD hmg hg args vals as hpre hlay hrd hwl hlo
  have KX := kIn_of Y
  refine Ground.open G ?_
  intro T B D TE TW
  have hfa : mg (Str.ofString "law") = some (.ref 229) := mg_of KX T.g (by k_is)
  rw [show mg _ = _ from hfa] at hmg
  obtain rfl : (229 : Addr) = fa := Value.ref.inj (Option.some.inj hmg)
  clear hmg
  wrow_args hpre hlay hrd hwl hlo
  rename_i ns _ _ _ _ _ _ _ ls vs _ hL _ _ _ hI _ hn _
  refine Mine.callC_of (ex := []) (Mine.law_c (h₀ := s₁.heap) (dp := 1 + claimMargin) (un := 4) KX T ⟨fun _ _ e => e, trivial, (by simp), (by simp)⟩ hL hI (by omega) (by decide) (by decide)) fun v h' tk kp hv => ?_
  obtain rfl := hv
  exact ⟨.inl ⟨_, _, [], rfl, (raisesW_false (by wrow_none_raised)), ReadsW.bool true, (by wrow_post), fun _ => ⟨List.nodup_nil, fun _ hm => (nomatch hm)⟩⟩, OldK.of_keep fun b o e => kp b o e (by simp), rfl, .of_eq hg⟩
end PartZ1
