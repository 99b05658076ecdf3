import PyProof.Rows.All
import Wide.All
import OpenK.AllK
import Wide.FinOn
import PySem.Challenge.RW_ja0001_01

set_option Elab.async false
set_option rowWalk.seconds 0

section
open PySem PySem.W PyProof.Rows
set_option maxRecDepth 100000

namespace Mine
open PySem PySem.W PySem.Calls PyProof.Rows

/-- the one context in which the claim's call is made -/
def callCtx : Ctx := ⟨.builtin "claim.caller" {}, none, none, [], none⟩

/-- a walk that needs to hold in the one real context only -/
abbrev WalkAt (q : Program) (loose : List Str) (XP : (Str → Option Value) → Heap → Prop) (YP : World → Heap → Prop) (r : RowW) (d : DefRec) (kwd : List (Str × Expr)) : Prop :=
  ∀ (w : World) (s₀ s₁ : Shared) (mg mb : Str → Option Value), Ground q loose r.records XP w s₀ mg mb s₁.heap → YP w s₁.heap → ∀ (a : Addr) (o : Obj) (pm cd doc dV kV : Value), s₁.heap.get? a = some o →
    o.data = .func { docDef d.name d.params d.body d.scope pm cd doc with defaults := dV, kwdefaults := kV } → s₁.heap.CodeRec cd d.name → Dflts mg s₁.heap d.params kwd dV kV → mg d.name = some (.ref a) → s₁.gens = #[] →
    ∀ (args : List WData) (vals : List Value) (as : List Addr), r.claim.pre args = true → WData.layableAll args = true → ReadsAllW r.records (classAt s₀.heap) s₁.heap vals args as → WellAll w.params s₁.heap vals args → (∀ a ∈ as, (a == sysModules) = false) →
      ∀ p, Sem.wp (model r.prog w) callCtx (PySem.call (.ref a) vals) (fun v _ s' => GoodWG r.claim (classAt s₀.heap) (ExcName.means s₀.heap) args s₁ (.ok (.ret v)) s')
        (fun e _ s' => GoodWG r.claim (classAt s₀.heap) (ExcName.means s₀.heap) args s₁ (.error e) s') p s₁

theorem callFrom_at {c : ClaimW} {tree : List Value → Sem Fin} {w : World} {s : Shared} {free : Addr → Prop} {gens : Prop} {kept : Heap → Prop} (hz : s.asleep) (hgens : s.gens = #[])
    (hspec : ∀ args, c.pre args = true → WData.layableAll args = true →
      ∀ ord : List DictEntry → List DictEntry, (∀ l, (ord l).Perm l) →
      ∃ vs s₁, layAllW c.records (classAt s.heap) w.params ord args s = some (vs, s₁) ∧
        Sem.wp (model c.prog w) callCtx (tree vs) (fun fin _ s' => ∃ f, fin = .done f ∧ (c.Ends s args vs s₁ (.ok f) s' ∧ s'.os = s.os ∧ AllBare s'.gens ∧ kept s'.heap))
          (fun e _ s' => c.Ends s args vs s₁ (.error e) s' ∧ s'.os = s.os ∧ AllBare s'.gens ∧ kept s'.heap) default s₁) :
    c.CallFrom (fun vs => ⟨tree vs, .builtin "claim.caller" {}, default, []⟩) w free gens kept s := by
  intro args hpre hlay ord hord
  obtain ⟨vs, s₁, hlaid, hcode⟩ := hspec args hpre hlay ord hord
  have hal := layAllW_rest _ _ _ hlaid
  have hwp := Sem.wp_mono (model c.prog w) callCtx (tree vs)
    (post' := Sem.finPost (model c.prog w) callCtx (fun r s' => (c.Ends s args vs s₁ r s' ∧ s'.os = s.os ∧ kept s'.heap) ∧ leftWithCleanup s'.gens = false))
    (exc' := fun e _ s' => (c.Ends s args vs s₁ (.error e) s' ∧ s'.os = s.os ∧ kept s'.heap) ∧ leftWithCleanup s'.gens = false)
    (fun fin p' s' h' => by
      obtain ⟨f, e, h1, h2, h3, h4⟩ := h'
      subst e
      exact ⟨⟨h1, h2, h4⟩, leftWithCleanup_false_of_bare h3⟩)
    (fun e p' s' h' => by
      obtain ⟨h1, h2, h3, h4⟩ := h'
      exact ⟨⟨h1, h2, h4⟩, leftWithCleanup_false_of_bare h3⟩) default s₁ hcode
  obtain ⟨k, r, s', s'', hsched, hrun, hfo, hcase, hos, hkp⟩ := wp_halts_full (M := model c.prog w) (c := .builtin "claim.caller" {})
    (R := fun r s' => c.Ends s args vs s₁ r s' ∧ s'.os = s.os ∧ kept s'.heap) (Shared.asleep_of_life hal.2.2.2 hz) hwp
  obtain ⟨eh, _, _, eo, _⟩ := Shared.forget_eq hfo
  have hcase := hcase.congr eh
  rw [← eh] at hkp
  rw [← eo] at hos
  have hlife : s''.heap.life = s.heap.life := (runN_life _ _ _ hrun).trans hal.2.2.2
  refine ⟨vs, s₁, hlaid, k, _, s'', hsched, ?_, (fun _ i x hx => by rw [hgens] at hx; simp at hx), hkp, by rw [hlife], Shared.rest_eq hos⟩
  rcases hcase with ⟨v, rfl, d1, d2, d3, d4, d5⟩ | ⟨e, ob, cls, rfl, d1, d2, d3, d4, d5⟩
  · exact .inl ⟨v, rfl, d1, d2, d3, fun b o y _ => d4 b o y, d5⟩
  · exact .inr ⟨e, ob, cls, rfl, d1, d2, d3, d4, fun b o y _ => d5 b o y⟩

theorem openBy_at {r : OpenRow} {q : Program} {loose defs kps : List Str} {writes : Bool} {Xt : Shared → Bool} {XP : (Str → Option Value) → Heap → Prop} {α : Type} {Yf : Shared → α} {Ya : World → α} {YP : World → Heap → Prop} {d : DefRec} {kwd : List (Str × Expr)} {N : Nat}
    (left : LeftO r.prog q loose Xt Yf Ya N) (hY : ∀ w s, Yf s = Ya w → YP w s.heap) (hYk : ∀ w h h', YP w h → (∀ b o, h.get? b = some o → h'.get? b = some o) → YP w h')
    (hX : ∀ s, Xt s = true → XP (s.heap.nsMap mainGlobals) s.heap) (hXk : ∀ mg h h', XP mg h → (∀ b o, h.get? b = some o → h'.get? b = some o) → XP mg h')
    (hdef : defOf q r.name = some (d, kwd)) (hRf : ∀ s, Xt s = true → RecFacts r.records s.heap) (hwr : (!writes || r.records.isEmpty) = true)
    (ok : (chainsOk q && opensWell r.prog && (frees r.toRowW && r.within.isEmpty)) = true) (hb : r.prog.bare) (hw : r.toRowW.promised)
    (pin : ∀ w s, s.heap.isNs mainGlobals = true → Ground q loose [] XP w s (s.heap.nsMap mainGlobals) (s.heap.nsMap builtinsNs) s.heap → ∀ n ∈ defs, isTheDefsW r.prog s.heap n)
    (call : WalkAt q loose XP YP r.toRowW d kwd) :
    r.toRowW.claim.HoldsOpenBy (fun vs => ⟨(do match ← nsGet mainNs r.name with
      | some f => do ret (← PySem.call f vs)
      | none => unsupported "claim.caller:no-such-global"), .builtin "claim.caller" {}, default, []⟩) defs kps writes := by
  obtain ⟨ok, k5⟩ := Bool.and_eq_true_iff.mp ok
  obtain ⟨hch, o1⟩ := Bool.and_eq_true_iff.mp ok
  obtain ⟨k5, k6⟩ := Bool.and_eq_true_iff.mp k5
  obtain ⟨hsame, hu, ha, hap, hm⟩ := frees_parts k5
  have hwi : r.toRowW.claim.within = [] := List.isEmpty_iff.mp k6
  have hi := ident_freeW hu ha hap
  refine ⟨⟨hb, o1, by show r.makers.map _ = []; rw [hm]; rfl⟩, hw.witness, fun w => ⟨(left.behind hX hch w).1, fun s' hs' => ?_⟩⟩
  obtain ⟨s₀, hf, hg0, s, hT, hz, hgens, hg, GR, y⟩ := (left.behind (XP := fun mg h => XP mg h ∧ RecFacts r.records h) (fun s hs => ⟨hX s hs, hRf s hs⟩) hch w).2 s' hs'
  have RF := GR.X.2
  have G0 : Ground q loose [] XP w s (s.heap.nsMap mainGlobals) (s.heap.nsMap builtinsNs) s.heap := ⟨GR.T, GR.B, GR.D, GR.TE, GR.TD, GR.W, GR.X.1, GR.cls, GR.has, GR.apart, GR.once, GR.K⟩
  have G : Ground q loose r.records XP w s (s.heap.nsMap mainGlobals) (s.heap.nsMap builtinsNs) s.heap := RF.ground G0
  have hgens : s.gens = #[] := Array.eq_empty_of_size_eq_zero (beq_iff_eq.mp hgens)
  refine ⟨s₀, hf, hg0, s, hT, pin w s hg G0, RF.1, RF.2.1, ?_⟩
  refine callFrom_at (c := r.toRowW.claim) hz hgens fun args hpre hlay ord hord => ?_
  obtain ⟨⟨vs, s₁⟩, hlaid⟩ := Option.isSome_iff_exists.mp (layAllW_isSome (P := w.params) (ord := ord) G.has args r.args s (pre_splitW hpre).1)
  have keeps := layAllW_keeps _ _ _ hlaid
  have hal := layAllW_rest _ _ _ hlaid
  obtain ⟨as, hrd, hin, hold⟩ := reads_layAllW hord _ _ _ hlaid hlay s₁.heap (fun _ _ e => e)
  have L : Laid r.records w s s₁ args vs as := ⟨⟨ord, hord, hlaid⟩, hrd, hin, hold, keeps, hal.1.trans hgens, hal.2.2.1⟩
  have G₁ := G.keeps hXk keeps
  have Y₁ := hYk _ _ _ (hY w s y) keeps
  obtain ⟨a, o, pm, cd, doc, dV, kV, h1, h2, h3, h4, h5⟩ := G₁.fn hdef
  have H := call w s s₁ _ _ G₁ Y₁ a o pm cd doc dV kV h2 h3 h4 h5 (defOf_name hdef ▸ h1) L.gens args vs as hpre hlay L.reads L.well (L.low G.low)
  refine ⟨vs, s₁, hlaid, ?_⟩
  have mn : (s.heap.nsMap mainGlobals) r.name = some (.ref a) := h1
  have fin : ∀ f s', GoodWG r.toRowW.claim (classAt s.heap) (ExcName.means s.heap) args s₁ f s' →
      r.toRowW.claim.Ends s args vs s₁ f s' ∧ s'.os = s.os ∧ AllBare s'.gens ∧ (writes = true → namesKept r.prog kps s.heap s'.heap ∧ ∀ x ∈ r.records, ∀ a, classAt s.heap x.1 = some a → recordClass s'.heap a x.1 (x.2.map (·.1)) = true) := fun f s' g =>
    have z := g.laid (c := r.toRowW.claim) hsame hwi hi L
    ⟨z.1, z.2.1, z.2.2, fun q => ⟨namesKept_of hT hg kps keeps g.2.1.old, noTable hwr q⟩⟩
  have step : wpAny (model r.prog w) callerA (nsGet mainNs r.name)
      (fun o s' => ∀ p', Sem.wp (model r.prog w) callCtx (match o with | some f => (do ret (← PySem.call f vs)) | none => unsupported "claim.caller:no-such-global")
        (fun fin _ s' => ∃ f, fin = PySem.Fin.done f ∧ (r.toRowW.claim.Ends s args vs s₁ (.ok f) s' ∧ s'.os = s.os ∧ AllBare s'.gens ∧ (writes = true → namesKept r.prog kps s.heap s'.heap ∧ ∀ x ∈ r.records, ∀ a, classAt s.heap x.1 = some a → recordClass s'.heap a x.1 (x.2.map (·.1)) = true)))
        (fun e _ s' => r.toRowW.claim.Ends s args vs s₁ (.error e) s' ∧ s'.os = s.os ∧ AllBare s'.gens ∧ (writes = true → namesKept r.prog kps s.heap s'.heap ∧ ∀ x ∈ r.records, ∀ a, classAt s.heap x.1 = some a → recordClass s'.heap a x.1 (x.2.map (·.1)) = true)) p' s')
      (fun _ _ => False) s₁ := by
    refine wpAny_nsGet G₁.T.g ?_
    rw [mn]
    intro p'
    show Sem.wp _ _ (PySem.call (.ref a) vs >>= fun v => ret v) _ _ _ _
    rw [Sem.wp_bind']
    refine Sem.wp_mono _ _ _ (fun v p'' s' g => ?_) (fun e p'' s' g => fin _ _ g) _ _ (H p')
    exact ⟨_, rfl, fin _ _ g⟩
  show Sem.wp _ _ (nsGet mainNs r.name >>= _) _ _ _ _
  rw [Sem.wp_bind']
  refine Sem.wp_mono _ _ _ (fun o p' s' h => ?_) (fun e p' s' h => h.elim) _ _ (step callCtx default caller_in)
  exact h p'

end Mine

/- the head takes its closing theorem by name: within namespace Mine this one is found first -/
namespace Mine.PySem.W
open Mine _root_.PySem _root_.PySem.W _root_.PySem.Calls _root_.PyProof.Rows
theorem holds_open {r : OpenRow} {q : Program} {loose : List Str} {Xt : Shared → Bool} {XP : (Str → Option Value) → Heap → Prop} {α : Type} {Yf : Shared → α} {Ya : World → α} {YP : World → Heap → Prop} {d : DefRec} {kwd : List (Str × Expr)} {N : Nat}
    (left : LeftO r.prog q loose Xt Yf Ya N) (hY : ∀ w s, Yf s = Ya w → YP w s.heap) (hYk : ∀ w h h', YP w h → (∀ b o, h.get? b = some o → h'.get? b = some o) → YP w h')
    (hX : ∀ s, Xt s = true → XP (s.heap.nsMap mainGlobals) s.heap) (hXk : ∀ mg h h', XP mg h → (∀ b o, h.get? b = some o → h'.get? b = some o) → XP mg h')
    (hdef : defOf q r.name = some (d, kwd)) (hp : r.prog.theDef r.name = some (d.params, d.body, d.scope)) (hk : kwWritten? d.params.kwonlyargs d.params.kw_defaults = some kwd) (hRf : ∀ s, Xt s = true → RecFacts r.records s.heap) (hwr : (!r.writes || r.records.isEmpty) = true)
    (k1 : r.wellSaid = true) (ok : (chainsOk q && opensWell r.prog && (frees r.toRowW && r.within.isEmpty)) = true) (hb : r.prog.bare) (hw : r.toRowW.promised)
    (call : WalkAt q loose XP YP r.toRowW d kwd) : r.Holds := by
  refine ⟨k1, hw, openBy_at left hY hYk hX hXk hdef hRf hwr ok hb hw (fun w s hg G n hn => ?_) call⟩
  obtain rfl : n = r.name := by split at hn <;> simp_all
  exact pinned_of_view hg G hdef hp hk

end Mine.PySem.W

namespace Mine
set_option maxHeartbeats 8000000 in
open_top hd for PySem.Challenge.rw_ja0001_01
end Mine
end

section
open PySem PySem.W PyProof.Rows
set_option maxRecDepth 100000

namespace Mine
open PySem PySem.W PySem.Calls PyProof.Rows

/-! ## wpP: wpAny over the contexts on whose stack no built-in stands that might hold a bytearray -/
def badIds : List String := ["bytearray.__contains__", "bytearray.__mod__", "bytearray.__rmod__", "_struct.pack_into.held", "bytearray.find.held"] ++ Builtin.Bytes.decodersThatHold
def okCode : Code → Bool
  | .builtin id _ => !badIds.contains id
  | _ => true
def OkL (l : List (Code × Pos)) : Prop := ∀ x ∈ l, okCode x.1 = true

def wpP {α : Type} (M : Model) (A : Around) (t : Sem α) (Q : α → Shared → Prop) (E : Value → Shared → Prop) (s : Shared) : Prop :=
  ∀ Γ p, Γ.In A → okCode Γ.code = true → OkL Γ.below → Sem.wp M Γ t (fun a _ s' => Q a s') (fun e _ s' => E e s') p s
def codeP (M : Model) (A : Around) (c : Code) (R : Result → Shared → Prop) (s : Shared) : Prop :=
  ∀ Γ p, Γ.code = c → Γ.Below A → OkL Γ.below → wpCode M Γ R p s

section
variable {α β : Type} {M : Model} {A : Around} {E : Value → Shared → Prop} {s : Shared}
theorem wpP_of {t : Sem α} {Q : α → Shared → Prop} (h : wpAny M A t Q E s) : wpP M A t Q E s := fun Γ p hΓ _ _ => h Γ p hΓ
theorem codeP_of {c : Code} {R : Result → Shared → Prop} (h : codeAny M A c R s) : codeP M A c R s := fun Γ p hc hΓ _ => h Γ p hc hΓ
theorem wpP_mono {t : Sem α} {Q Q' : α → Shared → Prop} {E' : Value → Shared → Prop} (h : wpP M A t Q E s)
    (hQ : ∀ a s, Q a s → Q' a s) (hE : ∀ e s, E e s → E' e s) : wpP M A t Q' E' s :=
  fun Γ p hΓ h1 h2 => Sem.wp_mono M Γ t (fun a _ s => hQ a s) (fun e _ s => hE e s) p s (h Γ p hΓ h1 h2)
theorem codeP_mono {c : Code} {R R' : Result → Shared → Prop} (h : codeP M A c R s) (hR : ∀ r s, R r s → R' r s) : codeP M A c R' s :=
  fun Γ p hc hΓ ho => wpCode_mono hR (h Γ p hc hΓ ho)
theorem wpP_bind {m : Sem α} {f : α → Sem β} {Q : β → Shared → Prop} (h : wpP M A m (fun a s' => wpP M A (f a) Q E s') E s) :
    wpP M A (m >>= f) Q E s := fun Γ p hΓ h1 h2 => by
  rw [Sem.wp_bind']
  exact Sem.wp_mono M Γ m (fun a p' s' h' => h' Γ p' hΓ h1 h2) (fun _ _ _ h' => h') p s (h Γ p hΓ h1 h2)
/-- the left part by the library's walk, the right one in wpP -/
theorem wpP_seq {m : Sem α} {f : α → Sem β} {Q : β → Shared → Prop} (h : wpAny M A m (fun a s' => wpP M A (f a) Q E s') E s) :
    wpP M A (m >>= f) Q E s := wpP_bind (wpP_of h)
/-- the left part in wpP, the right one by the library's walk -/
theorem wpP_thn {m : Sem α} {f : α → Sem β} {Q : β → Shared → Prop} (h : wpP M A m (fun a s' => wpAny M A (f a) Q E s') E s) :
    wpP M A (m >>= f) Q E s := wpP_bind (wpP_mono h (fun _ _ x => wpP_of x) fun _ _ x => x)
theorem wpP_pure {a : α} {Q : α → Shared → Prop} (h : Q a s) : wpP M A (pure a) Q E s := wpP_of (wpAny_pure h)
theorem wpP_holding {vs : List Value} {m : Sem α} {Q : α → Shared → Prop} (h : wpP M A m Q E s) : wpP M A (holding vs m) Q E s :=
  fun Γ p hΓ h1 h2 => by rw [Sem.wp_holding]; exact h Γ p hΓ h1 h2
theorem wpP_keep {vs : List Value} {m : Sem α} {Q : α → Shared → Prop} (h : wpP M A m Q E s) : wpP M A (m.keep vs) Q E s :=
  fun Γ p hΓ h1 h2 => by rw [Sem.wp_keep]; exact h Γ p hΓ h1 h2
theorem wpP_attempt {m : Sem α} {Q : Except Value α → Shared → Prop} (h : wpP M A m (fun a => Q (.ok a)) (fun e => Q (.error e)) s) :
    wpP M A m.attempt Q E s := fun Γ p hΓ h1 h2 => by rw [Sem.wp_attempt]; exact h Γ p hΓ h1 h2
theorem wpP_onRaise {m : Sem α} {k : Value → Sem Unit} {Q : α → Shared → Prop}
    (h : wpP M A m Q (fun e s' => wpAny M A (k e) (fun _ s'' => E e s'') E s') s) : wpP M A (m.onRaise k) Q E s := fun Γ p hΓ h1 h2 => by
  rw [Sem.wp_onRaise]
  exact Sem.wp_mono M Γ m (fun _ _ _ h' => h') (fun e p' s' h' => h' Γ p' hΓ) p s (h Γ p hΓ h1 h2)
theorem wpP_standAt {pos : Pos} {f : Unit → Sem β} {Q : β → Shared → Prop} (h : wpP M A (f ()) Q E s) : wpP M A (standAt pos >>= f) Q E s :=
  wpP_seq (wpAny_standAt h)

theorem wpP_run {c : Code} {h : Option Value} {Q : Flow → Shared → Prop}
    (hc : codeP M (A.mark h) c (fun r s' => match r with | .ok f => Q f s' | .error e => E e s') s) (hnb : h ≠ some byPass := by intro x; cases x) :
    wpP M A (run c h) Q E s :=
  fun Γ p hΓ h1 h2 => by
    rw [Sem.wp_run]
    exact hc _ p rfl (hΓ.enter c h p hnb) (fun x hx => by
      rcases List.mem_cons.mp hx with rfl | hx
      · exact h1
      · exact h2 x hx)
theorem wpP_runValue {c : Code} {Q : Value → Shared → Prop}
    (hc : codeP M A c (fun r s' => match r with | .ok (.ret v) => Q v s' | .ok _ => False | .error e => E e s') s) :
    wpP M A (runValue c) Q E s := fun Γ p hΓ h1 h2 => by
  rw [Sem.wp_runValue]
  exact hc _ p rfl (hΓ.enter c none p (by intro x; cases x)) (fun x hx => by
      rcases List.mem_cons.mp hx with rfl | hx
      · exact h1
      · exact h2 x hx)
theorem wpP_call {f : Value} {pos : List Value} {kw : List (Str × Value)} {Q : Value → Shared → Prop}
    (hc : codeP M A (.call f ⟨pos, kw⟩) (fun r s' => match r with | .ok (.ret v) => Q v s' | .ok _ => False | .error e => E e s') s) :
    wpP M A (call f pos kw) Q E s := wpP_runValue hc

theorem codeP_of_tree {c : Code} {R : Result → Shared → Prop} (ho : okCode c = true)
    (h : wpP M (A.under c) (M.den c) (fun fin s' => match fin with | .done f => R (.ok f) s' | .again c' => c'.quiet = true ∧ codeP M A c' R s')
      (fun e s' => R (.error e) s') s) : codeP M A c R s := fun Γ p hc hΓ h2 => by
  rw [wpCode_iff_wp, hc]
  refine Sem.wp_mono M Γ _ (fun fin p' s' h' => ?_) (fun _ _ _ h' => h') p s (h Γ p (hc ▸ hΓ.in) (hc ▸ ho) h2)
  cases fin with
  | done f => exact h'
  | again c' => exact ⟨h'.1, h'.2 (Γ.goto c') p' rfl (hΓ.goto c') h2⟩
/-- what the stack shows: no code on it is one that might hold a bytearray -/
theorem wpP_stack {Q : List (Code × Pos) → Shared → Prop} (h : ∀ l, OkL l → Q l s) : wpP M A stack Q E s := fun Γ p _ h1 h2 => by
  show Q ((Γ.code, p) :: Γ.below) s
  exact h _ fun x hx => by
    rcases List.mem_cons.mp hx with rfl | hx
    · exact h1
    · exact h2 x hx
end

section
variable {prog : Program} {w : World} {A : Around} {E : Value → Shared → Prop} {R : Result → Shared → Prop} {s : Shared}
theorem codeP_builtin {id : String} {args : Args} {b : Builtin} (ho : okCode (.builtin id args) = true) (hb : entryFor table id = some b)
    (h : wpP (model prog w) (A.under (.builtin id args)) (b args)
      (fun fin s' => match fin with | .done f => R (.ok f) s' | .again c' => c'.quiet = true ∧ codeP (model prog w) A c' R s') (fun e s' => R (.error e) s') s) :
    codeP (model prog w) A (.builtin id args) R s := by
  refine codeP_of_tree ho ?_
  show wpP _ _ (match entryFor table id with | some b => b args | none => unsupported ((withoutEnding? id "#data").getD id)) _ _ s
  rw [hb]; exact h
theorem codeP_call_builtin {id : String} {args : Args} {b : Builtin} (ho : okCode (.builtin id args) = true) (hq : plainId id = true) (hb : entryFor table id = some b)
    (h : wpAny (model prog w) A.in1 (checkBuiltinCall id args) (fun _ s₁ => wpP (model prog w) A.in1 (b args)
      (fun fin s' => match fin with | .done f => R (.ok f) s' | .again c' => c'.quiet = true ∧ codeP (model prog w) A c' R s') (fun e s' => R (.error e) s') s₁)
      (fun e s' => R (.error e) s') s) : codeP (model prog w) A (.call (.builtin id) args) R s := by
  refine codeP_of_tree rfl ?_
  show wpP _ A.in1 (do checkBuiltinCall id args; again (.builtin id args)) _ _ s
  refine wpP_seq (wpAny_mono h (fun _ s₁ h₁ => wpP_pure ⟨plainId_quiet hq args, codeP_builtin ho hb ?_⟩) fun _ _ x => x)
  rw [Around.under_plainId hq args]
  exact h₁
end

end Mine
end

section
open PySem PySem.W PyProof.Rows
set_option maxRecDepth 100000

namespace Mine
open PySem PySem.W PySem.Calls PyProof.Rows

theorem ba_slot_init : Slot "bytearray" "__init__" "bytearray.__init__" :=
  .of (owner := "bytearray") (n := "__init__") (by rw [typeLookup_type, builtinLookup_eq_fast]; kernel_rfl) (by decide +kernel) (by decide +kernel) (by decide +kernel)
    (by first | exact .inl (by decide +kernel) | exact .inr (by decide +kernel)) (by rw [isSubtype_type]; kernel_rfl)
theorem ba_mro : mroOf (.type "bytearray") = pure [.type "bytearray", .type "object"] := by rw [mroOf_type]; kernel_rfl
theorem ba_new : typeLookup (.type "bytearray") "__new__" = pure (some (.builtin "bytearray.__new__")) := by rw [typeLookup_type, builtinLookup_eq_fast]; kernel_rfl
theorem ba_called : TypeCalled "bytearray" "bytearray.__new__" "bytearray.__init__" :=
  ⟨by decide +kernel, by decide +kernel, ⟨_, _, ba_mro⟩, madeBy_type ba_mro ba_new (by decide +kernel), by decide +kernel, by rw [isSubtype_type]; kernel_rfl, ba_slot_init⟩
theorem ba_typeCall (a : Value) : checkTypeCall "bytearray" ⟨[a], []⟩ = pure () := by kernel_rfl
theorem ba_newCall (a : Value) : checkBuiltinCall "bytearray.__new__" ⟨[.type "bytearray", a], []⟩ = pure () := by kernel_rfl
theorem ba_entry_new : entryFor table "bytearray.__new__" = some Builtin.«list.__new__» := entryFor_alias (id' := "list.__new__") (by first | kernel_rfl | decide +kernel) (by first | kernel_rfl | decide +kernel) (by first | kernel_rfl | decide +kernel) (by kernel_rfl)
theorem ba_entry_init : entryFor table "bytearray.__init__" = some Builtin.«bytearray.__init__» := entryFor_of_tree (by kernel_rfl)
theorem ba_plain_new : plainId "bytearray.__new__" = true := by decide +kernel
theorem ba_args (a b : Value) : argsOk "bytearray.__init__" ⟨[a, b], []⟩ := by unfold argsOk; kernel_rfl
theorem ba_sub : isSubtype (.type "bytearray") (.type "bytearray") = pure true := by rw [isSubtype_type]; kernel_rfl
set_option maxRecDepth 1000000 in
set_option maxHeartbeats 4000000 in
theorem ba_owner : ("bytearray.__new__".splitOn ".__new__").headD "" = "bytearray" := by simp +decide [String.splitOn, String.splitOnAux]
theorem ba_noRelease : typeLookup (.type "bytearray") "__release_buffer__" = pure (some (.builtin "bytearray.__release_buffer__")) := by rw [typeLookup_type, builtinLookup_eq_fast]; kernel_rfl
theorem by_buffer : typeLookup (.type "bytes") "__buffer__" = pure (some (.builtin "bytes.__buffer__")) := by rw [typeLookup_type, builtinLookup_eq_fast]; kernel_rfl
theorem by_noRelease : typeLookup (.type "bytes") "__release_buffer__" = pure none := by rw [typeLookup_type, builtinLookup_eq_fast]; kernel_rfl
theorem by_noIndex : typeLookup (.type "bytes") "__index__" = pure none := by rw [typeLookup_type, builtinLookup_eq_fast]; kernel_rfl
theorem ba_bind (v : Value) : Builtin.Bytes.bindOptional "bytearray.__init__" "bytearray" ["source", "encoding", "errors"] [v] [] = pure [some v, none, none] := by kernel_rfl

section
variable {prog : Program} {w : World} {M : Model} {A : Around} {E : Value → Shared → Prop} {s : Shared}
theorem dec_ok {id : String} {args : Args} (h : okCode (.builtin id args) = true) : Builtin.Bytes.decodersThatHold.contains id = false := by
  simp only [okCode, badIds, List.contains_append, Bool.not_eq_true', Bool.or_eq_false_iff] at h
  exact h.2
theorem bad_not {id : String} {args : Args} (h : badIds.contains id = true) : ¬ okCode (.builtin id args) = true := by
  show ¬ (!badIds.contains id) = true
  rw [h]; exact Bool.false_ne_true
theorem ok_not {id : String} {args : Args} (h : badIds.contains id = false) : okCode (.builtin id args) = true := by
  show (!badIds.contains id) = true
  rw [h]; rfl
theorem not_dite {c : Prop} [Decidable c] {x : c → Bool} {y : ¬ c → Bool} (hn : ¬ c) (h : ¬ (y hn = true)) : ¬ (dite c x y = true) := by rw [dif_neg hn]; exact h
theorem exported_ok {self : Value} {Q : Bool → Shared → Prop} (h : Q false s) : wpP M A (Builtin.Bytes.exported self) Q E s := by
  unfold Builtin.Bytes.exported
  refine wpP_bind (wpP_stack fun l hl => wpP_pure ?_)
  refine Eq.mpr (congrArg (fun x => Q x s) ?_) h
  rw [List.any_eq_false]
  rintro ⟨c, p⟩ hx
  have hk := hl _ hx
  dsimp only at hk ⊢
  cases c
  case builtin id args =>
    obtain ⟨pos, kw⟩ := args
    have n (z : String) (hz : badIds.contains z = true) : id ≠ z := fun e => by subst e; exact absurd hk (bad_not hz)
    unfold Builtin.Bytes.exported.match_1
    show ¬ ((dite (id = "bytearray.__contains__") _ _) = true)
    iterate 5 refine not_dite (n _ (by decide +kernel)) ?_
    cases pos
    · exact Bool.false_ne_true
    · show ¬ ((Builtin.Bytes.sameRef _ self && Builtin.Bytes.decodersThatHold.contains id) = true)
      rw [dec_ok hk, Bool.and_false]
      exact Bool.false_ne_true
  all_goals exact Bool.false_ne_true

/-- a bytearray that nobody has lent -/
abbrev baObj (b : Array UInt8) : Obj := { cls := .type "bytearray", data := .bytearray b }
theorem baObj_type {a : Addr} {b : Array UInt8} (h : s.heap.get? a = some (baObj b)) : s.TypeIs (.ref a) "bytearray" := ⟨_, h, rfl⟩

theorem ba_buffer : typeLookup (.type "bytearray") "__buffer__" = pure (some (.builtin "bytearray.__buffer__")) := by rw [typeLookup_type, builtinLookup_eq_fast]; kernel_rfl
theorem ba_ownSlot {a : Addr} {b : Array UInt8} {name : String} {id : String} {Q : Bool → Shared → Prop} (ho : s.heap.get? a = some (baObj b)) (hl : typeLookup (.type "bytearray") (name : PySem.Str) = pure (some (.builtin id)))
    (he : id.endsWith ("." ++ name) = true) (hd : id.dropRight (name.length + 1) = "bytearray") (h : Q true s) : wpAny M A (Builtin.Bytes.slotIsOwn (.ref a) name) Q E s := by
  unfold Builtin.Bytes.slotIsOwn
  refine wpAny_bind (wpAny_specialOf (baObj_type ho) hl ?_)
  dsimp only
  rw [he, hd]
  exact wpAny_isInstance (baObj_type ho) ba_sub h
theorem ba_ownRelease {a : Addr} {b : Array UInt8} {Q : Bool → Shared → Prop} (ho : s.heap.get? a = some (baObj b)) (h : Q false s) : wpAny M A (Builtin.Bytes.ownRelease (.ref a)) Q E s := by
  unfold Builtin.Bytes.ownRelease
  exact wpAny_bind (ba_ownSlot ho ba_noRelease (by decide +kernel) (by decide +kernel) (wpAny_pure h))
theorem ba_payload {a : Addr} {b : Array UInt8} {Q : Array UInt8 → Shared → Prop} (ho : s.heap.get? a = some (baObj b)) (h : Q b s) : wpAny M A (Builtin.Bytes.payload (.ref a)) Q E s := by
  unfold Builtin.Bytes.payload Builtin.Bytes.payload?
  exact wpAny_bind (wpAny_bind (wpAny_load ho (wpAny_pure (wpAny_pure h))))
theorem ba_write {a : Addr} {b : Array UInt8} {f : Array UInt8 → Array UInt8} {Q : Unit → Shared → Prop} (ho : s.heap.get? a = some (baObj b)) (hz : (f b).size ≤ sizeLine)
    (h : ∀ h', h'.get? a = some (baObj (f b)) → Heap.SameBut a s.heap h' → Q () { s with heap := h' }) : wpAny M A (Builtin.Bytes.write (.ref a) f) Q E s := by
  show wpAny _ _ (updateBytearray a f) _ _ _
  unfold updateBytearray
  refine wpAny_bind (wpAny_load ho ?_)
  show wpAny _ _ (update a (Obj.mapBytearray f) >>= fun _ => lookBehind a) _ _ _
  refine wpAny_bind (wpAny_update ho ?_)
  have h1 : (s.heap.update a (Obj.mapBytearray f)).get? a = some (baObj (f b)) := Heap.get?_update_self (Obj.mapBytearray f) ho rfl
  refine wpAny_lookBehind h1 ?_ (h _ h1 (Heap.SameBut.update ..))
  show (if (f b).size > sizeLine then some "bytearray:memory" else none) = none
  rw [if_neg (Nat.not_lt.mpr hz)]

theorem wpP_if_false {α : Type} {b : Bool} {x y : Sem α} {Q : α → Shared → Prop} (hb : b = false) (h : wpP M A y Q E s) : wpP M A (if b = true then x else y) Q E s := by subst hb; exact h
theorem ba_init_tree {a : Addr} {b : Array UInt8} {t : Tok} {P : PySem.Fin → Shared → Prop} (ho : s.heap.get? a = some (baObj #[])) (hz : b.size ≤ sizeLine)
    (h : ∀ h', h'.get? a = some (baObj b) → Heap.SameBut a s.heap h' → P (.done (.ret .none)) { s with heap := h' }) :
    wpP M A (Builtin.«bytearray.__init__» ⟨[.ref a, .bytes b t], []⟩) P E s := by
  unfold Builtin.«bytearray.__init__»
  refine wpP_seq (ba_ownRelease ho ?_)
  refine wpP_if_false rfl ?_
  refine wpP_seq (wpAny_of_eq (ba_bind _) ?_)
  dsimp only
  refine wpP_seq (wpAny_of_eq (a := ()) rfl ?_)
  refine wpP_seq (wpAny_of_eq (a := ()) rfl ?_)
  refine wpP_bind ?_
  unfold orM
  refine wpP_bind (exported_ok ?_)
  show wpP _ _ (Builtin.Bytes.exportsOf (.ref a) >>= fun n => pure (decide (n > 0))) _ _ _
  refine wpP_seq ?_
  unfold Builtin.Bytes.exportsOf
  refine wpAny_bind (wpAny_load ho (wpAny_pure (wpP_pure ?_)))
  show wpP _ _ (Builtin.Bytes.write (.ref a) (fun _ => #[]) >>= fun _ => _) _ _ _
  refine wpP_seq (ba_write ho (Nat.zero_le _) fun h1 g1 k1 => wpP_of ?_)
  refine wpAny_bind (wpAny_of_eq (a := none) rfl ?_)
  show wpAny _ _ (specialOf (.bytes b t) _ >>= fun r => _) _ _ _
  refine wpAny_bind (wpAny_specialOf (typeIs_bytes _ _ _) by_noIndex ?_)
  show wpAny _ _ (Builtin.Bytes.buffer? "bytearray.__init__" (.bytes b t) true >>= fun r => _) _ _ _
  refine wpAny_bind (wpAny_of_eq (a := some b) ?_ ?_)
  · unfold Builtin.Bytes.buffer?
    rw [KBy.special_eq KBy.look_buffer, KBy.own_buffer, KBy.own_release]
    kernel_rfl
  refine wpAny_bind (wpAny_rule ?_)
  refine wpAny_bind (ba_write g1 hz fun h2 g2 k2 => ?_)
  exact wpAny_bind (wpAny_pure (wpAny_pure (h h2 g2 (k1.trans k2))))

theorem ba_code_new (v : Value) {Q₁ : Value → Shared → Prop}
    (h : Q₁ (.ref s.heap.objs.size) { s with heap := s.heap.push (baObj #[]) }) :
    codeAny (model prog w) A (.call (.builtin "bytearray.__new__") ⟨[.type "bytearray", v], []⟩) (wants Q₁ E) s := by
  refine codeAny_of_tree ?_
  show wpAny _ A.in1 (do checkBuiltinCall "bytearray.__new__" ⟨[.type "bytearray", v], []⟩; again (.builtin "bytearray.__new__" ⟨[.type "bytearray", v], []⟩)) _ _ s
  refine wpAny_bind (wpAny_of_eq (ba_newCall v) (wpAny_pure ⟨plainId_quiet ba_plain_new _, codeAny_builtin_stack ba_entry_new rfl fun p st => ?_⟩))
  rw [Around.under_plainId ba_plain_new _]
  dsimp only
  rw [ba_owner]
  refine wpAny_bind (wpAny_of_eq (a := true) rfl ?_)
  simp only [Bool.not_true, Bool.false_eq_true, if_false]
  refine wpAny_bind (wpAny_of_eq ba_sub ?_)
  simp only [Bool.not_true, Bool.false_eq_true, if_false]
  refine wpAny_bind (wpAny_pure ?_)
  refine KFB.if_so (by decide +kernel) ?_
  refine wpAny_bind (wpAny_newObj_type (wpAny_pure ?_) (Nat.zero_le _))
  exact h

/-- a new bytearray of given bytes: only where no code on the stack may hold it -/
theorem ba_call {b : Array UInt8} {t : Tok} {Q : Value → Shared → Prop} (hz : b.size ≤ sizeLine)
    (h : ∀ h', h'.get? s.heap.objs.size = some (baObj b) → (∀ c o, s.heap.get? c = some o → h'.get? c = some o) → Q (.ref s.heap.objs.size) { s with heap := h' }) :
    wpP (model prog w) A (call (.type "bytearray") [.bytes b t]) Q E s := by
  obtain ⟨c, tl, hmro⟩ := ba_called.mro
  refine wpP_call (codeP_of_tree rfl ?_)
  show wpP _ _ (callAny (.type "bytearray") _) _ _ _
  refine wpP_pure ⟨Code.quiet_builtin _ (by decide +kernel), codeP_builtin (ok_not (by decide +kernel)) F.entry_type_call ?_⟩
  rw [Around.under_plain (weight_type_call_type "bytearray" _ []) rfl]
  unfold Builtin.«type.__call__»
  have h1 := ba_called.notType
  have h2 := ba_called.canCreate
  dsimp only
  rw [h1]
  simp only [Bool.false_eq_true, if_false]
  refine Eq.mpr (congrArg (fun t => wpP _ _ t _ _ _) (if_neg (by rw [h2]; exact Bool.false_ne_true))) ?_
  refine wpP_seq (wpAny_of_eq (ba_typeCall _) ?_)
  refine wpP_seq (wpAny_of_eq hmro ?_)
  simp only [List.isEmpty_cons, Bool.false_eq_true, if_false]
  refine wpP_seq (wpAny_of_eq ba_called.made ?_)
  dsimp only
  refine wpP_seq (wpAny_pure ?_)
  refine wpP_seq (wpAny_holding (wpAny_call (ba_code_new (E := fun _ _ => False) (.bytes b t) (Q₁ := fun v s' => v = .ref s.heap.objs.size ∧ s' = { s with heap := s.heap.push (baObj #[]) }) ⟨rfl, rfl⟩ |> fun x => codeAny_mono x fun r s₁ hr => ?_)))
  cases r with
  | error e => exact hr.elim
  | ok fl =>
    cases fl with
    | ret obj =>
      obtain ⟨rfl, rfl⟩ := hr
      have ho : (s.heap.push (baObj #[])).get? s.heap.objs.size = some (baObj #[]) := Heap.get?_push_size _ rfl
      have hT := baObj_type (s := { s with heap := s.heap.push (baObj #[]) }) ho
      refine wpP_seq (wpAny_isInstance hT ba_sub ?_)
      simp only [Bool.not_true, Bool.false_eq_true, if_false]
      refine wpP_bind (wpP_holding ?_)
      unfold callSpecial?
      refine wpP_seq (wpAny_specialOf hT ba_slot_init.lookup ?_)
      dsimp only
      refine wpP_holding (wpP_seq (wpAny_of_eq (ba_slot_init.bind _) ?_))
      dsimp only
      refine wpP_bind (wpP_call (codeP_call_builtin (ok_not (by decide +kernel)) ba_slot_init.plain ba_entry_init (ba_slot_init.check _ _ _ _ _ _ _ _ hT (ba_args _ _) ?_)))
      refine ba_init_tree ho hz fun h' g k => ?_
      refine wpP_pure ?_
      show wpP _ _ (if (Value.none != Value.none) = true then _ else ret _) _ _ _
      refine Eq.mpr (congrArg (fun t => wpP _ _ t _ _ _) (if_neg (by decide))) (wpP_pure (h h' g fun c o e => ?_))
      exact k.extBut c o (Nat.ne_of_lt (Heap.lt_size e)) (Heap.get?_push_of_some _ e)
    | _ => exact hr.elim
end
end Mine
end

section
open PySem PySem.W PyProof.Rows
set_option maxRecDepth 100000

namespace Mine
open PySem PySem.W PySem.Calls PyProof.Rows

/-- all but some addresses stand as they stood -/
def Kept (ids : List Addr) (h h' : Heap) : Prop := ∀ b o, b ∉ ids → h.get? b = some o → h'.get? b = some o
theorem Kept.refl (ids : List Addr) (h : Heap) : Kept ids h h := fun _ _ _ e => e
theorem Kept.trans {ids : List Addr} {h h' h'' : Heap} (x : Kept ids h h') (y : Kept ids h' h'') : Kept ids h h'' := fun b o n e => y b o n (x b o n e)
theorem Kept.mono {ids ids' : List Addr} {h h' : Heap} (x : Kept ids h h') (hs : ∀ b ∈ ids, b ∈ ids') : Kept ids' h h' := fun b o n e => x b o (fun q => n (hs b q)) e
theorem Kept.fr {ids : List Addr} {h₀ h h' : Heap} {L : Addr} {m : Str → Option Value} (k : Kept ids h h') (F : Fr h₀ L h m) (hL : L ∉ ids) (h0 : ∀ b ∈ ids, h₀.get? b = none) : Fr h₀ L h' m := by
  obtain ⟨oL, es, ep, hL', hLd, hLk, hLf⟩ := F.ns
  refine ⟨⟨oL, es, ep, k L oL hL hL', hLd, hLk, hLf⟩, fun b o e => k b o (fun q => ?_) (F.keep b o e), F.above⟩
  rw [h0 b q] at e; cases e
theorem Kept.news {ids : List Addr} {h₀ h h' : Heap} {L : Addr} {news : List (Addr × Obj)} (k : Kept ids h h') (N : News h₀ L h news) (hn : ∀ p ∈ news, p.1 ∉ ids) : News h₀ L h' news :=
  fun p hp => ⟨k _ _ (hn p hp) (N p hp).1, (N p hp).2.1, (N p hp).2.2⟩
theorem Kept.of_keep {h h' : Heap} (ids : List Addr) (k : ∀ b o, h.get? b = some o → h'.get? b = some o) : Kept ids h h' := fun b o _ e => k b o e
theorem Kept.isList {ids : List Addr} {h h' : Heap} {c : Addr} {xs : Array Value} (k : Kept ids h h') (hc : c ∉ ids) (x : h.IsList c xs) : h'.IsList c xs :=
  let ⟨o, e, r⟩ := x; ⟨o, k c o hc e, r⟩
theorem News.app {h₀ h : Heap} {L : Addr} {a b : List (Addr × Obj)} (x : News h₀ L h a) (y : News h₀ L h b) : News h₀ L h (a ++ b) :=
  fun p hp => (List.mem_append.mp hp).elim (x p) (y p)
theorem News.sub {h₀ h : Heap} {L : Addr} {a b : List (Addr × Obj)} (x : News h₀ L h a) (hs : ∀ p ∈ b, p ∈ a) : News h₀ L h b := fun p hp => x p (hs p hp)

section
variable {prog : Program} {w : World} {A₀ A : Around} {s : Shared} {base h₀ : Heap} {outer : List Env} {L : Addr} {m mg mb : Str → Option Value} {env : Env} {news : List (Addr × Obj)} {K : Frag}
  {p : Program} {loose : List Str} {mean : ExcName → Option Value}
  {R : Result → Shared → Prop} {name qual : Str} {params : Arguments} {body : List Stmt} {scope : Scope} {dV kV doc pm cdv ct oc : Value} {an od : Option Addr} {osl : Array (Option Value)} {f : Addr} {args : Args} {binds : List (Str × Value)}

/-- a def of the text is entered; only the objects of 'news' may be changed, all else is kept -/
theorem enterF (B : Below A₀ base outer h₀) (F : Fr h₀ L s.heap m) (X₀ : K.In h₀) (N : News h₀ L s.heap news) (T : Top p loose mean mg mb h₀) (hA : A.frames = some (env :: outer)) (hf : env.frame = some L) (hke : env.scope.kind = .function)
    (ho : K.lookup f = some ⟨oc, od, .func (fnOf name qual params body scope dV kV doc pm an cdv ct), osl⟩) (hcd : codeIn K cdv qual = true) (hroom : A.depth < recursionLimit)
    (hbind : BindsTo s (fnOf name qual params body scope dV kV doc pm an cdv ct) args binds) (hloc : ∀ y ∈ binds, scope.names.lookup y.1 = some .local)
    (h : ∀ g L' h₁, Kept (news.map (·.1)) s.heap g → Fr g L' h₁ (fun y => binds.reverse.lookup y) → News g L' h₁ news → Below A base (env :: outer) g → K.In g → Top p loose mean mg mb g →
      wpAny (model prog w) (A.deeper (envOf qual scope L' f cdv)) (execs body (envOf qual scope L' f cdv))
        (fun fl s' => LeaveK h₀ L m g (fun r s' => Kept (news.map (·.1)) s.heap s'.heap → R r s') (match fl with | .ret v => v | _ => .none) s')
        (fun _ _ => False) { s with heap := h₁, toks := s.toks + binds.length })
    (hco : scope.isCoroutine = false) (hgen : scope.isGenerator = false) (hk : scope.kind = .function)
    (hcell : ∀ x ∈ scope.names, x.2 ≠ .cell) : codeAny (model prog w) A (.call (.ref f) args) R s := by
  have X := X₀.keeps F.keep
  obtain ⟨FG, BG, st, lv⟩ := groundX (R := fun r s' => Kept (news.map (·.1)) s.heap s'.heap → R r s') B F N hA hf hke
  refine codeAny_call_def (fd := fnOf name qual params body scope dV kV doc pm an cdv ct) (body := body) (binds := binds) hroom (X _ _ ho) rfl (T.nolimit.keeps F.keep) (codeRec_of X hcd) rfl hbind hcell hloc (fun h₁ hns hk₁ => ?_) hco hgen hk
  refine wpAny_mono (h _ s.heap.objs.size h₁ (fun b o n e => hideAll_get _ e n) ⟨hns, fun b o e => hk₁ b o (of_hideAll _ e), Nat.le_of_eq (hideAll_size _ _)⟩
    (fun q hq => ⟨hk₁ _ _ (N q hq).1, Nat.ne_of_lt (Heap.lt_size (N q hq).1), hideAll_none _ (List.mem_map_of_mem hq)⟩) BG (X₀.keeps st) (T.keeps st)) (fun fl s' hl => ?_) fun _ _ y => y.elim
  refine lv _ _ hl ?_
  obtain ⟨L', m', news', F', N', _⟩ := hl
  exact fun b o n e => F'.keep b o (hideAll_get _ e n)

theorem callAny_def {E : Value → Shared → Prop} {Q : PySem.Fin → Shared → Prop} {a : Addr} {o : Obj} {fd : FuncData} (hroom : A.depth < recursionLimit) (ho : s.heap.get? a = some o) (hdata : o.data = .func fd) (hlim : s.heap.NoLimit) (hcd : s.heap.CodeRec fd.code fd.qualname)
    (hbody : fd.body = .stmts body) (hbind : BindsTo s fd args binds)
    (hcell : ∀ x ∈ fd.scope.names, x.2 ≠ .cell) (hloc : ∀ x ∈ binds, fd.scope.names.lookup x.1 = some .local)
    (hco : fd.scope.isCoroutine = false) (hgen : fd.scope.isGenerator = false) (hk : fd.scope.kind = .function)
    (h : ∀ h₀, h₀.Ns s.heap.objs.size (fun x => binds.reverse.lookup x) → (∀ b o, s.heap.get? b = some o → h₀.get? b = some o) →
      Q (.again (.func body (callEnv fd s.heap.objs.size a))) { s with heap := h₀, toks := s.toks + binds.length }) :
    wpAny (model prog w) A.in1 (callAny (.ref a) args) Q E s := by
  simp only [callAny]
  refine wpAny_bind (wpAny_load ho ?_)
  obtain ⟨c, oc, vs, tq, hc, hoc, hdc, hq⟩ := hcd
  simp only [hdata, callFunction, hco, hgen, hbody, hc]
  refine wpAny_bind (m := field (.ref c) 1) (wpAny_field hoc hdc hq (wpAny_bind (wpAny_pure ?_)))
  refine wpAny_bind (hbind _ _ _ _ ?_)
  refine wpAny_bind (wpAny_newFunctionEnv hcell hloc (fun h₀ hns₀ hsb₀ => ?_) hk)
  refine wpAny_bind (wpAny_enterFrame (hlim.fresh _ hsb₀) hroom (wpAny_pure ?_))
  have := h h₀ hns₀ fun b o e => hsb₀.extBut b o (Nat.ne_of_lt (Heap.lt_size e)) (Heap.get?_push_of_some _ e)
  unfold callEnv at this
  rw [hc] at this
  exact this

theorem codeP_func {env : Env} (h : wpP (model prog w) (A.deeper env) (execs body env) (fun f s' => R (.ok (.ret (match f with | .ret v => v | _ => .none))) s') (fun _ _ => False) s) :
    codeP (model prog w) A (.func body env) R s := by
  refine codeP_of_tree rfl ?_
  show wpP _ (A.deeper env) (do point; match ← (execs body env).onRaise (leaving env) with | .ret v => ret v | _ => ret .none) _ _ s
  refine wpP_seq (wpAny_point (wpP_bind (wpP_onRaise (wpP_mono h (fun f s' h' => ?_) fun _ _ h' => h'.elim))))
  cases f <;> exact wpP_pure h'

/-- the same, the body in wpP -/
theorem enterP (B : Below A₀ base outer h₀) (F : Fr h₀ L s.heap m) (X₀ : K.In h₀) (N : News h₀ L s.heap news) (T : Top p loose mean mg mb h₀) (hA : A.frames = some (env :: outer)) (hf : env.frame = some L) (hke : env.scope.kind = .function)
    (ho : K.lookup f = some ⟨oc, od, .func (fnOf name qual params body scope dV kV doc pm an cdv ct), osl⟩) (hcd : codeIn K cdv qual = true) (hroom : A.depth < recursionLimit)
    (hbind : BindsTo s (fnOf name qual params body scope dV kV doc pm an cdv ct) args binds) (hloc : ∀ y ∈ binds, scope.names.lookup y.1 = some .local)
    (h : ∀ g L' h₁, Kept (news.map (·.1)) s.heap g → Fr g L' h₁ (fun y => binds.reverse.lookup y) → News g L' h₁ news → Below A base (env :: outer) g → K.In g → Top p loose mean mg mb g →
      wpP (model prog w) (A.deeper (envOf qual scope L' f cdv)) (execs body (envOf qual scope L' f cdv))
        (fun fl s' => LeaveK h₀ L m g (fun r s' => Kept (news.map (·.1)) s.heap s'.heap → R r s') (match fl with | .ret v => v | _ => .none) s')
        (fun _ _ => False) { s with heap := h₁, toks := s.toks + binds.length })
    (hco : scope.isCoroutine = false) (hgen : scope.isGenerator = false) (hk : scope.kind = .function)
    (hcell : ∀ x ∈ scope.names, x.2 ≠ .cell) : codeP (model prog w) A (.call (.ref f) args) R s := by
  have X := X₀.keeps F.keep
  obtain ⟨FG, BG, st, lv⟩ := groundX (R := fun r s' => Kept (news.map (·.1)) s.heap s'.heap → R r s') B F N hA hf hke
  refine codeP_of_tree rfl ?_
  show wpP _ A.in1 (callAny (.ref f) args) _ _ s
  refine wpP_of (callAny_def (fd := fnOf name qual params body scope dV kV doc pm an cdv ct) hroom (X _ _ ho) rfl (T.nolimit.keeps F.keep) (codeRec_of X hcd) rfl hbind hcell hloc hco hgen hk fun h₁ hns hk₁ => ⟨rfl, codeP_func ?_⟩)
  refine wpP_mono (h _ s.heap.objs.size h₁ (fun b o n e => hideAll_get _ e n) ⟨hns, fun b o e => hk₁ b o (of_hideAll _ e), Nat.le_of_eq (hideAll_size _ _)⟩
    (fun q hq => ⟨hk₁ _ _ (N q hq).1, Nat.ne_of_lt (Heap.lt_size (N q hq).1), hideAll_none _ (List.mem_map_of_mem hq)⟩) BG (X₀.keeps st) (T.keeps st)) (fun fl s' hl => ?_) fun _ _ y => y.elim
  refine lv _ _ hl ?_
  obtain ⟨L', m', news', F', N', _⟩ := hl
  exact fun b o n e => F'.keep b o (hideAll_get _ e n)
end
end Mine
end

section
namespace Mine
/-! ## big-endian numbers -/
def valB (xs : List UInt8) : Nat := xs.foldl (fun a b => a * 256 + b.toNat) 0
def toB : Nat → Nat → List UInt8
  | 0, _ => []
  | k + 1, x => toB k (x / 256) ++ [UInt8.ofNat (x % 256)]
theorem toB_length : ∀ k x, (toB k x).length = k
  | 0, _ => rfl
  | k + 1, x => by simp [toB, toB_length k]
theorem foldB (xs : List UInt8) : ∀ a : Nat, xs.foldl (fun a b => a * 256 + b.toNat) a = a * 256 ^ xs.length + valB xs := by
  unfold valB
  induction xs with
  | nil => intro a; simp
  | cons x r ih =>
    intro a
    simp only [List.foldl_cons, List.length_cons]
    rw [ih, ih (0 * 256 + x.toNat)]
    rw [Nat.pow_succ]
    simp only [Nat.zero_mul, Nat.zero_add, Nat.add_mul, Nat.add_assoc]
    rw [Nat.mul_assoc, Nat.mul_comm 256]
theorem valB_append (xs ys : List UInt8) : valB (xs ++ ys) = valB xs * 256 ^ ys.length + valB ys := by
  unfold valB
  rw [List.foldl_append, foldB]
  rfl
theorem valB_snoc (xs : List UInt8) (b : UInt8) : valB (xs ++ [b]) = valB xs * 256 + b.toNat := by
  unfold valB
  rw [List.foldl_append]
  rfl
theorem snoc_of {xs : List UInt8} {n : Nat} (h : xs.length = n + 1) : ∃ ys y, xs = ys ++ [y] ∧ ys.length = n := by
  have hne : xs ≠ [] := by intro e; rw [e] at h; cases h
  exact ⟨xs.dropLast, xs.getLast hne, (List.dropLast_concat_getLast hne).symm, by rw [List.length_dropLast, h]; rfl⟩
theorem valB_lt (xs : List UInt8) : valB xs < 256 ^ xs.length := by
  have h : ∀ n (xs : List UInt8), xs.length = n → valB xs < 256 ^ n := by
    intro n
    induction n with
    | zero => intro xs h; rw [List.length_eq_zero_iff.mp h]; decide
    | succ n ih =>
      intro xs h
      obtain ⟨ys, y, rfl, hl⟩ := snoc_of h
      rw [valB_snoc]
      have h1 := ih ys hl
      have h2 := y.toNat_lt
      rw [Nat.pow_succ]
      (first | lia | omega)
  exact h _ xs rfl
theorem toB_valB : ∀ n (xs : List UInt8), xs.length = n → toB n (valB xs) = xs := by
  intro n
  induction n with
  | zero => intro xs h; rw [List.length_eq_zero_iff.mp h]; rfl
  | succ n ih =>
    intro xs h
    obtain ⟨ys, y, rfl, hl⟩ := snoc_of h
    have h2 := y.toNat_lt
    rw [valB_snoc, toB]
    have q1 : (valB ys * 256 + y.toNat) / 256 = valB ys := by (first | lia | omega)
    have q2 : (valB ys * 256 + y.toNat) % 256 = y.toNat := by (first | lia | omega)
    rw [q1, q2, ih ys hl, UInt8.ofNat_toNat]
theorem valB_toB : ∀ k x, x < 256 ^ k → valB (toB k x) = x
  | 0, x, h => by
    have : x = 0 := by simpa using h
    subst this; rfl
  | k + 1, x, h => by
    rw [toB, valB_snoc, valB_toB k (x / 256) (by rw [Nat.pow_succ] at h; (first | lia | omega)), UInt8.toNat_ofNat']
    (first | lia | omega)

/-! ## xor of big-endian numbers -/
theorem xor_256 (a b x y : Nat) (hx : x < 256) (hy : y < 256) : (a * 256 + x) ^^^ (b * 256 + y) = (a ^^^ b) * 256 + (x ^^^ y) := by
  have hz : x ^^^ y < 256 := Nat.xor_lt_two_pow (n := 8) hx hy
  apply Nat.eq_of_testBit_eq
  intro i
  have e : ∀ q r, q * 256 + r = 2 ^ 8 * q + r := fun q r => by rw [Nat.mul_comm]
  rw [Nat.testBit_xor, e, e, e]
  rw [Nat.testBit_two_pow_mul_add _ hx, Nat.testBit_two_pow_mul_add _ hy, Nat.testBit_two_pow_mul_add _ hz]
  split
  · rw [Nat.testBit_xor]
  · rw [Nat.testBit_xor]

def xorL (xs ys : List UInt8) : List UInt8 := List.zipWith (· ^^^ ·) xs ys
theorem xorL_length {xs ys : List UInt8} (h : xs.length = ys.length) : (xorL xs ys).length = xs.length := by
  unfold xorL; rw [List.length_zipWith, h, Nat.min_self]
theorem valB_xor : ∀ n (xs ys : List UInt8), xs.length = n → ys.length = n → valB (xorL xs ys) = valB xs ^^^ valB ys := by
  intro n
  induction n with
  | zero => intro xs ys h1 h2; rw [List.length_eq_zero_iff.mp h1, List.length_eq_zero_iff.mp h2]; rfl
  | succ n ih =>
    intro xs ys h1 h2
    obtain ⟨xs, x, rfl, l1⟩ := snoc_of h1
    obtain ⟨ys, y, rfl, l2⟩ := snoc_of h2
    have e : xorL (xs ++ [x]) (ys ++ [y]) = xorL xs ys ++ [x ^^^ y] := by
      unfold xorL
      rw [List.zipWith_append (by rw [l1, l2])]
      rfl
    rw [e, valB_snoc, valB_snoc, valB_snoc, ih _ _ l1 l2, UInt8.toNat_xor]
    exact (xor_256 _ _ _ _ (UInt8.toNat_lt _) (UInt8.toNat_lt _)).symm
end Mine
end

section
open PySem PySem.W PyProof.Rows

namespace Mine
open PySem PySem.W PySem.Calls PyProof.Rows PySem.Spec PyProof.V
/-! ## the bit operations of the model, on numbers from 0 on -/
theorem mod2_of_iff {z : Nat} {P : Prop} [Decidable P] (h : z % 2 = 1 ↔ P) : z % 2 = if P then 1 else 0 := by
  by_cases hp : P
  · rw [if_pos hp]; exact h.mpr hp
  · rw [if_neg hp]; exact Nat.mod_two_ne_one.mp fun q => hp (h.mp q)
theorem xor_add_and : ∀ n a b : Nat, a < 2 ^ n → b < 2 ^ n → (a ^^^ b) + (a &&& b) = a ||| b := by
  intro n
  induction n with
  | zero => intro a b ha hb; have : a = 0 := by (first | lia | omega)
            have : b = 0 := by (first | lia | omega)
            subst a b; rfl
  | succ n ih =>
    intro a b ha hb
    have h := ih (a / 2) (b / 2) (by rw [Nat.pow_succ] at ha; (first | lia | omega)) (by rw [Nat.pow_succ] at hb; (first | lia | omega))
    have e1 := Nat.xor_div_two (a := a) (b := b)
    have e2 := Nat.and_div_two (a := a) (b := b)
    have e3 := Nat.or_div_two (a := a) (b := b)
    have m1 := Nat.xor_mod_two_eq_one (a := a) (b := b)
    have m2 := Nat.and_mod_two_eq_one (a := a) (b := b)
    have m3 := Nat.or_mod_two_eq_one (a := a) (b := b)
    rw [← e1, ← e2, ← e3] at h
    have key : (a ^^^ b) % 2 + (a &&& b) % 2 = (a ||| b) % 2 := by
      rcases Nat.mod_two_eq_zero_or_one a with ha | ha <;> rcases Nat.mod_two_eq_zero_or_one b with hb | hb <;> rw [ha, hb] at m1 m2 m3 <;> rw [mod2_of_iff m1, mod2_of_iff m2, mod2_of_iff m3] <;> rfl
    have d1 := Nat.div_add_mod (a ^^^ b) 2
    have d2 := Nat.div_add_mod (a &&& b) 2
    have d3 := Nat.div_add_mod (a ||| b) 2
    rw [← d1, ← d2, ← d3, ← h, ← key, Nat.mul_add]
    ac_rfl
theorem b_and (x y : Nat) : Builtin.bitAnd (x : Int) (y : Int) = ((x &&& y : Nat) : Int) := by
  unfold Builtin.bitAnd
  have hx : decide (0 ≤ (x : Int)) = true := decide_eq_true (Int.natCast_nonneg x)
  have hy : decide (0 ≤ (y : Int)) = true := decide_eq_true (Int.natCast_nonneg y)
  rw [hx, hy]
  rfl
theorem b_or (x y : Nat) : Builtin.bitOr (x : Int) (y : Int) = ((x ||| y : Nat) : Int) := by
  unfold Builtin.bitOr Builtin.bitAnd
  have nn : ∀ z : Int, Builtin.bitNot (Builtin.bitNot z) = z := fun z => by unfold Builtin.bitNot; (first | lia | omega)
  have hx : decide (0 ≤ Builtin.bitNot (x : Int)) = false := decide_eq_false (by unfold Builtin.bitNot; (first | lia | omega))
  have hy : decide (0 ≤ Builtin.bitNot (y : Int)) = false := decide_eq_false (by unfold Builtin.bitNot; (first | lia | omega))
  rw [hx, hy]
  simp only [nn, Int.toNat_natCast]
theorem b_xor (x y : Nat) : Builtin.bitXor (x : Int) (y : Int) = ((x ^^^ y : Nat) : Int) := by
  unfold Builtin.bitXor
  rw [b_and, b_or, ← xor_add_and (x + y) x y (Nat.lt_of_le_of_lt (Nat.le_add_right x y) Nat.lt_two_pow_self) (Nat.lt_of_le_of_lt (Nat.le_add_left y x) Nat.lt_two_pow_self)]
  (first | lia | omega)
theorem bx_u (x y : UInt8) : Builtin.bitXor (x.toNat : Int) (y.toNat : Int) = ((x ^^^ y).toNat : Int) := by rw [b_xor, UInt8.toNat_xor]
theorem ba_15 (y : UInt8) : Builtin.bitAnd (y.toNat : Int) 15 = ((y &&& 15).toNat : Int) := by
  rw [UInt8.toNat_and]; exact b_and y.toNat 15
theorem ba_31 (y : UInt8) : Builtin.bitAnd (y.toNat : Int) 31 = ((y &&& 31).toNat : Int) := by
  rw [UInt8.toNat_and]; exact b_and y.toNat 31
theorem ba_3 (y : UInt8) : Builtin.bitAnd (y.toNat : Int) 3 = ((y &&& 3).toNat : Int) := by
  rw [UInt8.toNat_and]; exact b_and y.toNat 3
theorem ba_128 (y : UInt8) : Builtin.bitAnd (y.toNat : Int) 128 = ((y &&& 128).toNat : Int) := by
  rw [UInt8.toNat_and]; exact b_and y.toNat 128
theorem u8_lt (x : UInt8) : (x.toNat : Int) < 256 := by have := x.toNat_lt; (first | lia | omega)
theorem bxu0 (x y : UInt8) : 0 ≤ Builtin.bitXor (x.toNat : Int) (y.toNat : Int) := by rw [bx_u]; (first | lia | omega)
theorem bxu1 (x y : UInt8) : Builtin.bitXor (x.toNat : Int) (y.toNat : Int) < 256 := by rw [bx_u]; exact u8_lt _
theorem bx150 (x y : UInt8) : 0 ≤ Builtin.bitXor (x.toNat : Int) (Builtin.bitAnd (y.toNat : Int) 15) := by rw [ba_15]; exact bxu0 _ _
theorem bx151 (x y : UInt8) : Builtin.bitXor (x.toNat : Int) (Builtin.bitAnd (y.toNat : Int) 15) < 256 := by rw [ba_15]; exact bxu1 _ _
theorem bx310 (x y : UInt8) : 0 ≤ Builtin.bitXor (x.toNat : Int) (Builtin.bitAnd (y.toNat : Int) 31) := by rw [ba_31]; exact bxu0 _ _
theorem bx311 (x y : UInt8) : Builtin.bitXor (x.toNat : Int) (Builtin.bitAnd (y.toNat : Int) 31) < 256 := by rw [ba_31]; exact bxu1 _ _
theorem and3_nat : ∀ n : Fin 256, Builtin.bitAnd (n.val : Int) 3 + 1 = 1 ∨ Builtin.bitAnd (n.val : Int) 3 + 1 = 2 ∨ Builtin.bitAnd (n.val : Int) 3 + 1 = 3 ∨ Builtin.bitAnd (n.val : Int) 3 + 1 = 4 := by decide +kernel
theorem and3 (x : UInt8) : Builtin.bitAnd (x.toNat : Int) 3 + 1 = 1 ∨ Builtin.bitAnd (x.toNat : Int) 3 + 1 = 2 ∨ Builtin.bitAnd (x.toNat : Int) 3 + 1 = 3 ∨ Builtin.bitAnd (x.toNat : Int) 3 + 1 = 4 := and3_nat ⟨x.toNat, x.toNat_lt⟩
/-! ## numbers built octet by octet -/
def Small (k : Nat) (a : Int) : Prop := ∃ n : Nat, a = (n : Int) ∧ n < 2 ^ k
theorem sm0 : Small 0 0 := ⟨0, rfl, by decide⟩
theorem sh8 (n : Nat) : (n : Int) * 2 ^ (Int.toNat 8) = ((n * 256 : Nat) : Int) := by
  rw [show (2 : Int) ^ (Int.toNat 8) = 256 from rfl]; (first | lia | omega)
theorem sm_step {k : Nat} {a : Int} (x : UInt8) (h : Small k a) : Small (k + 8) (Builtin.bitOr (x.toNat : Int) (a * 2 ^ (Int.toNat 8))) := by
  obtain ⟨n, rfl, h⟩ := h
  rw [sh8, b_or]
  refine ⟨_, rfl, Nat.or_lt_two_pow ?_ ?_⟩
  · have h1 := x.toNat_lt
    have h2 : 2 ^ 8 ≤ 2 ^ (k + 8) := Nat.pow_le_pow_right (by decide) (Nat.le_add_left _ _)
    have h3 : (2 : Nat) ^ 8 = 256 := by decide
    (first | lia | omega)
  · rw [Nat.pow_add]
    have h3 : (2 : Nat) ^ 8 = 256 := by decide
    rw [h3]
    (first | lia | omega)
theorem sm_abs {k : Nat} {a : Int} (h : Small k a) (hk : k ≤ 64) : a.natAbs < 2 ^ 64 := by
  obtain ⟨n, rfl, h⟩ := h
  exact Nat.lt_of_lt_of_le h (Nat.pow_le_pow_right (by decide) hk)
end Mine
end

section
open PySem PySem.W PyProof.Rows
set_option maxRecDepth 100000

namespace Mine
open PySem PySem.W PySem.Calls PyProof.Rows PySem.Spec PyProof.V
open PySem.Builtin.Int (intBits)

theorem low_toB {x : Nat} {n : Nat} (h1 : x < 256 ^ n) : (KTBy.low (x : Int) n).reverse = toB n x := by
  have e := KTBy.low_ints (x := (x : Int)) (n := n) (by (first | lia | omega)) (by rw [KTBy.p256]; exact_mod_cast h1)
  rw [← KTBy.little_eq] at e
  have k : ∀ n (x : Nat), (toB n x).reverse.map (fun c : UInt8 => ((c.toNat : Nat) : Int)) = KTBy.little n (x : Int) := by
    intro n
    induction n with
    | zero => intro x; rfl
    | succ n ih =>
      intro x
      rw [toB, List.reverse_append, List.reverse_singleton, List.singleton_append, List.map_cons, ih]
      show _ = (x : Int) % 256 :: KTBy.little n ((x : Int) / 256)
      have q : (((UInt8.ofNat (x % 256)).toNat : Nat) : Int) = (x : Int) % 256 := by
        rw [UInt8.toNat_ofNat']; (first | lia | omega)
      rw [q]
      have q2 : ((x / 256 : Nat) : Int) = (x : Int) / 256 := by (first | lia | omega)
      rw [q2]
  have inj : ∀ {a b : List UInt8}, a.map (fun c : UInt8 => ((c.toNat : Nat) : Int)) = b.map (fun c : UInt8 => ((c.toNat : Nat) : Int)) → a = b := by
    intro a
    induction a with
    | nil => intro b h; cases b with
      | nil => rfl
      | cons _ _ => cases h
    | cons x r ih => intro b h; cases b with
      | nil => cases h
      | cons y q =>
        simp only [List.map_cons, List.cons.injEq] at h
        rw [ih h.2]
        have : x.toNat = y.toNat := by (first | lia | omega)
        rw [UInt8.toNat_inj.mp this]
  have e2 := inj (e.trans (k n x).symm)
  rw [e2, List.reverse_reverse]

section
variable {prog : Program} {w : World} {M : Model} {A : Around} {E : Value → Shared → Prop} {s : Shared} {t u v : Tok}
theorem br_to {n x : Int} {Q : Value → Shared → Prop} (hn0 : 0 ≤ n) (hn : n ≤ 1000) (h0 : 0 ≤ x) (h1 : x < 256 ^ n.toNat) (h : ∀ t' k', Q (.bytes (toB n.toNat x.toNat).toArray t') { s with toks := k' }) :
    wpAny (model prog w) A (call (.builtin "int.to_bytes") [.int x t, .int n u, .str (PySem.Str.ofString "big") v]) Q E s := by
  obtain ⟨k, rfl⟩ := Int.eq_ofNat_of_zero_le hn0
  obtain ⟨X, rfl⟩ := Int.eq_ofNat_of_zero_le h0
  rw [Int.toNat_natCast] at h1 h
  rw [Int.toNat_natCast] at h
  have hk : k ≤ 1000 := by (first | lia | omega)
  refine wpAny_call_entry KTBy.slot (typeIs_int s (X : Int) t) KTBy.entry ?_ (KTBy.args _ _ _)
  have hX : X < 256 ^ k := by rw [KTBy.p256] at h1; exact_mod_cast h1
  have hb : intBits (X : Int) ≤ 8 * k := KTBy.bits_le (B := (256 : Int) ^ k) rfl h0 h1
  show wpAny _ _ (Builtin.Int.intOfSelf (.int (X : Int) t) >>= fun y => _) _ _ s
  refine wpAny_bind (wpAny_of_eq (a := (X : Int)) rfl ?_)
  show wpAny _ _ (Builtin.Int.intBindNamed "to_bytes" ["length", "byteorder", "signed"] 0 2 [.int (k : Int) u, .str (PySem.Str.ofString "big") v] [] >>= fun l => _) _ _ s
  refine wpAny_bind (wpAny_of_eq (a := [some (.int (k : Int) u), some (.str (PySem.Str.ofString "big") v), none]) (by kernel_rfl) ?_)
  show wpAny _ _ (Builtin.Int.intIndex "int.to_bytes" (.int (k : Int) u) >>= fun n => _) _ _ s
  refine wpAny_bind (wpAny_of_eq (a := (k : Int)) rfl ?_)
  refine KTBy.if_not (by show (decide ((k : Int) < -(2 ^ 63 : Int)) || decide ((k : Int) ≥ 2 ^ 63)) = false; rw [decide_eq_false (show ¬ ((k : Int) < -(2 ^ 63 : Int)) by (first | lia | omega)), decide_eq_false (show ¬ ((k : Int) ≥ 2 ^ 63) by (first | lia | omega))]; rfl) ?_
  refine wpAny_bind (wpAny_of_eq (a := PySem.Str.ofString "big") (by kernel_rfl) ?_)
  refine wpAny_bind (wpAny_of_eq (a := false) rfl ?_)
  refine wpAny_bind (wpAny_of_eq (a := false) (by kernel_rfl) ?_)
  refine wpAny_ite_false (decide_eq_false (show ¬ ((k : Int) < 0) by (first | lia | omega))) ?_
  refine wpAny_ite_false (decide_eq_false (show ¬ ((k : Int) > 2 ^ 63 - 1 - 33) by (first | lia | omega))) ?_
  refine wpAny_ite_false (decide_eq_false (show ¬ ((k : Int) > (sizeLine : Int)) by rw [sizeLine_eq]; (first | lia | omega))) ?_
  refine KTBy.if_not (by show (decide ((X : Int) < 0) && !false) = false; rw [decide_eq_false (show ¬ (X : Int) < 0 by (first | lia | omega))]; rfl) ?_
  refine KTBy.if_not (by show (_ && decide ((intBits (X : Int) : Int) > 8 * (k : Int))) = false; rw [decide_eq_false (show ¬ ((intBits (X : Int) : Int) > 8 * (k : Int)) by (first | lia | omega)), Bool.and_false]) ?_
  have hl : (KTBy.low (X : Int) (Int.toNat (k : Int))).reverse = toB k X := by rw [Int.toNat_natCast]; exact low_toB hX
  refine wpAny_bind (wpAny_mkBytes (wpAny_pure ⟨_, rfl, ?_⟩) ?_)
  · show Q (.bytes (KTBy.low (X : Int) (Int.toNat (k : Int))).reverse.toArray _) _
    rw [hl]
    exact h _ _
  · show (KTBy.low (X : Int) (Int.toNat (k : Int))).reverse.toArray.size ≤ sizeLine
    rw [hl, List.size_toArray, toB_length, sizeLine_eq]; (first | lia | omega)

theorem br_grown {n k : Nat} {Q : Value → Shared → Prop} (hn : n < 256 ^ k) (hk : k ≤ 1000) (h : Q (.int (n : Int) s.toks) { s with toks := s.toks + 1 }) : wpAny M A (mkIntGrown (n : Int)) Q E s := by
  unfold mkIntGrown
  have hl : ¬ ((n : Int).natAbs.log2 ≥ bitsLine) := by
    rw [Int.natAbs_natCast]
    have hb : bitsLine = 134217728 := by first | rfl | decide
    by_cases hz : n = 0
    · subst hz
      rw [hb]
      decide
    · have e : (256 : Nat) ^ k = 2 ^ (8 * k) := by rw [Nat.pow_mul]
      have h1 := (Nat.log2_lt hz).mpr (e ▸ hn)
      (first | lia | omega)
  rw [if_neg hl]
  exact wpAny_mkInt h
theorem br_from_tree {xs : List UInt8} {P : PySem.Fin → Shared → Prop} (hl : xs.length ≤ 1000) (h : P (.done (.ret (.int (valB xs) s.toks))) { s with toks := s.toks + 1 }) :
    wpAny M A (Builtin.«int.from_bytes» ⟨[.type "int", .bytes xs.toArray t, .str (PySem.Str.ofString "big") u], []⟩) P E s := by
  unfold Builtin.«int.from_bytes»
  refine wpAny_bind (wpAny_of_eq (a := true) KFB.type_int ?_)
  refine KFB.if_not rfl ?_
  refine wpAny_bind (wpAny_of_eq (a := true) F.conv_sub_int ?_)
  refine KFB.if_not rfl ?_
  refine wpAny_bind (wpAny_of_eq (a := [some (.bytes xs.toArray t), some (.str (PySem.Str.ofString "big") u), none]) (by kernel_rfl) ?_)
  refine wpAny_bind (wpAny_of_eq (a := PySem.Str.ofString "big") (by kernel_rfl) ?_)
  refine wpAny_bind (wpAny_of_eq (a := false) rfl ?_)
  refine wpAny_bind (wpAny_of_eq (a := false) (by kernel_rfl) ?_)
  refine wpAny_bind (wpAny_of_eq (a := xs.toArray) rfl ?_)
  show wpAny _ _ (mkIntGrown (xs.foldl (fun (acc : Int) (b : UInt8) => acc * 256 + (b.toNat : Int)) ((0 : Nat) : Int)) >>= fun v => _) _ _ _
  rw [KFB.foldI_eq]
  refine wpAny_bind (br_grown (valB_lt xs) hl ?_)
  refine KFB.if_so (by decide +kernel) ?_
  exact wpAny_bind (wpAny_pure (wpAny_pure h))
theorem br_from {h₀ : Heap} {L : Addr} {news : List (Addr × Obj)} {x : Addr} {xs : List UInt8} {Q : Value → Shared → Prop} (N : News h₀ L s.heap news) (hm : (x, KFB.bound) ∈ news) (hl : xs.length ≤ 1000)
    (h : ∀ t' k, Q (.int (valB xs) t') { s with toks := k }) : wpAny (model prog w) A (call (.ref x) [.bytes xs.toArray t, .str (PySem.Str.ofString "big") u]) Q E s :=
  KFB.call_of (KFB.at_of N hm) (fun z => br_from_tree hl z) (h _ _)

theorem br_add {xs ys : List UInt8} {Q : Value → Shared → Prop} (hx : xs.length ≤ 100000) (hy : ys.length ≤ 100000) (h : ∀ t' k, Q (.bytes (xs ++ ys).toArray t') { s with toks := k }) :
    wpAny (model prog w) A (binaryOp .Add (.bytes xs.toArray t) (.bytes ys.toArray u)) Q E s := by
  refine KBy.add_bytes (by simp only [List.size_toArray]; (first | lia | omega)) fun t' k => ?_
  rw [List.append_toArray]
  exact h t' k
theorem br_len {xs : List UInt8} {Q : Value → Shared → Prop} (hx : xs.length ≤ 100000) (h : ∀ t' k, Q (.int xs.length t') { s with toks := k }) :
    wpAny (model prog w) A (call (.builtin "len") [.bytes xs.toArray t]) Q E s := by
  refine len_bytes (by simp only [List.size_toArray]; (first | lia | omega)) ?_
  have := h (s.toks + 1) (s.toks + 1 + 1)
  rw [← List.size_toArray] at this
  exact this
theorem br_eq {xs ys : List UInt8} {Q : Value → Shared → Prop} (h : Q (.bool (decide (xs = ys))) s) : wpAny (model prog w) A (compareOp .Eq (.bytes xs.toArray t) (.bytes ys.toArray u)) Q E s := by
  refine eq_bytes ?_
  have e : (xs.toArray.toList == ys.toArray.toList) = decide (xs = ys) := by
    show (xs == ys) = _
    by_cases q : xs = ys
    · rw [q]; simp
    · rw [decide_eq_false q]; exact beq_eq_false_iff_ne.mpr q
  rw [e]; exact h
theorem br_ne {xs ys : List UInt8} {Q : Value → Shared → Prop} (h : Q (.bool (decide (xs ≠ ys))) s) : wpAny (model prog w) A (compareOp .NotEq (.bytes xs.toArray t) (.bytes ys.toArray u)) Q E s := by
  refine ne_bytes ?_
  have e : (xs.toArray.toList != ys.toArray.toList) = decide (xs ≠ ys) := by
    show (xs != ys) = _
    by_cases q : xs = ys
    · rw [q]; simp
    · rw [decide_eq_true q]; exact bne_iff_ne.mpr q
  rw [e]; exact h
theorem br_item {xs : List UInt8} {i : Int} {ui : Tok} {value slice : PySem.Expr} {Q : Value → Shared → Prop} (hx : xs.length ≤ 100000) (h0 : 0 ≤ i) (h1 : i < (xs.length : Int)) (h : ∀ t' k, Q (.int (xs.getD i.toNat 0).toNat t') { s with toks := k })
    (hs : subscripted slice false (.bytes xs.toArray t) (.int i ui) = operate [.bytes xs.toArray t, .int i ui] (getItem (.bytes xs.toArray t) (.int i ui)) := by with_unfolding_all rfl)
    (ht : ∀ r, letTemporaryGo value (.bytes xs.toArray t) r = pure () := by intro _; with_unfolding_all rfl) :
    wpAny (model prog w) A (subscriptTail value slice (.bytes xs.toArray t) (.int i ui)) Q E s :=
  KBy.item_N (by (first | lia | omega)) h0 h1 (h _ _) hs ht

theorem clipAt_le {n : Nat} {k : Int} (hk : 0 ≤ k) : clipAt n k = min k.toNat n := by
  obtain ⟨j, rfl⟩ := Int.eq_ofNat_of_zero_le hk
  rw [clipAt_nat, Int.toNat_natCast]
theorem drop_min (xs : List UInt8) (i : Nat) : xs.drop (min i xs.length) = xs.drop i := by
  by_cases h : i ≤ xs.length
  · rw [Nat.min_eq_left h]
  · rw [Nat.min_eq_right (by (first | lia | omega)), List.drop_length, List.drop_eq_nil_of_le (by (first | lia | omega))]
def cutB (xs : List UInt8) (i j : Int) : List UInt8 := (xs.drop i.toNat).take (j.toNat - i.toNat)
theorem take_min' (xs : List UInt8) (i j : Nat) : (xs.drop i).take (min j xs.length - min i xs.length) = (xs.drop i).take (j - i) := by
  by_cases hj : j ≤ xs.length
  · by_cases hi : i ≤ xs.length
    · rw [Nat.min_eq_left hj, Nat.min_eq_left hi]
    · rw [List.drop_eq_nil_of_le (by (first | lia | omega))]; simp
  · by_cases hi : i ≤ xs.length
    · rw [Nat.min_eq_right (by (first | lia | omega)), Nat.min_eq_left hi, List.take_of_length_le (by simp), List.take_of_length_le (by simp; (first | lia | omega))]
    · rw [List.drop_eq_nil_of_le (by (first | lia | omega))]; simp
theorem cut_eq {xs : List UInt8} {i j : Int} (hi : 0 ≤ i) (hj : 0 ≤ j) : KBy.picked xs.toArray (some i) (some j) = (cutB xs i j).toArray := by
  rw [KBc.picked_eq]
  show ((xs.drop (clipAt xs.length i)).take (clipAt xs.length j - clipAt xs.length i)).toArray = _
  rw [clipAt_le hi, clipAt_le hj, drop_min, take_min']
  rfl
theorem from_eq {xs : List UInt8} {i : Int} (hi : 0 ≤ i) : KBy.picked xs.toArray (some i) none = (xs.drop i.toNat).toArray := by
  rw [KBc.picked_eq]
  show ((xs.drop (clipAt xs.length i)).take (xs.length - clipAt xs.length i)).toArray = _
  rw [clipAt_le hi, drop_min]
  congr 1
  refine List.take_of_length_le ?_
  rw [List.length_drop]; (first | lia | omega)
theorem upto_eq {xs : List UInt8} {j : Int} (hj : 0 ≤ j) : KBy.picked xs.toArray none (some j) = (xs.take j.toNat).toArray := by
  rw [KBc.picked_eq]
  show ((xs.drop 0).take (clipAt xs.length j - 0)).toArray = _
  rw [clipAt_le hj, List.drop_zero, Nat.sub_zero]
  congr 1
  by_cases h : j.toNat ≤ xs.length
  · rw [Nat.min_eq_left h]
  · rw [Nat.min_eq_right (by (first | lia | omega)), List.take_length, List.take_of_length_le (by (first | lia | omega))]
section
variable {value slice : PySem.Expr} {h₀ : Heap} {L : Addr} {m : PySem.Str → Option Value} {news : List (Addr × Obj)} {l r : Value} {lo hi : Option Int} {Q : Value → Shared → Prop} {xs ys : List UInt8} {i j : Int} {ti tj : Tok}
theorem br_slice (hF : Fr h₀ L s.heap m) (hN : News h₀ L s.heap news) (hl : IsPart l lo) (hu : IsPart r hi) (hz : xs.length ≤ 100000) (he : KBy.picked xs.toArray lo hi = ys.toArray)
    (h : ∀ h' t' k, Fr h₀ L h' m → News h₀ L h' news → Q (.bytes ys.toArray t') { s with heap := h', toks := k })
    (hs : subscripted slice false (.bytes xs.toArray t) (.ref s.heap.objs.size) = operate [.ref s.heap.objs.size, .bytes xs.toArray t] (getItem (.bytes xs.toArray t) (.ref s.heap.objs.size)) := by with_unfolding_all rfl)
    (ht : ∀ r, letTemporaryGo value (.bytes xs.toArray t) r = pure () := by intro _; with_unfolding_all rfl) :
    wpAny (model prog w) A (subscriptTail value slice (.bytes xs.toArray t) (.ref s.heap.objs.size)) Q E { s with heap := s.heap.push { cls := .type "slice", data := .fields #[l, r, .none] } } :=
  KBc.slice_K hF hN (ks := KBw.bInts xs.toArray) rfl hl hu (by rw [KBw.ints_length, List.size_toArray]; (first | lia | omega)) (fun h' t' k F N _ => he ▸ h h' t' k F N) hs ht
theorem br_cut (hF : Fr h₀ L s.heap m) (hN : News h₀ L s.heap news) (hz : xs.length ≤ 100000) (h0 : 0 ≤ i) (h1 : 0 ≤ j)
    (h : ∀ h' t' k, Fr h₀ L h' m → News h₀ L h' news → Q (.bytes (cutB xs i j).toArray t') { s with heap := h', toks := k })
    (hs : subscripted slice false (.bytes xs.toArray t) (.ref s.heap.objs.size) = operate [.ref s.heap.objs.size, .bytes xs.toArray t] (getItem (.bytes xs.toArray t) (.ref s.heap.objs.size)) := by with_unfolding_all rfl)
    (ht : ∀ r, letTemporaryGo value (.bytes xs.toArray t) r = pure () := by intro _; with_unfolding_all rfl) :
    wpAny (model prog w) A (subscriptTail value slice (.bytes xs.toArray t) (.ref s.heap.objs.size)) Q E { s with heap := s.heap.push { cls := .type "slice", data := .fields #[.int i ti, .int j tj, .none] } } :=
  br_slice hF hN (by constructor) (by constructor) hz (cut_eq h0 h1) h hs ht
theorem br_cutFrom (hF : Fr h₀ L s.heap m) (hN : News h₀ L s.heap news) (hz : xs.length ≤ 100000) (h0 : 0 ≤ i)
    (h : ∀ h' t' k, Fr h₀ L h' m → News h₀ L h' news → Q (.bytes (xs.drop i.toNat).toArray t') { s with heap := h', toks := k })
    (hs : subscripted slice false (.bytes xs.toArray t) (.ref s.heap.objs.size) = operate [.ref s.heap.objs.size, .bytes xs.toArray t] (getItem (.bytes xs.toArray t) (.ref s.heap.objs.size)) := by with_unfolding_all rfl)
    (ht : ∀ r, letTemporaryGo value (.bytes xs.toArray t) r = pure () := by intro _; with_unfolding_all rfl) :
    wpAny (model prog w) A (subscriptTail value slice (.bytes xs.toArray t) (.ref s.heap.objs.size)) Q E { s with heap := s.heap.push { cls := .type "slice", data := .fields #[.int i ti, .none, .none] } } :=
  br_slice hF hN (by constructor) (by constructor) hz (from_eq h0) h hs ht
theorem br_cutTo (hF : Fr h₀ L s.heap m) (hN : News h₀ L s.heap news) (hz : xs.length ≤ 100000) (h1 : 0 ≤ j)
    (h : ∀ h' t' k, Fr h₀ L h' m → News h₀ L h' news → Q (.bytes (xs.take j.toNat).toArray t') { s with heap := h', toks := k })
    (hs : subscripted slice false (.bytes xs.toArray t) (.ref s.heap.objs.size) = operate [.ref s.heap.objs.size, .bytes xs.toArray t] (getItem (.bytes xs.toArray t) (.ref s.heap.objs.size)) := by with_unfolding_all rfl)
    (ht : ∀ r, letTemporaryGo value (.bytes xs.toArray t) r = pure () := by intro _; with_unfolding_all rfl) :
    wpAny (model prog w) A (subscriptTail value slice (.bytes xs.toArray t) (.ref s.heap.objs.size)) Q E { s with heap := s.heap.push { cls := .type "slice", data := .fields #[.none, .int j tj, .none] } } :=
  br_slice hF hN (by constructor) (by constructor) hz (upto_eq h1) h hs ht
end
end
end Mine
end

section
open PySem PySem.W PyProof.Rows
set_option maxRecDepth 100000

namespace Mine
open PySem PySem.W PySem.Calls PyProof.Rows PySem.Spec PyProof.V

theorem bo_slot_get : Slot "bytearray" "__getitem__" "bytearray.__getitem__" :=
  .of (owner := "bytearray") (n := "__getitem__") (by rw [typeLookup_type, builtinLookup_eq_fast]; kernel_rfl) (by decide +kernel) (by decide +kernel) (by decide +kernel)
    (by first | exact .inl (by decide +kernel) | exact .inr (by decide +kernel)) (by rw [isSubtype_type]; kernel_rfl)
theorem bo_slot_set : Slot "bytearray" "__setitem__" "bytearray.__setitem__" :=
  .of (owner := "bytearray") (n := "__setitem__") (by rw [typeLookup_type, builtinLookup_eq_fast]; kernel_rfl) (by decide +kernel) (by decide +kernel) (by decide +kernel)
    (by first | exact .inl (by decide +kernel) | exact .inr (by decide +kernel)) (by rw [isSubtype_type]; kernel_rfl)
theorem bo_entry_get : entryFor table "bytearray.__getitem__" = some Builtin.«bytearray.__getitem__» := entryFor_of_tree (by kernel_rfl)
theorem bo_entry_set : entryFor table "bytearray.__setitem__" = some Builtin.«bytearray.__setitem__» := entryFor_of_tree (by kernel_rfl)
theorem bo_args_get (a b : Value) : argsOk "bytearray.__getitem__" ⟨[a, b], []⟩ := by unfold argsOk; kernel_rfl
theorem bo_args_set (a b c : Value) : argsOk "bytearray.__setitem__" ⟨[a, b, c], []⟩ := by unfold argsOk; kernel_rfl
theorem bo_noBytes : typeLookup (.type "bytearray") "__bytes__" = pure none := by rw [typeLookup_type, builtinLookup_eq_fast]; kernel_rfl
theorem bo_noIndex : typeLookup (.type "bytearray") "__index__" = pure none := by rw [typeLookup_type, builtinLookup_eq_fast]; kernel_rfl

section
variable {prog : Program} {w : World} {M : Model} {A : Around} {E : Value → Shared → Prop} {s : Shared} {a : Addr} {xs : List UInt8} {i n : Int} {t u : Tok}
theorem bo_fits (h0 : 0 ≤ i) (h1 : i < 100000) : Builtin.Bytes.fitsIndex i = true := by
  simp only [Builtin.Bytes.fitsIndex, Bool.and_eq_true, decide_eq_true_eq]; (first | lia | omega)
theorem bo_subscript {Q : Option Int → Shared → Prop} (h0 : 0 ≤ i) (h1 : i < 100000) (h : Q (some i) s) : wpAny M A (Builtin.Bytes.subscript? (.int i t)) Q E s := by
  unfold Builtin.Bytes.subscript?
  refine wpAny_bind (wpAny_specialOf (T := "int") (typeIs_int _ _ _) F.slot_int_index.lookup ?_)
  show wpAny _ _ (asIndex (.int i t) >>= fun k => _) _ _ _
  refine wpAny_bind (wpAny_of_eq (a := i) rfl ?_)
  show wpAny M A (if (!Builtin.Bytes.fitsIndex i) = true then _ else pure (some i)) _ E s
  rw [bo_fits h0 h1]
  exact wpAny_pure h
theorem bo_seqIndex {n : Nat} (h0 : 0 ≤ i) (h1 : i < (n : Int)) : seqIndex? i n = some i.toNat := by
  have hn : ¬ i < 0 := by (first | lia | omega)
  simp [seqIndex?, hn, h0, h1]

theorem bo_getItem {Q : Value → Shared → Prop} (ho : s.heap.get? a = some (baObj xs.toArray)) (hz : xs.length ≤ 100000) (h0 : 0 ≤ i) (h1 : i < (xs.length : Int))
    (h : ∀ t' k, Q (.int (xs.getD i.toNat 0).toNat t') { s with toks := k }) : wpAny (model prog w) A (getItem (.ref a) (.int i u)) Q E s := by
  have hT := baObj_type ho
  refine wpAny_getItem_slot hT (by decide) bo_slot_get (wpAny_call_entry bo_slot_get hT bo_entry_get ?_ (bo_args_get _ _))
  show wpAny _ _ (Builtin.Bytes.subscript? (.int i u) >>= fun r => _) _ _ s
  refine wpAny_bind (bo_subscript h0 (by (first | lia | omega)) ?_)
  show wpAny _ _ (Builtin.Bytes.payload (.ref a) >>= fun b => _) _ _ s
  refine wpAny_bind (ba_payload ho ?_)
  have e : (seqIndex? i xs.toArray.size).bind (xs.toArray[·]?) = some (xs.getD i.toNat 0) := by
    rw [List.size_toArray, bo_seqIndex h0 h1]
    have hl : i.toNat < xs.length := by (first | lia | omega)
    simp [hl]
  rw [e]
  show wpAny _ _ (mkInt ((xs.getD i.toNat 0).toNat : Int) >>= fun v => _) _ _ _
  exact wpAny_bind (wpAny_mkInt (wpAny_pure ⟨_, rfl, h _ _⟩))
theorem bo_tail {value slice : PySem.Expr} {Q : Value → Shared → Prop} (ho : s.heap.get? a = some (baObj xs.toArray)) (hz : xs.length ≤ 100000) (h0 : 0 ≤ i) (h1 : i < (xs.length : Int))
    (h : ∀ t' k, Q (.int (xs.getD i.toNat 0).toNat t') { s with toks := k })
    (hs : subscripted slice false (.ref a) (.int i u) = operate [.ref a, .int i u] (getItem (.ref a) (.int i u)) := by with_unfolding_all rfl) :
    wpAny (model prog w) A (subscriptTail value slice (.ref a) (.int i u)) Q E s :=
  tail_any (baObj_type ho) bo_slot_get.lookup (bo_getItem ho hz h0 h1 h) hs

theorem bo_setItem {Q : Unit → Shared → Prop} (ho : s.heap.get? a = some (baObj xs.toArray)) (hz : xs.length ≤ 100000) (h0 : 0 ≤ i) (h1 : i < (xs.length : Int)) (hn0 : 0 ≤ n) (hn1 : n < 256)
    (h : ∀ h', h'.get? a = some (baObj (xs.set i.toNat n.toNat.toUInt8).toArray) → Heap.SameBut a s.heap h' → Q () { s with heap := h' }) :
    wpAny (model prog w) A (setItem (.ref a) (.int i u) (.int n t)) Q E s := by
  have hT := baObj_type ho
  unfold setItem
  refine wpAny_holding ?_
  refine wpAny_bind (wpAny_sequenceKey hT (by decide) ?_)
  refine wpAny_bind (wpAny_callSpecial?_slot (name := Str.ofString "__setitem__") hT bo_slot_set
    (wpAny_call_entry bo_slot_set hT bo_entry_set ?_ (bo_args_set _ _ _)))
  show wpAny _ _ (Builtin.Bytes.subscript? (.int i u) >>= fun r => _) _ _ s
  refine wpAny_bind (bo_subscript h0 (by (first | lia | omega)) ?_)
  show wpAny _ _ (Builtin.Bytes.byteValue (.int n t) >>= fun x => _) _ _ s
  refine wpAny_bind ?_
  unfold Builtin.Bytes.byteValue
  refine wpAny_bind (wpAny_of_eq (a := n) rfl ?_)
  refine bm_if_false (by simp only [Bool.or_eq_false_iff, decide_eq_false_iff_not]; (first | lia | omega)) ?_
  refine wpAny_pure ?_
  show wpAny _ _ (Builtin.Bytes.payload (.ref a) >>= fun b => _) _ _ s
  refine wpAny_bind (ba_payload ho ?_)
  rw [List.size_toArray, bo_seqIndex h0 h1]
  show wpAny _ _ (Builtin.Bytes.write (.ref a) (·.setIfInBounds i.toNat n.toNat.toUInt8) >>= fun _ => _) _ _ _
  have e : xs.toArray.setIfInBounds i.toNat n.toNat.toUInt8 = (xs.set i.toNat n.toNat.toUInt8).toArray := by simp
  refine wpAny_bind (ba_write ho (by rw [e, List.size_toArray, List.length_set, sizeLine_eq]; (first | lia | omega)) fun h' g k => ?_)
  rw [e] at g
  exact wpAny_bind (wpAny_pure (wpAny_pure ⟨_, rfl, wpAny_pure (h h' g k)⟩))

theorem bo_bytes {Q : Value → Shared → Prop} (ho : s.heap.get? a = some (baObj xs.toArray)) (hz : xs.length ≤ 100000)
    (h : ∀ t' k, Q (.bytes xs.toArray t') { s with toks := k }) : wpAny (model prog w) A (call (.type "bytes") [.ref a]) Q E s := by
  have hT := baObj_type ho
  refine callType_codes (Q₁ := fun obj s₁ => s₁.TypeIs obj "bytes" ∧ Q obj s₁) F.bm_called (F.bm_typeCall _) F.entry_object_init ?_ fun obj s₁ h₁ => ?_
  · refine codeAny_of_tree ?_
    show wpAny _ A.in1.in1 (do checkBuiltinCall "bytes.__new__" ⟨[.type "bytes", .ref a], []⟩; again (.builtin "bytes.__new__" ⟨[.type "bytes", .ref a], []⟩)) _ _ s
    refine wpAny_bind (wpAny_of_eq (F.bm_newCall _) (wpAny_pure ⟨plainId_quiet F.bm_plain _, codeAny_builtin F.bm_entry ?_⟩))
    rw [Around.under_plainId F.bm_plain _]
    unfold Builtin.«bytes.__new__»
    refine wpAny_bind (wpAny_of_eq (a := true) rfl ?_)
    refine bm_if_false rfl ?_
    refine wpAny_bind (wpAny_of_eq F.bm_sub ?_)
    refine bm_if_false rfl ?_
    refine wpAny_bind (wpAny_of_eq (F.bm_bind _) ?_)
    refine wpAny_bind (wpAny_of_eq (a := ()) rfl ?_)
    refine wpAny_bind (wpAny_of_eq (a := ()) rfl ?_)
    refine bm_if_false rfl ?_
    refine wpAny_bind (wpAny_specialOf hT bo_noBytes ?_)
    refine wpAny_bind (wpAny_bind ?_)
    show wpAny _ _ (load a >>= _) _ _ _
    refine wpAny_bind (wpAny_load ho ?_)
    refine wpAny_pure (wpAny_pure ?_)
    refine bm_if_false rfl ?_
    refine wpAny_bind (wpAny_specialOf hT bo_noIndex ?_)
    refine bm_if_true rfl ?_
    first
      | show wpAny _ _ (Builtin.Bytes.buffer? "bytes.__new__" (.ref a) true >>= _) _ _ _
      | (refine wpAny_bind ?_; show wpAny _ _ (Builtin.Bytes.buffer? "bytes.__new__" (.ref a) true >>= _) _ _ _)
    refine wpAny_bind ?_
    unfold Builtin.Bytes.buffer?
    refine wpAny_bind (wpAny_specialOf hT ba_buffer ?_)
    dsimp only
    refine wpAny_bind (ba_ownSlot ho ba_buffer (by decide +kernel) (by decide +kernel) ?_)
    simp only [Bool.not_true, Bool.false_eq_true, if_false]
    refine wpAny_bind (wpAny_specialOf hT ba_buffer ?_)
    refine wpAny_bind (ba_ownRelease ho ?_)
    simp only [Bool.false_eq_true, if_false]
    refine wpAny_bind (ba_payload ho (wpAny_pure ?_))
    refine wpAny_bind (wpAny_rule ?_)
    refine wpAny_bind ?_
    have hzz : xs.toArray.size ≤ sizeLine := by rw [List.size_toArray, sizeLine_eq]; (first | lia | omega)
    refine wpAny_mkBytes ?_ hzz
    show wpAny _ _ (if (Value.type "bytes" == Value.type "bytes") = true then _ else _) _ _ _
    refine bm_if_true (by decide) ?_
    exact wpAny_pure ⟨typeIs_bytes _ _ _, h _ _⟩
  · exact ⟨h₁.1, F.args_object_init_2 obj _, object_init_meets F.bm_called.init.lookup F.bm_called.made (by decide) prog w A.in1 _ s₁ ⟨h₁.1, rfl, h₁.2⟩⟩

theorem bo_meets_slice (b : Array UInt8) (x a : Addr) {l u : Value} {lo hi : Option Int} (hl : IsPart l lo) (hu : IsPart u hi) {Q : PySem.Fin → Shared → Prop} (hx : s.heap.get? x = some (baObj b)) (hS : s.heap.IsSliceOf a l u .none) (hsz : (KBy.picked b lo hi).size ≤ sizeLine)
    (h : Q (.done (.ret (.ref s.heap.objs.size))) { s with heap := s.heap.push (baObj (KBy.picked b lo hi)) }) :
    wpAny (model prog w) A (Builtin.«bytearray.__getitem__» ⟨[.ref x, .ref a], []⟩) Q E s := by
  obtain ⟨o, ho, hc, hd⟩ := hS
  have hT : s.TypeIs (.ref a) "slice" := ⟨o, ho, hc⟩
  show wpAny _ _ (Builtin.Bytes.subscript? (.ref a) >>= fun r => _) _ _ s
  refine wpAny_bind ?_
  unfold Builtin.Bytes.subscript?
  refine wpAny_bind (wpAny_specialOf hT slice_no_index (wpAny_pure ?_))
  refine wpAny_bind (wpAny_typeOf hT ?_)
  show wpAny _ _ (Builtin.Bytes.sliceParts (.ref a) >>= fun r => _) _ _ s
  refine wpAny_bind ?_
  unfold Builtin.Bytes.sliceParts
  refine wpAny_bind (wpAny_field (x := .none) ho hd rfl ?_)
  kby_none
  refine wpAny_ite (KBy.ite_no (show ¬ ((Value.none == rawInt 0) = true) from Bool.false_ne_true) ?_)
  refine wpAny_bind (wpAny_field (x := l) ho hd rfl ?_)
  have go : wpAny (model prog w) A (sliceIndices (rawPart lo) (rawPart hi) (rawPart none) b.size) (fun r s' => r = sliceBounds lo hi none b.size ∧ s' = s) (fun _ _ => False) s :=
    wpAny_of_eq (sliceIndices_raw lo hi none b.size (fun e => nomatch e)) ⟨rfl, rfl⟩
  cases hl <;> cases hu <;> (first
    | (kby_none; (refine wpAny_bind (wpAny_field (x := .none) ho hd rfl ?_)); kby_none)
    | (kby_none; (refine wpAny_bind (wpAny_field (x := .int _ _) ho hd rfl ?_)); kby_int)
    | (kby_int; (refine wpAny_bind (wpAny_field (x := .none) ho hd rfl ?_)); kby_none)
    | (kby_int; (refine wpAny_bind (wpAny_field (x := .int _ _) ho hd rfl ?_)); kby_int)) <;> refine wpAny_pure ?_
  all_goals
    show wpAny _ _ (Builtin.Bytes.payload (.ref x) >>= fun b => _) _ _ s
    refine wpAny_bind (ba_payload hx ?_)
    refine wpAny_bind (wpAny_mono go (fun r s' hr => ?_) fun _ _ e => e.elim)
    obtain ⟨hr1, hr2⟩ := hr
    subst hr1 hr2
    refine wpAny_bind ?_
    unfold Builtin.Bytes.newBytearray
    exact wpAny_newObj_type (wpAny_pure h) hsz
/-- a cut of a bytearray up to a place: a new bytearray -/
theorem bo_cutTo {value slice : PySem.Expr} {h₀ : Heap} {L : Addr} {m : PySem.Str → Option Value} {news : List (Addr × Obj)} {j : Int} {tj : Tok} {Q : Value → Shared → Prop} (hF : Fr h₀ L s.heap m) (hN : News h₀ L s.heap news) (hm : (a, baObj xs.toArray) ∈ news) (hz : xs.length ≤ 100000) (h1 : 0 ≤ j)
    (h : ∀ h' x, Fr h₀ L h' m → News h₀ L h' ((x, baObj (xs.take j.toNat).toArray) :: news) → (∀ p ∈ news, p.1 < x) → Q (.ref x) { s with heap := h' })
    (hs : subscripted slice false (.ref a) (.ref s.heap.objs.size) = operate [.ref s.heap.objs.size, .ref a] (getItem (.ref a) (.ref s.heap.objs.size)) := by with_unfolding_all rfl) :
    wpAny (model prog w) A (subscriptTail value slice (.ref a) (.ref s.heap.objs.size)) Q E { s with heap := s.heap.push { cls := .type "slice", data := .fields #[.none, .int j tj, .none] } } := by
  have ho : s.heap.get? a = some (baObj xs.toArray) := hN.get hm
  have ho' : (s.heap.push { cls := .type "slice", data := .fields #[.none, .int j tj, .none] }).get? a = some (baObj xs.toArray) := Heap.get?_push_of_some _ ho
  have hT : ({ s with heap := s.heap.push { cls := .type "slice", data := .fields #[.none, .int j tj, .none] } } : Shared).TypeIs (.ref a) "bytearray" := baObj_type ho'
  have e := upto_eq (xs := xs) h1
  have F1 := hF.push { cls := .type "slice", data := .fields #[.none, .int j tj, .none] }
  have N1 := News.pushKeep hN { cls := .type "slice", data := .fields #[.none, .int j tj, .none] }
  refine tail_any hT bo_slot_get.lookup (wpAny_getItem_slot hT (by decide) bo_slot_get (wpAny_call_entry bo_slot_get hT bo_entry_get ?_ (bo_args_get _ _))) hs
  refine bo_meets_slice (lo := none) (hi := some j) xs.toArray a _ (by constructor) (by constructor) ho' (Heap.IsSliceOf.new _ _ _ _) ?_ ⟨_, rfl, ?_⟩
  · rw [e, List.size_toArray, List.length_take, sizeLine_eq]; (first | lia | omega)
  · rw [e]
    exact h _ _ (F1.push _) (News.push F1 N1 _) fun p hp => Heap.lt_size (N1 p hp).1
end
end Mine
end

section
open PySem PySem.W PyProof.Rows
set_option maxRecDepth 100000

namespace Mine
open PySem PySem.W PySem.Calls PyProof.Rows PySem.Spec PyProof.V PyProof.Rows.F
section
variable {prog : Program} {w : World} {A : Around} {E : Value → Shared → Prop} {s : Shared} {n : Int} {t : Tok}
theorem int_noBytes : typeLookup (.type "int") "__bytes__" = pure none := by rw [typeLookup_type, builtinLookup_eq_fast]; kernel_rfl
theorem int_index : typeLookup (.type "int") "__index__" = pure (some (.builtin "int.__index__")) := by rw [typeLookup_type, builtinLookup_eq_fast]; kernel_rfl
theorem br_zeros {Q : Value → Shared → Prop} (h0 : 0 ≤ n) (h1 : n ≤ 1000)
    (h : ∀ t' k, Q (.bytes (List.replicate n.toNat (0 : UInt8)).toArray t') { s with toks := k }) : wpAny (model prog w) A (call (.type "bytes") [.int n t]) Q E s := by
  have hT : s.TypeIs (.int n t) "int" := typeIs_int s n t
  refine callType_codes (Q₁ := fun obj s₁ => s₁.TypeIs obj "bytes" ∧ Q obj s₁) F.bm_called (F.bm_typeCall _) F.entry_object_init ?_ fun obj s₁ h₁ => ?_
  · refine codeAny_of_tree ?_
    show wpAny _ A.in1.in1 (do checkBuiltinCall "bytes.__new__" ⟨[.type "bytes", .int n t], []⟩; again (.builtin "bytes.__new__" ⟨[.type "bytes", .int n t], []⟩)) _ _ s
    refine wpAny_bind (wpAny_of_eq (F.bm_newCall _) (wpAny_pure ⟨plainId_quiet F.bm_plain _, codeAny_builtin F.bm_entry ?_⟩))
    rw [Around.under_plainId F.bm_plain _]
    unfold Builtin.«bytes.__new__»
    refine wpAny_bind (wpAny_of_eq (a := true) rfl ?_)
    refine bm_if_false rfl ?_
    refine wpAny_bind (wpAny_of_eq F.bm_sub ?_)
    refine bm_if_false rfl ?_
    refine wpAny_bind (wpAny_of_eq (F.bm_bind _) ?_)
    refine wpAny_bind (wpAny_of_eq (a := ()) rfl ?_)
    refine wpAny_bind (wpAny_of_eq (a := ()) rfl ?_)
    refine bm_if_false rfl ?_
    refine wpAny_bind (wpAny_specialOf hT int_noBytes ?_)
    refine wpAny_bind (wpAny_of_eq (a := false) rfl ?_)
    refine bm_if_false rfl ?_
    refine wpAny_bind (wpAny_specialOf hT int_index ?_)
    refine bm_if_false rfl ?_
    refine wpAny_bind (wpAny_attempt (wpAny_of_eq (a := n) rfl ?_))
    dsimp only
    refine bm_if_false (by unfold Builtin.Bytes.fitsIndex; simp only [Bool.not_eq_false', Bool.and_eq_true, decide_eq_true_eq]; (first | lia | omega)) ?_
    refine wpAny_ite (KBy.ite_no (show ¬ (n < 0) by (first | lia | omega)) ?_)
    refine wpAny_ite (KBy.ite_no (show ¬ (n > 2 ^ 63 - 34) by (first | lia | omega)) ?_)
    refine bm_if_false (decide_eq_false (by rw [sizeLine_eq]; (first | lia | omega))) ?_
    refine wpAny_bind (wpAny_rule ?_)
    refine wpAny_bind ?_
    have e : (Array.replicate n.toNat (0 : UInt8)) = (List.replicate n.toNat (0 : UInt8)).toArray := by simp
    rw [e]
    refine wpAny_mkBytes ?_ (by rw [List.size_toArray, List.length_replicate, sizeLine_eq]; (first | lia | omega))
    show wpAny _ _ (if (Value.type "bytes" == Value.type "bytes") = true then _ else _) _ _ _
    refine bm_if_true (by decide) ?_
    exact wpAny_pure ⟨typeIs_bytes _ _ _, h _ _⟩
  · exact ⟨h₁.1, F.args_object_init_2 obj _, object_init_meets F.bm_called.init.lookup F.bm_called.made (by decide) prog w A.in1 _ s₁ ⟨h₁.1, rfl, h₁.2⟩⟩
theorem br_zerosX {Q : Value → Shared → Prop} (h0 : 0 ≤ n) (h1 : n ≤ 1000)
    (h : ∀ (xs : List UInt8) t' k, (xs.length : Int) = n → Q (.bytes xs.toArray t') { s with toks := k }) : wpAny (model prog w) A (call (.type "bytes") [.int n t]) Q E s :=
  br_zeros h0 h1 fun t' k => h _ t' k (by rw [List.length_replicate]; (first | lia | omega))
end
end Mine
end

section
open PySem PySem.W PyProof.Rows
set_option maxRecDepth 100000

namespace Mine
open PySem PySem.W PySem.Calls PyProof.Rows PySem.Spec PyProof.V

theorem cutB_length (xs : List UInt8) (i j : Int) : (cutB xs i j).length = min (j.toNat - i.toNat) (xs.length - i.toNat) := by
  unfold cutB; rw [List.length_take, List.length_drop]
section
variable {prog : Program} {w : World} {A : Around} {E : Value → Shared → Prop} {s : Shared} {h₀ h h' : Heap} {L a : Addr} {m : PySem.Str → Option Value} {news news' : List (Addr × Obj)} {o o' : Obj} {xs : List UInt8} {i n : Int} {t u : Tok}
theorem news_upd (N : News h₀ L h news) (U : Upd a o o' news news') (k : ∀ b x, b ≠ a → h.get? b = some x → h'.get? b = some x) (g : h'.get? a = some o') : News h₀ L h' news' := by
  obtain ⟨pre, post, rfl, rfl, h1, h2⟩ := U.split
  intro q hq
  rcases List.mem_append.mp hq with hq | hq
  · have := N q (List.mem_append_left _ hq)
    exact ⟨k _ _ (h1 q hq) this.1, this.2⟩
  · rcases List.mem_cons.mp hq with rfl | hq
    · have := N (a, o) (List.mem_append_right _ (.head _))
      exact ⟨g, this.2⟩
    · have := N q (List.mem_append_right _ (.tail _ hq))
      exact ⟨k _ _ (h2 q hq) this.1, this.2⟩
theorem upd_mem (U : Upd a o o' news news') : (a, o) ∈ news := by
  obtain ⟨pre, post, rfl, rfl, h1, h2⟩ := U.split
  exact List.mem_append_right _ (.head _)
theorem bo_setItemK {Q : Unit → Shared → Prop} (F : Fr h₀ L s.heap m) (N : News h₀ L s.heap news) (U : Upd a (baObj xs.toArray) (baObj (xs.set i.toNat n.toNat.toUInt8).toArray) news news') (hz : xs.length ≤ 100000) (h0 : 0 ≤ i) (h1 : i < (xs.length : Int)) (hn0 : 0 ≤ n) (hn1 : n < 256)
    (k : ∀ h', Fr h₀ L h' m → News h₀ L h' news' → Q () { s with heap := h' }) : wpAny (model prog w) A (setItem (.ref a) (.int i u) (.int n t)) Q E s := by
  have hm := N _ (upd_mem U)
  refine bo_setItem hm.1 hz h0 h1 hn0 hn1 fun h' g sb => ?_
  refine k h' ?_ (news_upd N U (fun b x hb e => (sb.2 b hb).trans e) g)
  have kk : Kept [a] s.heap h' := fun b x hb e => (sb.2 b (by simpa using hb)).trans e
  exact kk.fr F (by simpa using Ne.symm hm.2.1) (by simpa using hm.2.2)
/-- behind a call that may have changed one object of the ledger -/
theorem kept_step {P : Prop} (K : Kept [a] h h') (g : h'.get? a = some o') (F : Fr h₀ L h m) (N : News h₀ L h news) (U : Upd a o o' news news') (k : Fr h₀ L h' m → News h₀ L h' news' → P) : P := by
  have hm := N _ (upd_mem U)
  exact k (K.fr F (by simpa using Ne.symm hm.2.1) (by simpa using hm.2.2)) (news_upd N U (fun b x hb e => K b x (by simpa using hb) e) g)
/-- behind a call that has changed none -/
theorem kept_step0 {P : Prop} (K : Kept [] h h') (F : Fr h₀ L h m) (N : News h₀ L h news) (k : Fr h₀ L h' m → News h₀ L h' news → P) : P :=
  k (K.fr F (by simp) (by simp)) (K.news N (by simp))
end

theorem news_one {h₀ h : Heap} {L a : Addr} {o : Obj} {news : List (Addr × Obj)} (N : News h₀ L h news) (hm : (a, o) ∈ news) : News h₀ L h [(a, o)] := fun q hq => by
  rw [List.mem_singleton.mp hq]; exact N _ hm
theorem news_nil {h₀ h : Heap} {L : Addr} {news : List (Addr × Obj)} (_ : News h₀ L h news) : News h₀ L h [] := fun _ hq => nomatch hq
/-! ## a body in two parts -/
section
variable {M : Model} {A : Around} {E : Value → Shared → Prop} {s : Shared} {env : Env} {Q : Flow → Shared → Prop}
theorem execs_app : ∀ (l₁ l₂ : List Stmt), execs (l₁ ++ l₂) env = (execs l₁ env >>= fun f => match f with | .next => execs l₂ env | f => pure f)
  | [], l₂ => rfl
  | x :: r, l₂ => by
    show (exec x env >>= fun f => match f with | .next => execs (r ++ l₂) env | f => pure f) = ((exec x env >>= fun f => match f with | .next => execs r env | f => pure f) >>= fun f => match f with | .next => execs l₂ env | f => pure f)
    rw [bind_assoc]
    congr 1
    funext f
    cases f <;> first | exact execs_app r l₂ | rfl
def Then (R : Shared → Prop) (Q : Flow → Shared → Prop) : Flow → Shared → Prop
  | .next, s => R s
  | f, s => Q f s
theorem two_any {l : List Stmt} (n : Nat) (h : wpAny M A (execs (l.take n) env) (Then (fun s' => wpAny M A (execs (l.drop n) env) Q E s') Q) E s) : wpAny M A (execs l env) Q E s := by
  rw [← List.take_append_drop n l, execs_app]
  refine wpAny_bind (wpAny_mono h (fun f s' g => ?_) fun _ _ e => e)
  cases f <;> first | exact g | exact wpAny_pure g
theorem two_P {l : List Stmt} (n : Nat) (h : wpAny M A (execs (l.take n) env) (Then (fun s' => wpP M A (execs (l.drop n) env) Q E s') Q) E s) : wpP M A (execs l env) Q E s := by
  rw [← List.take_append_drop n l, execs_app]
  refine wpP_seq (wpAny_mono h (fun f s' g => ?_) fun _ _ e => e)
  cases f <;> first | exact g | exact wpP_pure g
theorem cons_P {x : Stmt} {l : List Stmt} (h : wpP M A (exec x env) (Then (fun s' => wpP M A (execs l env) Q E s') Q) E s) : wpP M A (execs (x :: l) env) Q E s := by
  show wpP M A (exec x env >>= fun f => match f with | .next => execs l env | f => pure f) Q E s
  refine wpP_bind (wpP_mono h (fun f s' g => ?_) fun _ _ e => e)
  cases f <;> first | exact g | exact wpP_pure g
end
end Mine
end

section
open PySem PySem.W PyProof.Rows
set_option maxRecDepth 100000

namespace Mine
open PySem PySem.W PySem.Calls PyProof.Rows PySem.Spec PyProof.V

def rowOf (xs : List UInt8) : List Int := xs.map fun c => Int.fmod (c.toNat : Int) 255 + 1
theorem rowOf_in {xs : List UInt8} : ∀ n ∈ rowOf xs, 0 ≤ n ∧ n < 256 := by
  intro n hn
  obtain ⟨c, _, rfl⟩ := List.mem_map.mp hn
  have h1 := Int.fmod_nonneg_of_pos (c.toNat : Int) (b := 255) (by decide)
  have h2 := Int.fmod_lt_of_pos (c.toNat : Int) (b := 255) (by decide)
  (first | lia | omega)
theorem rowOf_length (xs : List UInt8) : (rowOf xs).length = xs.length := List.length_map _

section
variable {prog : Program} {w : World} {A : Around} {E : Value → Shared → Prop} {s : Shared} {h₀ : Heap} {L : Addr} {m : PySem.Str → Option Value} {news : List (Addr × Obj)} {xs : List UInt8} {t : Tok}

theorem row_elt {env : Env} {x : PySem.Str} {p1 p3 p5 : Pos} {k1 k2 : Pos} {m₂ : PySem.Str → Option Value} {a : Int} {u : Tok} {E' : Value → Shared → Prop}
    (hk : env.scope.kind = .function) (hl : env.kindOf x = some .local) (hd : (x == ("__debug__" : PySem.Str)) = false) (hn : s.heap.Ns env.locals m₂) (hv : m₂ x = some (.int a u)) :
    wpAny (model prog w) A (eval (.BinOp (.BinOp (.Name x p1) .Mod (.Constant (.int 255) 0 k1) p3) .Add (.Constant (.int 1) 0 k2) p5) env)
      (fun r s₃ => (∃ b v t, (Value.int a u) = .int b v ∧ r = .int (Int.fmod b 255 + 1) t) ∧ Keeps s s₃) E' s := by
  refine wpAny_BinOp (wpAny_BinOp (wpAny_Name (wpAny_loadName_local hk hl hn hv ?_) hd))
  refine wpAny_mkInt ?_
  refine mod_int' (by decide) ?_
  refine wpAny_mkInt ?_
  refine add_int ?_
  exact ⟨⟨a, u, _, rfl, rfl⟩, s.heap, _, rfl, fun _ _ e => e⟩

theorem paired_row : ∀ {vs ys : List Value} {xs : List UInt8}, vs.length = xs.length → (∀ (j : Nat) (v : Value), vs[j]? = some v → ∃ (c : UInt8) (u : Tok), xs[j]? = some c ∧ v = .int (c.toNat : Int) u) →
    Paired (fun v r => ∃ b v' t, v = Value.int b v' ∧ r = .int (Int.fmod b 255 + 1) t) vs ys → IntsAre ys (rowOf xs) := by
  intro vs
  induction vs with
  | nil =>
    intro ys xs hl hP hF
    cases hF
    cases xs with
    | nil => exact .nil
    | cons _ _ => cases hl
  | cons v r ih =>
    intro ys xs hl hP hF
    cases hF with
    | cons hf ht =>
      cases xs with
      | nil => cases hl
      | cons x q =>
        obtain ⟨b, v', t, rfl, rfl⟩ := hf
        obtain ⟨c, u, hc, e⟩ := hP 0 _ rfl
        cases e
        simp only [List.getElem?_cons_zero, Option.some.injEq] at hc
        subst hc
        exact .cons _ _ (ih (by simpa using hl) (fun j w hw => by simpa using hP (j + 1) w (by simpa using hw)) ht)

theorem comp_row {env : Env} {scope : Scope} {x : PySem.Str} {p1 p3 p5 k1 k2 : Pos} {Q : Value → Shared → Prop}
    (hh : A.handled = none) (F : Fr h₀ L s.heap m) (N : News h₀ L s.heap news) (hk : scope.kind = .function) (hl : ∀ C, (compEnv scope C env).kindOf x = some .local) (hd : (x == ("__debug__" : PySem.Str)) = false) (hz : xs.length ≤ 100000)
    (g3 : ∀ D (ys : List Value) h' tk, Fr h₀ L h' m → News h₀ L h' news → h'.IsList D ys.toArray → IntsAre ys (rowOf xs) → Q (.ref D) { s with heap := h', toks := tk }) :
    wpAny (model prog w) A (pyIter (.bytes xs.toArray t)) (CompPost prog w A env scope x [] (.BinOp (.BinOp (.Name x p1) .Mod (.Constant (.int 255) 0 k1) p3) .Add (.Constant (.int 1) 0 k2) p5) Q) E s := by
  refine KBw.pyIter_bytes ?_
  have up : ∀ (h' : Heap), (∀ b o', b ∉ [s.heap.objs.size] → (s.heap.push { cls := .type "bytes_iterator", data := .fields #[.bytes xs.toArray t, .int 0 0] }).get? b = some o' → h'.get? b = some o') → ∀ b o', s.heap.get? b = some o' → h'.get? b = some o' :=
    fun h' hk b o' e => hk b o' (not_iter_of_old e) (Heap.get?_push_of_some _ e)
  refine ⟨fun _ => true, fun v r => ∃ b v' t, v = Value.int b v' ∧ r = .int (Int.fmod b 255 + 1) t, s.heap.objs.size, _, _, _, _, _, rfl, KBw.walks hh s.heap.objs.size xs.toArray t, (by rw [List.size_toArray, sizeLine_eq]; (first | lia | omega)),
    ⟨_, Heap.get?_push_size _ rfl, rfl, rfl⟩, ?_, ⟨?_, ?_⟩, ?_⟩
  · intro b hb
    rw [List.mem_singleton.mp hb]
    show _ < (s.heap.push _).objs.size
    rw [Heap.size_push]
    exact Nat.lt_succ_self _
  · intro C i v s₃ m₃ E' hP hn hm _ htk
    exact wpAny_pure ⟨rfl, s₃.heap, s₃.toks, rfl, fun _ _ e => e⟩
  · intro C i v s₃ m₃ E' hP _ hn hm _ htk
    obtain ⟨c, u, _, rfl⟩ := hP
    exact row_elt hk (hl C) hd hn hm
  · intro D h' tk ys vs hnew hlD hplD hlen hP hF hkk
    refine g3 D ys.toList h' tk (F.keeps (up h' hkk)) (N.grown (up h' hkk)) (by rw [Array.toArray_toList]; exact hlD) (paired_row (by simpa using hlen) (fun j v hv => ?_) (by rw [List.filter_eq_self.mpr (fun _ _ => rfl)] at hF; exact hF))
    obtain ⟨c, u, hc, e⟩ := hP j v hv
    exact ⟨c, u, by simpa using hc, e⟩
theorem row_bytes {D : Addr} {ys : List Value} {Q : Value → Shared → Prop} (F : Fr h₀ L s.heap m) (N : News h₀ L s.heap news) (hh : A.handled = none) (hl : s.heap.IsList D ys.toArray) (hi : IntsAre ys (rowOf xs)) (hz : xs.length ≤ 100000)
    (h : ∀ h' t k, Fr h₀ L h' m → News h₀ L h' news → Q (.bytes ((rowOf xs).map fun n => n.toNat.toUInt8).toArray t) { s with heap := h', toks := k }) : wpAny (model prog w) A (call (.type "bytes") [.ref D]) Q E s :=
  call_bytes_ints hl hi rowOf_in (by rw [hi.length, rowOf_length, sizeLine_eq]; (first | lia | omega)) hh fun h' t k hk => h h' t k (F.keeps hk) fun q hq => ⟨hk _ _ (N q hq).1, (N q hq).2⟩
end
end Mine
end

section
open PySem PySem.W PyProof.Rows
set_option maxRecDepth 100000

namespace Mine
open PySem PySem.W PySem.Calls PyProof.Rows PySem.Spec PyProof.V PySem.SeqAt
/-! ## == of bytes, of pairs (bytes, int), of lists of such pairs -/
section
variable {A : Around} {s : Shared} {xs ys : List UInt8} {t u : Tok}
theorem rcAt_bytes : RcAt A s (.bytes xs.toArray t) (.bytes ys.toArray u) (decide (xs = ys)) := fun _ _ _ _ h => br_eq h
theorem eqAt_bytes : EqAt A s (.bytes xs.toArray t) (.bytes ys.toArray u) (decide (xs = ys)) := fun prog w E Q hq => by
  unfold eqBool
  refine wpAny_holding ?_
  refine wpAny_ite_split (fun hab => ?_) (fun _ => ?_)
  · have e := eq_of_beq hab
    injection e with e1 e2
    have e3 : xs = ys := by simpa using e1
    rw [decide_eq_true e3] at hq
    exact wpAny_bind (wpAny_rule (wpAny_pure hq))
  · exact wpAny_bind (rcAt_bytes prog w E _ (wpAny_truthy_bool hq))
/-- a pair (bytes, int) on the heap -/
def PairAt (h : Heap) (v : Value) (p : List UInt8 × Int) : Prop := ∃ a t t', v = .ref a ∧ h.IsTuple a #[.bytes p.1.toArray t, .int p.2 t']
theorem pairEq {v v' : Value} {p p' : List UInt8 × Int} (h : PairAt s.heap v p) (h' : PairAt s.heap v' p') (hu : A.units < cLine) : EqAt A s v v' (decide (p = p')) := by
  obtain ⟨a, t1, t2, rfl, ha⟩ := h
  obtain ⟨b, t3, t4, rfl, hb⟩ := h'
  by_cases e : a = b
  · subst e
    obtain ⟨o, ho, _, n, hd⟩ := ha
    obtain ⟨o', ho', _, n', hd'⟩ := hb
    rw [ho] at ho'
    obtain rfl := Option.some.inj ho'
    rw [hd] at hd'
    injection hd' with e1 e2
    have e3 : p = p' := by
      obtain ⟨p1, p2⟩ := p
      obtain ⟨q1, q2⟩ := p'
      simp at e1
      rw [e1.1.1, e1.2.1]
    rw [decide_eq_true e3]
    exact EqAt.same _
  · refine EqAt.of_refs e ?_
    have := RcAt.tuples (e := fun j => if j = 0 then decide (p.1 = p'.1) else (p.2 == p'.2)) ha hb hu (fun j h1 h2 => by
      match j with
      | 0 => exact eqAt_bytes
      | 1 => exact EqAt.int_int _ _ _ _
      | j + 2 => simp at h1; (first | lia | omega))
    have e5 : ((List.range (min (#[Value.bytes p.1.toArray t1, .int p.2 t2] : Array Value).size (#[Value.bytes p'.1.toArray t3, .int p'.2 t4] : Array Value).size)).all (fun j => if j = 0 then decide (p.1 = p'.1) else (p.2 == p'.2)) && (#[Value.bytes p.1.toArray t1, .int p.2 t2] : Array Value).size == (#[Value.bytes p'.1.toArray t3, .int p'.2 t4] : Array Value).size) = decide (p = p') := by
      obtain ⟨p1, p2⟩ := p
      obtain ⟨q1, q2⟩ := p'
      show ((List.range 2).all _ && true) = _
      simp [List.range_succ, Prod.mk.injEq]
      rfl
    rw [e5] at this
    exact this
end
section
variable {prog : Program} {w : World} {A : Around} {E : Value → Shared → Prop} {s : Shared} {xs : List UInt8} {t : Tok}
theorem ne_pair {v v' : Value} {p p' : List UInt8 × Int} {Q : Value → Shared → Prop} (h : PairAt s.heap v p) (h' : PairAt s.heap v' p') (hu : A.units < cLine) (q : Q (.bool (!decide (p = p'))) s) :
    wpAny (model prog w) A (compareOp .NotEq v v') Q E s := by
  obtain ⟨a, t1, t2, rfl, ha⟩ := h
  obtain ⟨b, t3, t4, rfl, hb⟩ := h'
  have := RcNeAt.tuples (A := A) (e := fun j => if j = 0 then decide (p.1 = p'.1) else (p.2 == p'.2)) ha hb hu (fun j h1 h2 => by
      match j with
      | 0 => exact eqAt_bytes
      | 1 => exact EqAt.int_int _ _ _ _
      | j + 2 => simp at h1; (first | lia | omega))
  have e5 : (!((List.range (min (#[Value.bytes p.1.toArray t1, .int p.2 t2] : Array Value).size (#[Value.bytes p'.1.toArray t3, .int p'.2 t4] : Array Value).size)).all (fun j => if j = 0 then decide (p.1 = p'.1) else (p.2 == p'.2)) && (#[Value.bytes p.1.toArray t1, .int p.2 t2] : Array Value).size == (#[Value.bytes p'.1.toArray t3, .int p'.2 t4] : Array Value).size)) = !decide (p = p') := by
    obtain ⟨p1, p2⟩ := p
    obtain ⟨q1, q2⟩ := p'
    show (!((List.range 2).all _ && true)) = _
    simp [List.range_succ, Prod.mk.injEq]
    rfl
  exact this prog w E Q (by rw [e5]; exact q)
def PairsAt (h : Heap) : List Value → List (List UInt8 × Int) → Prop
  | [], [] => True
  | v :: vs, p :: ps => PairAt h v p ∧ PairsAt h vs ps
  | _, _ => False
theorem pairs_length {h : Heap} : ∀ {vs : List Value} {ps : List (List UInt8 × Int)}, PairsAt h vs ps → vs.length = ps.length
  | [], [], _ => rfl
  | [], _ :: _, h => (show False from h).elim
  | _ :: _, [], h => (show False from h).elim
  | _ :: _, _ :: _, h => by rw [List.length_cons, List.length_cons, pairs_length h.2]
theorem pairs_get {h : Heap} : ∀ {vs : List Value} {ps : List (List UInt8 × Int)} (j : Nat) (h1 : j < vs.length) (h2 : j < ps.length), PairsAt h vs ps → PairAt h vs[j] ps[j]
  | [], _, _, h1, _, _ => absurd h1 (Nat.not_lt_zero _)
  | _ :: _, [], _, _, h2, _ => absurd h2 (Nat.not_lt_zero _)
  | _ :: _, _ :: _, 0, _, _, h => h.1
  | _ :: _, _ :: _, j + 1, h1, h2, h => pairs_get j (Nat.lt_of_succ_lt_succ h1) (Nat.lt_of_succ_lt_succ h2) h.2
theorem eq_pairs {l l' : Addr} {vs vs' : List Value} {ps : List (List UInt8 × Int)} {Q : Value → Shared → Prop} (hl : s.heap.IsList l vs.toArray) (hl' : s.heap.IsList l' vs'.toArray) (h : PairsAt s.heap vs ps) (h' : PairsAt s.heap vs' ps) (hu : A.units + 1 < cLine) (q : Q (.bool true) s) :
    wpAny (model prog w) A (compareOp .Eq (.ref l) (.ref l')) Q E s := by
  have n1 := pairs_length h
  have n2 := pairs_length h'
  refine eq_listAt (e := fun _ => true) hl hl' (by rw [List.size_toArray, List.size_toArray, n1, n2]) (by (first | lia | omega)) (fun j h1 h2 => ?_) ?_
  · have j1 : j < vs.length := by simpa using h1
    have j2 : j < vs'.length := by simpa using h2
    have := pairEq (A := A.in1) (pairs_get j j1 (n1 ▸ j1) h) (pairs_get j j2 (n1 ▸ j1) h') (show A.in1.units < cLine by show A.units + 1 < cLine; exact hu)
    rw [decide_eq_true rfl] at this
    simpa using this
  · rw [show (List.range vs.toArray.size).all (fun _ => true) = true from List.all_eq_true.mpr fun _ _ => rfl]
    exact q
theorem notin_b3 {D : Addr} {a b c : List UInt8} {t1 t2 t3 : Tok} {Q : Value → Shared → Prop} (hD : s.heap.IsTuple D #[.bytes a.toArray t1, .bytes b.toArray t2, .bytes c.toArray t3]) (q : Q (.bool (!(decide (a = xs) || decide (b = xs) || decide (c = xs)))) s) :
    wpAny (model prog w) A (compareOp .NotIn (.bytes xs.toArray t) (.ref D)) Q E s := by
  refine notIn_tupleAt (fun v => match v with | .bytes z _ => decide (z.toList = xs) | _ => false) hD (fun y hy => ?_) ?_
  · simp at hy
    rcases hy with rfl | rfl | rfl <;> exact eqAt_bytes
  · have : (#[Value.bytes a.toArray t1, .bytes b.toArray t2, .bytes c.toArray t3] : Array Value).any (fun v => match v with | .bytes z _ => decide (z.toList = xs) | _ => false) = (decide (a = xs) || decide (b = xs) || decide (c = xs)) := by
      simp [Bool.or_assoc]
    rw [this]
    exact q
end
end Mine
end

section
open PySem PySem.W PyProof.Rows
set_option maxRecDepth 100000

namespace Mine
open PySem PySem.W PySem.Calls PyProof.Rows PySem.Spec PyProof.V

/-! ## the few constructs of the path to bytearray(..), in wpP -/
abbrev NoE : Value → Shared → Prop := fun _ _ => False
section
variable {M : Model} {A : Around} {E : Value → Shared → Prop} {s : Shared} {env : Env}
theorem assign_P {x : Str} {pos' pos : Pos} {value : Expr} {Q : Flow → Shared → Prop}
    (h : wpP M A (eval value env) (fun v s₁ => wpAny M A (storeName env x v) (fun _ => Q .next) E s₁) E s)
    (hs : swapsWith value (some (.Name x pos')) pos.line env = pure false := by rfl) : wpP M A (exec (.Assign [.Name x pos'] value pos) env) Q E s := by
  rw [exec_Assign_Name env x pos' value pos hs]
  refine wpP_standAt (wpP_thn (wpP_mono h (fun v s₁ h₁ => ?_) fun _ _ x => x))
  exact wpAny_bind (wpAny_standAt (wpAny_bind (wpAny_bindName (wpAny_mono h₁ (fun _ _ q => wpAny_pure q) fun _ _ x => x))))
theorem if_P {test : Expr} {body orelse : List Stmt} {pos : Pos} {Q : Flow → Shared → Prop}
    (h : wpP M A (isTrue test env (eval test env)) (fun b s₂ => if b then wpP M A (execs body env) Q E s₂ else wpP M A (execs orelse env) Q E s₂) E s) :
    wpP M A (exec (.If test body orelse pos) env) Q E s := by
  rw [exec_If]
  refine wpP_standAt (wpP_bind (wpP_mono h (fun b s₂ h₂ => ?_) fun _ _ x => x))
  cases b <;> exact h₂
theorem or_P {x y : Expr} {pos : Pos} {whole : Sem Value} {Q : Bool → Shared → Prop}
    (h : wpAny M A (isTrue x env (eval x env)) (fun b s₁ => if b then Q true s₁ else wpP M A (isTrue y env (eval y env)) Q E s₁) E s) :
    wpP M A (isTrue (.BoolOp .Or [x, y] pos) env whole) Q E s := by
  rw [arm_isTrue_BoolOp, arm_allTrue_cons]
  refine wpP_seq (wpAny_mono h (fun b s₁ h₁ => ?_) fun _ _ x => x)
  cases b
  · rw [arm_allTrue_cons]
    refine wpP_bind (wpP_mono h₁ (fun b s₂ h₂ => ?_) fun _ _ x => x)
    cases b <;> exact wpP_pure h₂
  · exact wpP_pure h₁
theorem cmp_P {l r : Expr} {op : CmpOp} {pos : Pos} {whole : Sem Value} {Q : Bool → Shared → Prop}
    (h : wpP M A (eval l env) (fun a s₁ => wpAny M A (eval r env) (fun b s₂ => wpAny M A (compareOp op a b)
      (fun c s₃ => wpAny M A (truthy c) Q E s₃) E s₂) E s₁) E s)
    (hm : behindInMarks op r = false := by with_unfolding_all rfl) : wpP M A (isTrue (.Compare l [op] [r] pos) env whole) Q E s := fun Γ p hΓ h1 h2 => by
  simp only [isTrue_Compare1, markedBehindIn_of_false hm, Sem.wp_bind', Sem.wp_holding, Sem.wp_cmd_standAt, Sem.wp_operate]
  exact Sem.wp_mono M Γ _ (fun a p₁ s₁ h₁ => Sem.wp_mono M Γ _ (fun b _ s₂ h₂ => Sem.wp_mono M Γ _ (fun c p₃ s₃ h₃ => h₃ Γ p₃ hΓ)
    (fun _ _ _ h' => h') _ _ (h₂ Γ _ hΓ)) (fun _ _ _ h' => h') _ _ (h₁ Γ p₁ hΓ)) (fun _ _ _ h' => h') _ _ (h Γ p hΓ h1 h2)
theorem try_P {body : List Stmt} {hd₀ : ExceptHandler} {hs : List ExceptHandler} {pos : Pos} {Q : Flow → Shared → Prop}
    (h : wpP M A (execs body env) Q NoE s) : wpP M A (exec (.Try body (hd₀ :: hs) [] [] pos) env) Q E s := by
  rw [arm_exec_Try]
  refine wpP_standAt ?_
  unfold tryStmt
  simp only [List.isEmpty_nil, if_true, List.isEmpty_cons, Bool.false_and, Bool.false_eq_true, if_false]
  refine wpP_bind (wpP_attempt (wpP_mono h (fun f s₁ h₁ => ?_) fun e s₁ h₁ => h₁.elim))
  cases f <;> exact wpP_pure h₁

theorem callWith_P {pos : Pos} {f : Value} {first : List Value} {Q : Value → Shared → Prop} {P : Heap → Prop} {args : List (Bool × Sem Value)} {keywords : List (Option Str × Sem Value)} (hplain : (args.any (·.1) || keywords.any (·.1.isNone)) = false)
    (hk : ∀ h, P h → ∃ k, (k = Keeper.frame ∨ k = Keeper.machine ∨ k = Keeper.boundFrame) ∧ Looks M h (keeperOf f) k)
    (h : wpAny M A (evalArgs f true args keywords) (fun a s₁ => P s₁.heap ∧ wpP M A (call f (first ++ a.pos) a.kw) Q E s₁) E s) : wpP M A (callWith pos f first args keywords) Q E s := by
  unfold callWith
  refine wpP_seq (wpAny_holding (wpAny_mono h (fun a s₁ h₁ => wpP_standAt ?_) fun _ _ x => x))
  obtain ⟨k, hk', L⟩ := hk _ h₁.1
  simp only [hplain]
  refine wpP_seq (L.here ?_)
  have tail : ∀ {t : Sem Value}, wpP M A t Q E s₁ → wpP M A (t >>= fun r => holding [r] point >>= fun _ => pure r) Q E s₁ :=
    fun ht => wpP_thn (wpP_mono ht (fun r s₂ hr => wpAny_bind (wpAny_holding (wpAny_point (wpAny_pure hr)))) fun _ _ x => x)
  have marked (mk : Value) : wpP M A (callMarked mk f (first ++ a.pos) a.kw) Q E s₁ := by unfold callMarked; exact wpP_keep h₁.2
  rcases hk' with rfl | rfl | rfl <;> dsimp only <;> first | exact tail h₁.2 | (split <;> first | exact tail h₁.2 | exact tail (marked _))
theorem callWith_KP {K : Frag} {h₀ : Heap} {pos : Pos} {f : Value} {first : List Value} {Q : Value → Shared → Prop} {e : Expr} {rest : List Expr} (_X : K.In h₀) (hk : keepIn K f = true) (h : wpAny M A (spliced (backTo pos (starEach (e :: rest) env))) (fun vs s₁ => K.In s₁.heap ∧ wpP M A (call f (first ++ vs)) Q E s₁) E s)
    (he : starEach (e :: rest) env = (false, eval e env) :: starEach rest env := by rfl) (hplain : (backTo pos (starEach rest env)).any (·.1) = false := by rfl) :
    wpP M A (callWith pos f first (backTo pos (starEach (e :: rest) env)) []) Q E s := by
  rw [he] at h ⊢
  exact callWith_P (by show ((false || (backTo pos (starEach rest env)).any (·.1)) || false) = false; rw [hplain]; rfl) (keeps_K hk) (evalArgs_plain h)
theorem callWith_TP {T : String} {pos : Pos} {Q : Value → Shared → Prop} {e : Expr} {rest : List Expr} (h : wpAny M A (spliced (backTo pos (starEach (e :: rest) env))) (fun vs s₁ => wpP M A (call (.type T) vs) Q E s₁) E s)
    (he : starEach (e :: rest) env = (false, eval e env) :: starEach rest env := by rfl) (hplain : (backTo pos (starEach rest env)).any (·.1) = false := by rfl) :
    wpP M A (callWith pos (.type T) [] (backTo pos (starEach (e :: rest) env)) []) Q E s := by
  rw [he] at h ⊢
  refine callWith_P (P := fun _ => True) (by show ((false || (backTo pos (starEach rest env)).any (·.1)) || false) = false; rw [hplain]; rfl) (fun _ _ => ⟨.machine, .inr (.inl rfl), Looks.of_pure rfl⟩) (evalArgs_plain (wpAny_mono h (fun _ _ q => ⟨trivial, q⟩) fun _ _ x => x))
/-- a call by a global name -/
theorem callName_P {x : Str} {p pos : Pos} {args : List Expr} {Q : Value → Shared → Prop}
    (h : wpAny M A (eval (.Name x p) env) (fun f s₁ => wpP M A (callWith pos f [] (backTo pos (starEach args env)) []) Q E s₁) E s) :
    wpP M A (eval (.Call (.Name x p) args [] pos) env) Q E s := wpP_seq h
theorem callMeth_P {name : Str} {o : Expr} {apos pos : Pos} {args : List Expr} {pl : Sem Bool} {Q : Value → Shared → Prop}
    (h : wpAny M A (eval o env) (fun ov s₁ => wpAny M A (getMethod ov name pl) (fun fx s₂ => wpP M A (callWith pos fx.1 fx.2 (backTo pos (starEach args env)) []) Q E s₂) E s₁) E s)
    (he : eval (.Call (.Attribute o name apos) args [] pos) env = (do
      let ov ← eval o env
      standAt apos.atName
      let (f, first) ← holding [ov] (getMethod ov name pl)
      callWith pos f first (backTo pos (starEach args env)) (backToKw pos (keywordEach [] env))) := by rfl) :
    wpP M A (eval (.Call (.Attribute o name apos) args [] pos) env) Q E s := by
  rw [he]
  refine wpP_seq (wpAny_mono h (fun ov s₁ h₁ => wpP_standAt (wpP_seq (wpAny_holding (wpAny_mono h₁ (fun fx s₂ h₂ => ?_) fun _ _ x => x)))) fun _ _ x => x)
  exact h₂
end

section
variable {prog : Program} {w : World} {A : Around} {E : Value → Shared → Prop} {s : Shared} {env : Env}
/-- one turn of a for-loop -/
theorem forTurn_P {R : Result → Shared → Prop} {x : Str} {px : Pos} {it : Value} {body : List Stmt}
    (h : wpAny (model prog w) A (pyNext it) (fun r s₁ => match r with
      | none => R (.ok .next) s₁
      | some v => wpAny (model prog w) A (storeName env x v) (fun _ s₂ => wpP (model prog w) A (execs body env) (fun f s₃ => match f with
          | .next | .cont => codeP (model prog w) A (.forLoop (.Name x px) it body [] env) R s₃
          | .brk => R (.ok .next) s₃
          | .ret v => R (.ok (.ret v)) s₃) NoE s₂) NoE s₁) NoE s) : codeP (model prog w) A (.forLoop (.Name x px) it body [] env) R s := by
  refine codeP_of_tree rfl ?_
  show wpP _ A ((forTurn (.Name x px) it body [] env).onRaise (fun x => do noteFrame x env; theTreesLotGoes x)) _ _ s
  refine wpP_onRaise (wpP_mono (E := NoE) (Q := fun fin s' => match fin with | .done f => R (.ok f) s' | .again c' => c'.quiet = true ∧ codeP (model prog w) A c' R s') ?_ (fun _ _ q => q) fun _ _ q => q.elim)
  simp only [forTurn]
  refine wpP_standAt (wpP_seq (wpAny_onRaise (wpAny_mono h (fun r s₁ h₁ => ?_) fun _ _ h' => h'.elim)))
  cases r with
  | none => exact wpP_pure ⟨rfl, codeP_of (codeAny_block (wpAny_execs_nil h₁))⟩
  | some v =>
    refine wpP_seq (wpAny_of_eq (rfl : letOwnedTupleGo (.Name x px) it v = pure ()) ?_)
    refine wpP_seq (wpAny_assign_Name (wpAny_mono h₁ (fun _ s₂ h₂ => wpP_bind (wpP_mono h₂ (fun f s₃ h₃ => ?_) fun _ _ h' => h')) fun _ _ h' => h'))
    cases f with
    | next => exact wpP_pure ⟨rfl, h₃⟩
    | cont => exact wpP_pure ⟨rfl, h₃⟩
    | brk => exact wpP_pure h₃
    | ret v => exact wpP_pure h₃
theorem for_P {target iter : Expr} {body orelse : List Stmt} {pos : Pos} {Q : Flow → Shared → Prop}
    (h : wpAny (model prog w) A (eval iter env) (fun x s₁ => wpAny (model prog w) A (pyIter x) (fun it s₂ =>
      codeP (model prog w) A (.forLoop target it body orelse env) (fun r s' => match r with | .ok f => Q f s' | .error _ => False) s₂) NoE s₁) NoE s)
    (hs : ∀ x, foldedSetIterable iter env x = pure x := by intro _; rfl) :
    wpP (model prog w) A (exec (.For target iter body orelse pos) env) Q E s := by
  rw [exec_For]
  refine wpP_mono (E := NoE) (Q := Q) (wpP_standAt (wpP_seq (wpAny_mono h (fun x s₁ h₁ => wpP_seq (wpAny_of_eq (hs x) (wpP_standAt (wpP_seq (wpAny_holding
    (wpAny_mono h₁ (fun it s₂ h₂ => ?_) fun _ _ h' => h')))))) fun _ _ h' => h'))) (fun _ _ q => q) fun _ _ q => q.elim
  unfold runOwn
  refine wpP_onRaise (wpP_mono (E := NoE) (Q := Q) (wpP_run (codeP_mono h₂ fun r s' q => ?_)) (fun _ _ q => q) fun _ _ q => q.elim)
  cases r <;> exact q
end
theorem cons_A {M : Model} {A : Around} {E : Value → Shared → Prop} {s : Shared} {env : Env} {Q : Flow → Shared → Prop} {x : Stmt} {l : List Stmt} (h : wpAny M A (exec x env) (Then (fun s' => wpP M A (execs l env) Q E s') Q) E s) : wpP M A (execs (x :: l) env) Q E s := cons_P (wpP_of h)
theorem news_two {h₀ h : Heap} {L a b : Addr} {o q : Obj} {news : List (Addr × Obj)} (N : News h₀ L h news) (hm : (a, o) ∈ news) (hn : (b, q) ∈ news) : News h₀ L h [(a, o), (b, q)] := fun x hx => by
  rcases List.mem_cons.mp hx with rfl | hx
  · exact N _ hm
  · rw [List.mem_singleton.mp hx]; exact N _ hn
theorem ba_K {prog : Program} {w : World} {A : Around} {s : Shared} {E : Value → Shared → Prop} {Q : Value → Shared → Prop} {h₀ : Heap} {L : Addr} {m : Str → Option Value} {news : List (Addr × Obj)} {xs : List UInt8} {t : Tok} (hF : Fr h₀ L s.heap m) (hN : News h₀ L s.heap news) (hz : xs.length ≤ 100000)
    (h : ∀ h' x, Fr h₀ L h' m → News h₀ L h' ((x, baObj xs.toArray) :: news) → (∀ p ∈ news, p.1 < x) → Q (.ref x) { s with heap := h' }) :
    wpP (model prog w) A (call (.type "bytearray") [.bytes xs.toArray t]) Q E s := by
  refine ba_call (by rw [List.size_toArray]; exact Nat.le_trans hz (by decide)) fun h' g k => ?_
  have kk : Kept [] s.heap h' := fun b o _ e => k b o e
  refine h h' _ (kk.fr hF (by simp) (by simp)) (fun p hp => ?_) fun p hp => Heap.lt_size (hN.get hp)
  rcases List.mem_cons.mp hp with rfl | hp
  · refine ⟨g, ?_, ?_⟩
    · obtain ⟨oL, _, _, hL, _⟩ := hF.ns
      exact Ne.symm (Nat.ne_of_lt (Heap.lt_size hL))
    · cases e : h₀.get? s.heap.objs.size with
      | none => rfl
      | some o => exact absurd (Heap.lt_size (hF.keep _ _ e)) (Nat.lt_irrefl _)
  · exact kk.news hN (by simp) p hp
end Mine
end

section
open PySem PySem.W PyProof.Rows
set_option maxRecDepth 100000

namespace Mine
open PySem PySem.W PySem.Calls PyProof.Rows PySem.Spec PyProof.V
/-! ## a for-loop over a written tuple, turn by turn, whatever the ground -/
abbrev itO (D : Addr) (i : Nat) : Obj := { cls := .type "tuple_iterator", data := .fields #[.ref D, .int (i : Int) 0] }
abbrev itE (i : Nat) : Obj := { cls := .type "tuple_iterator", data := .fields #[.none, .int (i : Int) 0] }
abbrev tupN (vs : List Value) : Obj := { cls := .type "tuple", data := .seq vs.toArray }
section
variable {prog : Program} {w : World} {A : Around} {E : Value → Shared → Prop} {s : Shared} {env : Env}
theorem itO_is {h : Heap} {it D : Addr} {i : Nat} (e : h.get? it = some (itO D i)) : h.IsTupleIter it D i := ⟨_, e, rfl, rfl⟩
theorem next_item {it t : Addr} {i : Nat} {items : Array Value} {x : Value} {Q : Option Value → Shared → Prop} (hit : s.heap.get? it = some (itO t i))
    (ht : s.heap.IsTuple t items) (hx : items[i]? = some x)
    (hQ : ∀ h', h'.get? it = some (itO t (i + 1)) → Heap.SameBut it s.heap h' → Q (some x) { s with heap := h' }) :
    wpAny (model prog w) A (pyNext (.ref it)) Q E s := by
  obtain ⟨ol, hol, _, nl, hdl⟩ := ht
  unfold pyNext
  refine wpAny_bind (wpAny_attempt (wpAny_callSpecial?_slot (name := Str.ofString "__next__") (itO_is hit).typeIs F.slot_tuple_iterator_next
    (wpAny_call_entry F.slot_tuple_iterator_next (itO_is hit).typeIs F.entry_tuple_iterator_next ?_ (F.args_tuple_iterator_next_1 _))))
  show wpAny _ _ (field (.ref it) 0 >>= _) _ _ s
  refine wpAny_bind (wpAny_field hit rfl (x := .ref t) rfl ?_)
  show wpAny _ _ (if (Value.ref t == Value.none) = true then _ else _) _ _ s
  rw [if_neg (show ¬ ((Value.ref t == Value.none) = true) from Bool.false_ne_true)]
  show wpAny _ _ (field (.ref it) 1 >>= _) _ _ s
  refine wpAny_bind (wpAny_field hit rfl (x := .int i 0) rfl ?_)
  show wpAny _ _ (seqItems? (.ref t) >>= _) _ _ s
  refine wpAny_bind (wpAny_seqItems hol hdl ?_)
  simp only [Int.toNat_natCast, hx]
  refine wpAny_bind (wpAny_setField_rec hit (by simp) fun h' g sb => wpAny_pure ⟨x, rfl, wpAny_pure (hQ _ ?_ sb)⟩)
  rw [g]
  rfl
theorem next_end {it t : Addr} {i : Nat} {items : Array Value} {Q : Option Value → Shared → Prop} (hh : A.handled = none)
    (hit : s.heap.get? it = some (itO t i)) (ht : s.heap.IsTuple t items) (hx : items[i]? = none)
    (hQ : ∀ h', h'.get? it = some (itE i) → Heap.ExtBut it s.heap h' → Q none { s with heap := h' }) : wpAny (model prog w) A (pyNext (.ref it)) Q E s := by
  obtain ⟨ol, hol, _, nl, hdl⟩ := ht
  unfold pyNext
  refine wpAny_bind (wpAny_attempt (wpAny_callSpecial?_slot (name := Str.ofString "__next__") (itO_is hit).typeIs F.slot_tuple_iterator_next
    (wpAny_call_entry F.slot_tuple_iterator_next (itO_is hit).typeIs F.entry_tuple_iterator_next ?_ (F.args_tuple_iterator_next_1 _))))
  show wpAny _ _ (field (.ref it) 0 >>= _) _ _ s
  refine wpAny_bind (wpAny_field hit rfl (x := .ref t) rfl ?_)
  show wpAny _ _ (if (Value.ref t == Value.none) = true then _ else _) _ _ s
  rw [if_neg (show ¬ ((Value.ref t == Value.none) = true) from Bool.false_ne_true)]
  show wpAny _ _ (field (.ref it) 1 >>= _) _ _ s
  refine wpAny_bind (wpAny_field hit rfl (x := .int i 0) rfl ?_)
  show wpAny _ _ (seqItems? (.ref t) >>= _) _ _ s
  refine wpAny_bind (wpAny_seqItems hol hdl ?_)
  simp only [Int.toNat_natCast, hx]
  refine wpAny_bind (wpAny_rule (wpAny_bind (wpAny_setField_rec hit (by simp) fun h' g sb => ?_)))
  show wpAny _ _ (newExc (.type "StopIteration") [] >>= _) _ _ _
  refine wpAny_bind ?_
  simp only [newExc, newTuple]
  refine wpAny_bind (wpAny_newObj_type ?_ (by size_fits))
  refine wpAny_bind (m := firstArgMember _ _) (wpAny_of_eq (a := Value.none) (by first | rfl | (simp only [firstArgMember]; rfl)) ?_)
  refine wpAny_newObj_type ?_ (by size_fits)
  simp only [raiseNew]
  refine wpAny_bind (wpAny_handled ?_)
  first | rw [show A.in1.handled = none from hh] | rw [hh]
  refine wpAny_bind (wpAny_pure (wpAny_throw ?_))
  refine wpAny_bind (wpAny_isInstance (T := "StopIteration") (b := true) ⟨_, Heap.get?_push_size _ rfl, rfl⟩ isSubtype_stop ?_)
  exact wpAny_pure (hQ _ (Heap.get?_push_of_some _ (Heap.get?_push_of_some _ g)) ((sb.extBut.push _).push _))

def LoopC (prog : Program) (w : World) (A : Around) (E : Value → Shared → Prop) (env : Env) (x : Str) (px : Pos) (it : Value) (body : List Stmt) (Q : Flow → Shared → Prop) (s : Shared) : Prop :=
  codeAny (model prog w) A (.forLoop (.Name x px) it body [] env) (fun r s' => match r with | .ok f => Q f s' | .error e => cameBackBy (model prog w) A env E e s') s
theorem For_one {x : Str} {px pos : Pos} {iter : Expr} {body : List Stmt} {Q : Flow → Shared → Prop}
    (h : wpAny (model prog w) A (eval iter env) (fun xv s₁ => wpAny (model prog w) A (pyIter xv) (fun it s₂ => LoopC prog w A E env x px it body Q s₂) E s₁) E s)
    (hs : ∀ x, foldedSetIterable iter env x = pure x := by intro _; rfl) :
    wpAny (model prog w) A (exec (.For (.Name x px) iter body [] pos) env) Q E s := wpAny_For h hs
theorem loop_iter {h₀ : Heap} {L D : Addr} {m : Str → Option Value} {news : List (Addr × Obj)} {vs : List Value} {Q : Value → Shared → Prop} (F : Fr h₀ L s.heap m) (N : News h₀ L s.heap news) (hm : (D, tupN vs) ∈ news)
    (k : ∀ h' it, Fr h₀ L h' m → News h₀ L h' ((it, itO D 0) :: news) → (∀ p ∈ news, p.1 < it) → Q (.ref it) { s with heap := h' }) : wpAny (model prog w) A (pyIter (.ref D)) Q E s := by
  refine wpAny_pyIter_tuple (items := vs.toArray) ⟨_, N.get hm, rfl, _, rfl⟩ ?_
  exact k _ _ (F.push _) (News.push F N _) fun p hp => Heap.lt_size (N.get hp)
theorem loop_raw {x : Str} {px : Pos} {it : Value} {body : List Stmt} {Q : Flow → Shared → Prop}
    (h : wpAny (model prog w) A (pyNext it) (fun r s₁ => match r with
      | none => Q .next s₁
      | some v => wpAny (model prog w) A (storeName env x v) (fun _ s₂ => wpAny (model prog w) A (execs body env) (fun f s₃ => match f with
          | .next | .cont => LoopC prog w A E env x px it body Q s₃
          | .brk => Q .next s₃
          | .ret v => Q (.ret v) s₃) E s₂) E s₁) E s) (hE : PassesOwn (model prog w) A env E) : LoopC prog w A E env x px it body Q s := by
  unfold LoopC
  refine codeAny_of_tree ?_
  show wpAny _ A ((forTurn (.Name x px) it body [] env).onRaise (fun x => do noteFrame x env; theTreesLotGoes x)) _ _ s
  refine wpAny_noted (wpAny_passesOwn hE ?_)
  simp only [forTurn]
  refine wpAny_bind (wpAny_standAt (wpAny_bind (wpAny_onRaise (wpAny_mono h (fun r s₁ h₁ => ?_) fun _ _ h' => wpAny_standAt h'))))
  cases r with
  | none => exact wpAny_pure ⟨rfl, codeAny_block (wpAny_execs_nil h₁)⟩
  | some v =>
    refine wpAny_bind (wpAny_of_eq (rfl : letOwnedTupleGo (.Name x px) it v = pure ()) ?_)
    refine wpAny_bind (wpAny_assign_Name (wpAny_mono h₁ (fun _ s₂ h₂ => wpAny_bind (wpAny_mono h₂ (fun f s₃ h₃ => ?_) fun _ _ h' => h')) fun _ _ h' => h'))
    cases f with
    | next => exact wpAny_pure ⟨rfl, h₃⟩
    | cont => exact wpAny_pure ⟨rfl, h₃⟩
    | brk => exact wpAny_pure h₃
    | ret v => exact wpAny_pure h₃
theorem loop_item {x : Str} {px : Pos} {it D : Addr} {body : List Stmt} {Q : Flow → Shared → Prop} {h₀ : Heap} {L : Addr} {m : Str → Option Value} {news news' : List (Addr × Obj)} {vs : List Value} {v : Value} (i : Nat)
    (F : Fr h₀ L s.heap m) (N : News h₀ L s.heap news) (hm : (D, tupN vs) ∈ news) (U : Upd it (itO D i) (itO D (i + 1)) news news') (hv : vs[i]? = some v)
    (k : ∀ h', Fr h₀ L h' m → News h₀ L h' news' → wpAny (model prog w) A (storeName env x v) (fun _ s₂ => wpAny (model prog w) A (execs body env) (fun f s₃ => match f with
          | .next | .cont => LoopC prog w A E env x px (.ref it) body Q s₃
          | .brk => Q .next s₃
          | .ret v => Q (.ret v) s₃) E s₂) E { s with heap := h' })
    (hE : PassesOwn (model prog w) A env E := by passes_own) : LoopC prog w A E env x px (.ref it) body Q s := by
  have hit := N _ (upd_mem U)
  refine loop_raw (next_item (items := vs.toArray) hit.1 ⟨_, N.get hm, rfl, _, rfl⟩ (by simpa using hv) fun h' g sb => ?_) hE
  have kk : Kept [it] s.heap h' := fun b o hb e => (sb.2 b (by simpa using hb)).trans e
  exact k h' (kk.fr F (by simpa using Ne.symm hit.2.1) (by simpa using hit.2.2)) (news_upd N U (fun b o hb e => (sb.2 b hb).trans e) g)
theorem loop_end {x : Str} {px : Pos} {it D : Addr} {body : List Stmt} {Q : Flow → Shared → Prop} {h₀ : Heap} {L : Addr} {m : Str → Option Value} {news news' : List (Addr × Obj)} {vs : List Value} (i : Nat)
    (hh : A.handled = none) (F : Fr h₀ L s.heap m) (N : News h₀ L s.heap news) (hm : (D, tupN vs) ∈ news) (U : Upd it (itO D i) (itE i) news news') (hv : vs[i]? = none)
    (k : ∀ h', Fr h₀ L h' m → News h₀ L h' news' → Q .next { s with heap := h' })
    (hE : PassesOwn (model prog w) A env E := by passes_own) : LoopC prog w A E env x px (.ref it) body Q s := by
  have hit := N _ (upd_mem U)
  refine loop_raw (next_end (items := vs.toArray) hh hit.1 ⟨_, N.get hm, rfl, _, rfl⟩ (by simpa using hv) fun h' g sb => ?_) hE
  have kk : Kept [it] s.heap h' := fun b o hb e => sb b o (by simpa using hb) e
  exact k h' (kk.fr F (by simpa using Ne.symm hit.2.1) (by simpa using hit.2.2)) (news_upd N U (fun b o hb e => sb b o hb e) g)
theorem app_L {D : Addr} {x : Value} {h₀ : Heap} {L : Addr} {m : Str → Option Value} {news news' : List (Addr × Obj)} {vs : List Value} {n : Nat} {Q : Value → Shared → Prop} (F : Fr h₀ L s.heap m) (N : News h₀ L s.heap news)
    (U : Upd D (PySem.W.listOf vs.toArray n) (PySem.W.listOf (vs ++ [x]).toArray (n + 1)) news news') (hz : vs.length ≤ 1000)
    (h : ∀ h', Fr h₀ L h' m → News h₀ L h' news' → Q .none { s with heap := h' }) : wpAny (model prog w) A (call (.builtin "list.append") [.ref D, x]) Q E s := by
  rw [← List.push_toArray] at U
  exact append_K F N U h (by rw [List.size_toArray, sizeLine_eq]; (first | lia | omega))
end
end Mine
end

section
open PySem PySem.W PyProof.Rows
set_option maxRecDepth 100000

namespace Mine
open PySem PySem.W PySem.Calls PyProof.Rows PySem.Spec PyProof.V
/-! ## enumerate over a tuple -/
section
variable {prog : Program} {w : World} {A : Around} {E : Value → Shared → Prop} {s : Shared} {env : Env}
theorem nextOf_item {it t : Addr} {i : Nat} {items : Array Value} {x : Value} {Q : Value → Shared → Prop} (hit : s.heap.get? it = some (itO t i))
    (ht : s.heap.IsTuple t items) (hx : items[i]? = some x) (hQ : ∀ h', h'.get? it = some (itO t (i + 1)) → Heap.SameBut it s.heap h' → Q x { s with heap := h' }) :
    wpAny (model prog w) A (Builtin.SmallTypes.nextOf (.ref it)) Q E s := by
  obtain ⟨ol, hol, _, nl, hdl⟩ := ht
  unfold Builtin.SmallTypes.nextOf
  refine wpAny_bind (wpAny_callSpecial?_slot (name := Str.ofString "__next__") (itO_is hit).typeIs F.slot_tuple_iterator_next
    (wpAny_call_entry F.slot_tuple_iterator_next (itO_is hit).typeIs F.entry_tuple_iterator_next ?_ (F.args_tuple_iterator_next_1 _)))
  show wpAny _ _ (field (.ref it) 0 >>= _) _ _ s
  refine wpAny_bind (wpAny_field hit rfl (x := .ref t) rfl ?_)
  show wpAny _ _ (if (Value.ref t == Value.none) = true then _ else _) _ _ s
  rw [if_neg (show ¬ ((Value.ref t == Value.none) = true) from Bool.false_ne_true)]
  show wpAny _ _ (field (.ref it) 1 >>= _) _ _ s
  refine wpAny_bind (wpAny_field hit rfl (x := .int i 0) rfl ?_)
  show wpAny _ _ (seqItems? (.ref t) >>= _) _ _ s
  refine wpAny_bind (wpAny_seqItems hol hdl ?_)
  simp only [Int.toNat_natCast, hx]
  refine wpAny_bind (wpAny_setField_rec hit (by simp) fun h' g sb => wpAny_pure ⟨x, rfl, wpAny_pure (hQ _ ?_ sb)⟩)
  rw [g]
  rfl
theorem nextOf_end {it t : Addr} {i : Nat} {items : Array Value} {Q : Value → Shared → Prop} (hh : A.handled = none)
    (hit : s.heap.get? it = some (itO t i)) (ht : s.heap.IsTuple t items) (hx : items[i]? = none)
    (hE : ∀ h' e, h'.get? it = some (itE i) → Heap.ExtBut it s.heap h' → (∃ o, h'.get? e = some o ∧ o.cls = .type "StopIteration") → E (.ref e) { s with heap := h' }) :
    wpAny (model prog w) A (Builtin.SmallTypes.nextOf (.ref it)) Q E s := by
  obtain ⟨ol, hol, _, nl, hdl⟩ := ht
  unfold Builtin.SmallTypes.nextOf
  refine wpAny_bind (wpAny_callSpecial?_slot (name := Str.ofString "__next__") (itO_is hit).typeIs F.slot_tuple_iterator_next
    (wpAny_call_entry F.slot_tuple_iterator_next (itO_is hit).typeIs F.entry_tuple_iterator_next ?_ (F.args_tuple_iterator_next_1 _)))
  show wpAny _ _ (field (.ref it) 0 >>= _) _ _ s
  refine wpAny_bind (wpAny_field hit rfl (x := .ref t) rfl ?_)
  show wpAny _ _ (if (Value.ref t == Value.none) = true then _ else _) _ _ s
  rw [if_neg (show ¬ ((Value.ref t == Value.none) = true) from Bool.false_ne_true)]
  show wpAny _ _ (field (.ref it) 1 >>= _) _ _ s
  refine wpAny_bind (wpAny_field hit rfl (x := .int i 0) rfl ?_)
  show wpAny _ _ (seqItems? (.ref t) >>= _) _ _ s
  refine wpAny_bind (wpAny_seqItems hol hdl ?_)
  simp only [Int.toNat_natCast, hx]
  refine wpAny_bind (wpAny_rule (wpAny_bind (wpAny_setField_rec hit (by simp) fun h' g sb => ?_)))
  show wpAny _ _ (newExc (.type "StopIteration") [] >>= _) _ _ _
  refine wpAny_bind ?_
  simp only [newExc, newTuple]
  refine wpAny_bind (wpAny_newObj_type ?_ (by size_fits))
  refine wpAny_bind (m := firstArgMember _ _) (wpAny_of_eq (a := Value.none) (by first | rfl | (simp only [firstArgMember]; rfl)) ?_)
  refine wpAny_newObj_type ?_ (by size_fits)
  simp only [raiseNew]
  refine wpAny_bind (wpAny_handled ?_)
  first | rw [show A.in1.handled = none from hh] | rw [hh]
  refine wpAny_bind (wpAny_pure (wpAny_throw ?_))
  exact hE _ _ (Heap.get?_push_of_some _ (Heap.get?_push_of_some _ g)) ((sb.extBut.push _).push _) ⟨_, Heap.get?_push_size _ rfl, rfl⟩

theorem enum_item {e it l : Addr} {i : Nat} {items : Array Value} {x old : Value} {Q : Option Value → Shared → Prop}
    (he : IsEnum s.heap e it i old) (hit : s.heap.get? it = some (itO l i)) (hl : s.heap.IsTuple l items) (hx : items[i]? = some x) (hne : e ≠ it)
    (hQ : ∀ h', IsEnumOut h' e it ((i : Int) + 1) x s.heap.objs.size → h'.get? it = some (itO l (i + 1)) →
      h'.get? s.heap.objs.size = some { cls := .type "tuple", data := .seq #[.int i s.toks, x] } →
      (∀ b o, b ≠ e → b ≠ it → s.heap.get? b = some o → h'.get? b = some o) → Q (some (.ref s.heap.objs.size)) { s with heap := h', toks := s.toks + 1 }) :
    wpAny (model prog w) A (pyNext (.ref e)) Q E s := by
  have hT : s.TypeIs (.ref e) "enumerate" := ⟨_, he, rfl⟩
  unfold pyNext
  refine wpAny_bind (wpAny_attempt (wpAny_callSpecial?_slot (name := Str.ofString "__next__") hT F.slot_enumerate_next
    (wpAny_call_entry F.slot_enumerate_next hT F.entry_enumerate_next ?_ (F.args_enumerate_next_1 _))))
  obtain ⟨hp, g, d, tk, os⟩ := s
  show wpAny _ _ (field (.ref e) 2 >>= _) _ _ _
  refine wpAny_bind (wpAny_field he rfl (x := .ref it) rfl ?_)
  refine wpAny_bind (nextOf_item hit hl hx fun h₁ hit₁ hs₁ => ?_)
  replace hs₁ : Heap.SameBut it hp h₁ := hs₁
  have he₁ : IsEnum h₁ e it i old := (hs₁.2 e hne).trans he
  show wpAny _ _ (field (.ref e) 3 >>= _) _ _ ⟨h₁, g, d, tk, os⟩
  refine wpAny_bind (wpAny_field he₁ rfl (x := rawInt i) rfl ?_)
  show wpAny _ _ (field (.ref e) 4 >>= _) _ _ ⟨h₁, g, d, tk, os⟩
  refine wpAny_bind (wpAny_field he₁ rfl (x := .none) rfl ?_)
  show wpAny _ _ (mkInt i >>= _) _ _ ⟨h₁, g, d, tk, os⟩
  refine wpAny_bind (wpAny_mkInt ?_)
  show wpAny _ _ (setField (.ref e) 3 (rawInt ((i : Int) + 1)) >>= _) _ _ ⟨h₁, g, d, tk + 1, os⟩
  refine wpAny_bind (wpAny_setField_rec he₁ (by simp) fun h₂ he₂ hs₂ => ?_)
  replace hs₂ : Heap.SameBut e h₁ h₂ := hs₂
  replace he₂ : IsEnum h₂ e it ((i : Int) + 1) old := he₂
  show wpAny _ _ (setField (.ref e) 4 .none >>= _) _ _ ⟨h₂, g, d, tk + 1, os⟩
  refine wpAny_bind (wpAny_setField_rec he₂ (by simp) fun h₃ he₃ hs₃ => ?_)
  replace hs₃ : Heap.SameBut e h₂ h₃ := hs₃
  replace he₃ : IsEnum h₃ e it ((i : Int) + 1) old := he₃
  show wpAny _ _ (newTuple [.int i tk, x] >>= _) _ _ ⟨h₃, g, d, tk + 1, os⟩
  refine wpAny_bind (wpAny_newTuple ?_)
  have he₄ : IsEnum (h₃.push { cls := .type "tuple", data := .seq #[.int i tk, x] }) e it ((i : Int) + 1) old := Heap.get?_push_of_some _ he₃
  have hsz : h₃.objs.size = hp.objs.size := by rw [hs₃.1, hs₂.1, hs₁.1]
  have hel : e < hp.objs.size := Heap.lt_size he
  have ht₄ : (h₃.push { cls := .type "tuple", data := .seq #[.int i tk, x] }).get? hp.objs.size = some { cls := .type "tuple", data := .seq #[.int i tk, x] } := by rw [← hsz]; exact Heap.get?_push_size _ rfl
  have hk₄ : ∀ b o, b ≠ e → b ≠ it → hp.get? b = some o → (h₃.push { cls := .type "tuple", data := .seq #[.int i tk, x] }).get? b = some o := fun b o hbe hbi hb =>
    Heap.get?_push_of_some _ (hs₃.extBut b o hbe (hs₂.extBut b o hbe (hs₁.extBut b o hbi hb)))
  have hit₄ : (h₃.push { cls := .type "tuple", data := .seq #[.int i tk, x] }).get? it = some (itO l (i + 1)) :=
    Heap.get?_push_of_some _ (hs₃.extBut _ _ (Ne.symm hne) (hs₂.extBut _ _ (Ne.symm hne) hit₁))
  generalize h₃.push { cls := .type "tuple", data := .seq #[.int i tk, x] } = h₄ at he₄ ht₄ hk₄ hit₄ ⊢
  show wpAny _ _ (Builtin.SmallTypes.ownedTupleIsFree (.ref e) >>= _) _ _ ⟨h₄, g, d, tk + 1, os⟩
  rw [hsz]
  refine wpAny_bind ?_
  unfold Builtin.SmallTypes.ownedTupleIsFree
  refine wpAny_bind (wpAny_field he₄ rfl (x := .none) rfl (wpAny_pure ?_))
  simp only [if_true]
  refine wpAny_bind (wpAny_rule ?_)
  refine wpAny_bind (wpAny_field he₄ rfl (x := old) rfl ?_)
  refine wpAny_bind (wpAny_setField_rec he₄ (by simp) fun h₅ he₅ hs₅ => ?_)
  replace hs₅ : Heap.SameBut e h₄ h₅ := hs₅
  replace he₅ : IsEnum h₅ e it ((i : Int) + 1) x := he₅
  show wpAny _ _ (Builtin.SmallTypes.ownedTupleHandOut (.ref e) (.ref hp.objs.size) >>= _) _ _ ⟨h₅, g, d, tk + 1, os⟩
  refine wpAny_bind ?_
  unfold Builtin.SmallTypes.ownedTupleHandOut
  refine wpAny_bind (wpAny_setField_rec he₅ (by simp) fun h₆ he₆ hs₆ => ?_)
  replace hs₆ : Heap.SameBut e h₅ h₆ := hs₆
  replace he₆ : IsEnumOut h₆ e it ((i : Int) + 1) x hp.objs.size := he₆
  refine wpAny_setField_rec he₆ (by simp) fun h₇ he₇ hs₇ => ?_
  replace hs₇ : Heap.SameBut e h₆ h₇ := hs₇
  replace he₇ : IsEnumOut h₇ e it ((i : Int) + 1) x hp.objs.size := he₇
  have up : ∀ b o, b ≠ e → h₄.get? b = some o → h₇.get? b = some o := fun b o hb q => hs₇.extBut _ _ hb (hs₆.extBut _ _ hb (hs₅.extBut _ _ hb q))
  exact wpAny_bind (wpAny_letGo (wpAny_pure ⟨_, rfl, wpAny_pure (hQ h₇ he₇ (up _ _ (Ne.symm hne) hit₄) (up _ _ (Nat.ne_of_gt hel) ht₄) fun b o hbe hbi hb => up b o hbe (hk₄ b o hbe hbi hb))⟩))

theorem enum_end {e it l : Addr} {i : Nat} {items : Array Value} {old : Value} {Q : Option Value → Shared → Prop} (hh : A.handled = none)
    (he : IsEnum s.heap e it i old) (hit : s.heap.get? it = some (itO l i)) (hl : s.heap.IsTuple l items) (hx : items[i]? = none)
    (hQ : ∀ h', h'.get? it = some (itE i) → Heap.ExtBut it s.heap h' → Q none { s with heap := h' }) : wpAny (model prog w) A (pyNext (.ref e)) Q E s := by
  have hT : s.TypeIs (.ref e) "enumerate" := ⟨_, he, rfl⟩
  unfold pyNext
  refine wpAny_bind (wpAny_attempt (wpAny_callSpecial?_slot (name := Str.ofString "__next__") hT F.slot_enumerate_next
    (wpAny_call_entry F.slot_enumerate_next hT F.entry_enumerate_next ?_ (F.args_enumerate_next_1 _))))
  show wpAny _ _ (field (.ref e) 2 >>= _) _ _ _
  refine wpAny_bind (wpAny_field he rfl (x := .ref it) rfl ?_)
  refine wpAny_bind (nextOf_end hh hit hl hx fun h' x g he' hx' => ?_)
  obtain ⟨o, ho, hc⟩ := hx'
  refine wpAny_bind (wpAny_isInstance (T := "StopIteration") (b := true) ⟨o, ho, hc⟩ isSubtype_stop ?_)
  exact wpAny_pure (hQ _ g he')

theorem meets_enum_tup (l : Addr) (items : Array Value) (n : Nat) (dct : Option Addr) (sl : Array (Option Value)) :
    Meets (Builtin.«enumerate.__new__» ⟨[.type "enumerate", .ref l], []⟩) (fun _ R s => s.heap.get? l = some { cls := .type "tuple", dict := dct, data := .seq items n, slots := sl } ∧
      R (.ok (.ret (.ref (s.heap.push (itO l 0)).objs.size)))
        { s with heap := (s.heap.push (itO l 0)).push { cls := .type "enumerate", data := .fields #[.none, .bool false, .ref s.heap.objs.size, rawInt 0, .none, .none] } }) :=
  .of_wp fun prog w A R s h => by
    obtain ⟨hp, g, d, tk, os⟩ := s; obtain ⟨hl, h⟩ := h
    have hsub := sub_enumerate
    have hL : Heap.IsTuple (Shared.heap ⟨hp, g, d, tk, os⟩) l items := ⟨_, hl, rfl, n, rfl⟩
    wp_walk using PySem.AutoSeq1.wpAny_loadPart' hl
    refine wpAny_stack_any fun st => wpAny_pure ?_
    split
    · rename_i c _ _ _ _ _
      cases (c == Value.type "enumerate")
      · wp_walk using PySem.AutoSeq1.wpAny_loadPart' hl, wpAny_pyIter_tuple hL
        exact ⟨_, rfl, h⟩
      · wp_walk using PySem.AutoSeq1.wpAny_loadPart' hl, wpAny_pyIter_tuple hL
        exact ⟨_, rfl, h⟩
    · wp_walk using PySem.AutoSeq1.wpAny_loadPart' hl, wpAny_pyIter_tuple hL
      exact ⟨_, rfl, h⟩
theorem call_enum {h₀ : Heap} {L D : Addr} {m : Str → Option Value} {news : List (Addr × Obj)} {vs : List Value} {Q : Value → Shared → Prop} (F₀ : Fr h₀ L s.heap m) (N : News h₀ L s.heap news) (hm : (D, tupN vs) ∈ news)
    (k : ∀ h' e it, Fr h₀ L h' m → News h₀ L h' ((e, { cls := .type "enumerate", data := .fields #[.none, .bool false, .ref it, rawInt 0, .none, .none] }) :: (it, itO D 0) :: news) → (∀ p ∈ news, p.1 < it) → it < e → Q (.ref e) { s with heap := h' }) :
    wpAny (model prog w) A (call (.type "enumerate") [.ref D]) Q E s := by
  refine callType_new F.called_enumerate (by decide) (F.typeCall_enumerate_1 _) (F.newCall_enumerate_1 _) (fun obj => F.args_object_init_2 obj _) F.entry_enumerate_new
    (meets_enum_tup D vs.toArray _ _ _) ⟨N.get hm, ?_⟩
  have hz : (s.heap.push (itO D 0)).objs.size = s.heap.objs.size + 1 := Heap.size_push ..
  show _ ∧ _
  have F1 := F₀.push (itO D 0)
  have N1 := News.push F₀ N (itO D 0)
  have N2 := News.push F1 N1 { cls := .type "enumerate", data := .fields #[.none, .bool false, .ref s.heap.objs.size, rawInt 0, .none, .none] }
  exact ⟨⟨_, Heap.get?_push_size _ rfl, rfl⟩, k _ _ _ (F1.push _) N2 (fun p hp => Heap.lt_size (N.get hp)) (by rw [hz]; exact Nat.lt_succ_self _)⟩
end
end Mine
end

section
open PySem PySem.W PyProof.Rows
set_option maxRecDepth 100000

namespace Mine
open PySem PySem.W PySem.Calls PyProof.Rows PySem.Spec PyProof.V
abbrev enO (it : Addr) (i : Nat) (old : Value) : Obj := { cls := .type "enumerate", data := .fields #[.none, .bool false, .ref it, rawInt (i : Int), .none, old] }
section
variable {prog : Program} {w : World} {A : Around} {E : Value → Shared → Prop} {s : Shared} {env : Env}
def LoopG (prog : Program) (w : World) (A : Around) (E : Value → Shared → Prop) (env : Env) (target : Expr) (it : Value) (body : List Stmt) (Q : Flow → Shared → Prop) (s : Shared) : Prop :=
  codeAny (model prog w) A (.forLoop target it body [] env) (fun r s' => match r with | .ok f => Q f s' | .error e => cameBackBy (model prog w) A env E e s') s
theorem For_G {target : Expr} {pos : Pos} {iter : Expr} {body : List Stmt} {Q : Flow → Shared → Prop}
    (h : wpAny (model prog w) A (eval iter env) (fun xv s₁ => wpAny (model prog w) A (pyIter xv) (fun it s₂ => LoopG prog w A E env target it body Q s₂) E s₁) E s)
    (hs : ∀ x, foldedSetIterable iter env x = pure x := by intro _; rfl) :
    wpAny (model prog w) A (exec (.For target iter body [] pos) env) Q E s := wpAny_For h hs
theorem loopG_raw {target : Expr} {it : Value} {body : List Stmt} {Q : Flow → Shared → Prop}
    (h : wpAny (model prog w) A (pyNext it) (fun r s₁ => match r with
      | none => Q .next s₁
      | some v => wpAny (model prog w) A (letOwnedTupleGo target it v) (fun _ s₁' => wpAny (model prog w) A (assign target env v) (fun _ s₂ => wpAny (model prog w) A (execs body env) (fun f s₃ => match f with
          | .next | .cont => LoopG prog w A E env target it body Q s₃
          | .brk => Q .next s₃
          | .ret v => Q (.ret v) s₃) E s₂) E s₁') E s₁) E s) (hE : PassesOwn (model prog w) A env E) : LoopG prog w A E env target it body Q s := by
  unfold LoopG
  refine codeAny_of_tree ?_
  show wpAny _ A ((forTurn target it body [] env).onRaise (fun x => do noteFrame x env; theTreesLotGoes x)) _ _ s
  refine wpAny_noted (wpAny_passesOwn hE ?_)
  simp only [forTurn]
  refine wpAny_bind (wpAny_standAt (wpAny_bind (wpAny_onRaise (wpAny_mono h (fun r s₁ h₁ => ?_) fun _ _ h' => wpAny_standAt h'))))
  cases r with
  | none => exact wpAny_pure ⟨rfl, codeAny_block (wpAny_execs_nil h₁)⟩
  | some v =>
    refine wpAny_bind (wpAny_mono h₁ (fun _ s₁' h₁' => ?_) fun _ _ h' => h')
    refine wpAny_bind (wpAny_mono h₁' (fun _ s₂ h₂ => wpAny_bind (wpAny_mono h₂ (fun f s₃ h₃ => ?_) fun _ _ h' => h')) fun _ _ h' => h')
    cases f with
    | next => exact wpAny_pure ⟨rfl, h₃⟩
    | cont => exact wpAny_pure ⟨rfl, h₃⟩
    | brk => exact wpAny_pure h₃
    | ret v => exact wpAny_pure h₃
theorem enum_turn {elts : List Expr} {x1 : Nat} {tp : Pos} {e it D : Addr} {body : List Stmt} {Q : Flow → Shared → Prop} {h₀ : Heap} {L : Addr} {m : Str → Option Value} {rest : List (Addr × Obj)} {vs : List Value} {v old : Value} {i : Nat}
    (F₀ : Fr h₀ L s.heap m) (N : News h₀ L s.heap ((e, enO it i old) :: (it, itO D i) :: rest)) (hm : (D, tupN vs) ∈ rest) (off : ∀ p ∈ rest, p.1 ≠ e ∧ p.1 ≠ it) (hne : e ≠ it) (hv : vs[i]? = some v)
    (k : ∀ T tk h', Fr h₀ L h' m → News h₀ L h' ((T, tupN [.int (i : Int) tk, v]) :: (e, enO it (i + 1) v) :: (it, itO D (i + 1)) :: rest) → (∀ p ∈ (e, enO it i old) :: (it, itO D i) :: rest, p.1 < T) → wpAny (model prog w) A (assign (.Tuple elts x1 tp) env (.ref T)) (fun _ s₂ => wpAny (model prog w) A (execs body env) (fun f s₃ => match f with
          | .next | .cont => LoopG prog w A E env (.Tuple elts x1 tp) (.ref e) body Q s₃
          | .brk => Q .next s₃
          | .ret v => Q (.ret v) s₃) E s₂) E { s with heap := h', toks := s.toks + 1 })
    (hE : PassesOwn (model prog w) A env E) : LoopG prog w A E env (.Tuple elts x1 tp) (.ref e) body Q s := by
  have he := N _ (.head _)
  have hit := N _ (.tail _ (.head _))
  refine loopG_raw (enum_item (items := vs.toArray) he.1 hit.1 ⟨_, N.get (.tail _ (.tail _ hm)), rfl, _, rfl⟩ (by simpa using hv) hne fun h1 g1 g2 g3 k1 => ?_) hE
  refine wpAny_letOwnedTupleGo_enum g1 fun h2 g4 sb => ?_
  have hlt : ∀ p ∈ (e, enO it i old) :: (it, itO D i) :: rest, p.1 < s.heap.objs.size := fun p hp => Heap.lt_size (N.get hp)
  have kk : Kept [e, it] s.heap h2 := fun b o hb q => by
    have hb1 : b ≠ e := fun z => hb (z ▸ .head _)
    have hb2 : b ≠ it := fun z => hb (z ▸ .tail _ (.head _))
    exact (sb.2 b hb1).trans (k1 b o hb1 hb2 q)
  have hT : h2.get? s.heap.objs.size = some (tupN [.int (i : Int) s.toks, v]) := (sb.2 _ (Nat.ne_of_gt (hlt _ (.head _)))).trans g3
  have hI : h2.get? it = some (itO D (i + 1)) := (sb.2 _ (Ne.symm hne)).trans g2
  refine k s.heap.objs.size s.toks h2 (kk.fr F₀ ?_ (fun b hb => ?_)) (fun p hp => ?_) hlt
  · intro hb
    rcases List.mem_cons.mp hb with hb | hb
    · exact he.2.1 hb.symm
    · exact hit.2.1 (List.mem_singleton.mp hb).symm
  · rcases List.mem_cons.mp hb with rfl | hb
    · exact he.2.2
    · rw [List.mem_singleton.mp hb]; exact hit.2.2
  · rcases List.mem_cons.mp hp with rfl | hp
    · refine ⟨hT, ?_, F₀.fresh⟩
      obtain ⟨oL, _, _, hL, _⟩ := F₀.ns
      exact Ne.symm (Nat.ne_of_lt (Heap.lt_size hL))
    rcases List.mem_cons.mp hp with rfl | hp
    · exact ⟨g4, he.2⟩
    rcases List.mem_cons.mp hp with rfl | hp
    · exact ⟨hI, hit.2⟩
    · have := N p (.tail _ (.tail _ hp))
      exact ⟨kk _ _ (by simpa using off p hp) this.1, this.2⟩
theorem enum_done {elts : List Expr} {x1 : Nat} {tp : Pos} {e it D : Addr} {body : List Stmt} {Q : Flow → Shared → Prop} {h₀ : Heap} {L : Addr} {m : Str → Option Value} {rest : List (Addr × Obj)} {vs : List Value} {old : Value} {i : Nat}
    (hh : A.handled = none) (F₀ : Fr h₀ L s.heap m) (N : News h₀ L s.heap ((e, enO it i old) :: (it, itO D i) :: rest)) (hm : (D, tupN vs) ∈ rest) (off : ∀ p ∈ rest, p.1 ≠ e ∧ p.1 ≠ it) (hv : vs[i]? = none)
    (k : ∀ h', Fr h₀ L h' m → News h₀ L h' rest → Q .next { s with heap := h' })
    (hE : PassesOwn (model prog w) A env E) : LoopG prog w A E env (.Tuple elts x1 tp) (.ref e) body Q s := by
  have he := N _ (.head _)
  have hit := N _ (.tail _ (.head _))
  refine loopG_raw (enum_end (items := vs.toArray) hh he.1 hit.1 ⟨_, N.get (.tail _ (.tail _ hm)), rfl, _, rfl⟩ (by simpa using hv) fun h' g sb => ?_) hE
  have kk : Kept [it] s.heap h' := fun b o hb q => sb b o (by simpa using hb) q
  refine k h' (kk.fr F₀ (by simpa using Ne.symm hit.2.1) (by simpa using hit.2.2)) fun p hp => ?_
  have := N p (.tail _ (.tail _ hp))
  exact ⟨kk _ _ (by simpa using (off p hp).2) this.1, this.2⟩
end
end Mine
end

section
open PySem PySem.W PyProof.Rows
set_option maxRecDepth 100000

namespace Mine
open PySem PySem.W PySem.Calls PyProof.Rows PySem.Spec PyProof.V PyProof.Rows.LCg
section
variable {prog : Program} {w : World} {A : Around} {E : Value → Shared → Prop} {s : Shared} {h₀ : Heap} {L : Addr} {m : Str → Option Value} {env : Env}
theorem tup_st {ax I : Addr} {vs : List Value} : ∀ i (h h' : Heap) (o : Obj) (nw : List (Addr × Obj)), (h.IsTupleIter I ax i ∧ h.IsTuple ax vs.toArray) → h.get? I = some o → h'.get? I = some o → (∀ b o, h₀.get? b = some o → h'.get? b = some o) → News h₀ L h' nw → (ax, tupN vs) ∈ nw → (h'.IsTupleIter I ax i ∧ h'.IsTuple ax vs.toArray) :=
  fun i h h' o nw st e e' k N S => ⟨by obtain ⟨o', q, r⟩ := st.1; rw [e] at q; cases q; exact ⟨o, e', r⟩, ⟨_, N.get S, rfl, _, rfl⟩⟩
def SrcT (prog : Program) (w : World) (A : Around) (h₀ : Heap) (L : Addr) (m : Str → Option Value) (env : Env) (elt : Expr) (x : Str) (scope : Scope) (cl : List (Str × Addr)) (Q : Value → Shared → Prop) (xv : Value) (s₁ : Shared) : Prop :=
  ∃ ax vs news, xv = .ref ax ∧ Fr h₀ L s₁.heap m ∧ News h₀ L s₁.heap news ∧ (ax, tupN vs) ∈ news ∧ vs.length ≤ 1000 ∧
      ∀ s₂ : Shared, (∃ g, s₂ = { s₁ with heap := g }) → CompRest prog w A h₀ L m env elt x scope cl s₂ (fun nw => (ax, tupN vs) ∈ nw) (fun i v => vs.toArray[i]? = some v) (FinE h₀ L m s₂ Q) vs.length 0 [] news
/-- a list comprehension over a tuple of the ledger -/
theorem ListComp_T {elt iter : Expr} {x : Str} {px : Pos} {scope : Scope} {cl : List (Str × Addr)} {pos : Pos} {Q : Value → Shared → Prop} (_F₀ : Fr h₀ L s.heap m) (hh : A.handled = none)
    (hclos : closureFor scope env = pure cl) (hcell : ∀ y ∈ scope.names, y.2 ≠ .cell) (hkind : scope.kind = .function)
    (hnames : ∀ y ∈ scope.names, y.2 = .local → scope.names.lookup y.1 = some .local) (hx : scope.names.lookup x = some .local)
    (h : wpAny (model prog w) A (eval iter env) (fun xv s₁ => SrcT prog w A h₀ L m env elt x scope cl Q xv s₁) E s)
    (hs : ∀ x, foldedSetIterable iter env x = pure x := by intro _; rfl) :
    wpAny (model prog w) A (eval (.ListComp elt [⟨.Name x px, iter, [], 0⟩] scope pos) env) Q E s := by
  rw [eval_ListComp]
  refine wpAny_comprehension_free (use := none) rfl hs hclos hkind hnames (wpAny_mono h (fun xv s₁ h₁ => ?_) fun _ _ e => e)
  obtain ⟨ax, vs, news, rfl, F, N, S, hsz, R⟩ := h₁
  have hl : s₁.heap.IsTuple ax vs.toArray := ⟨_, N.get S, rfl, _, rfl⟩
  have hlt : ax < s₁.heap.objs.size := by obtain ⟨_, e, _⟩ := hl; exact Heap.lt_size e
  refine wpAny_pyIter_tuple hl ?_
  have up : ∀ b o, s₁.heap.get? b = some o → (s₁.heap.push (itO ax 0)).get? b = some o := fun b o e => Heap.get?_push_of_some _ e
  have hn : vs.toArray.size = vs.length := List.size_toArray ..
  refine block_U (Walks.tuple hh s₁.heap.objs.size ax (Nat.ne_of_lt hlt) vs.toArray) (by rw [hn, sizeLine_eq]; (first | lia | omega)) (fun i h st => by obtain ⟨o, e, _⟩ := st.1; exact ⟨o, e⟩) tup_st hcell hkind hx ⟨⟨_, Heap.get?_push_size _ rfl, rfl, rfl⟩, hl.push _⟩ (fun b hb => ?_)
    (F.keeps up) (N.grown up) (Nat.ne_of_lt F.ns.lt) (next_is_new F) (fun p hp => Nat.ne_of_lt (Heap.lt_size (N p hp).1)) S (hn ▸ R _ ⟨_, rfl⟩) ?_
  · show b < (s₁.heap.push _).objs.size
    rw [Heap.size_push]
    rcases List.mem_cons.mp hb with rfl | hb
    · exact Nat.lt_succ_self _
    · rw [List.mem_singleton.mp hb]; exact Nat.lt_succ_of_lt hlt
  · intro D C h tk m' ys news' F' N' o1 hn hC₀ hD₀ hCL hDL hCD offC fin
    refine ⟨m', hn, fun h'' hs'' => fin D h'' tk (F'.change hs'' hCL hC₀) (fun p hp => ?_) o1⟩
    refine ⟨hs''.extBut _ _ ?_ (N' p hp).1, (N' p hp).2⟩
    rcases List.mem_cons.mp hp with rfl | hp
    · exact Ne.symm hCD
    · exact offC p hp
end
end Mine
end

section
open PySem PySem.W PyProof.Rows
set_option maxRecDepth 100000

namespace Mine
open PySem PySem.W PySem.Calls PyProof.Rows PySem.Spec PyProof.V
theorem four_in {e : Int} (h0 : 1 ≤ e) (h1 : e ≤ 4) {i : Nat} (hi : i < 4) : 20 ≤ [20, 4 - e + 16, 60, 33].getD i 0 + e ∧ [20, 4 - e + 16, 60, 33].getD i 0 ≤ 60 := by
  match i, hi with
  | 0, _ => show 20 ≤ 20 + e ∧ (20 : Int) ≤ 60; (first | lia | omega)
  | 1, _ => show 20 ≤ 4 - e + 16 + e ∧ 4 - e + 16 ≤ 60; (first | lia | omega)
  | 2, _ => show 20 ≤ 60 + e ∧ (60 : Int) ≤ 60; (first | lia | omega)
  | 3, _ => show 20 ≤ 33 + e ∧ (33 : Int) ≤ 60; (first | lia | omega)
theorem four_lo {e : Int} (h0 : 1 ≤ e) (h1 : e ≤ 4) (i : Nat) : 0 ≤ [20, 4 - e + 16, 60, 33].getD i 0 := by
  by_cases hi : i < 4
  · have := four_in h0 h1 hi; (first | lia | omega)
  · rw [show [20, 4 - e + 16, 60, 33].getD i 0 = 0 from by rw [List.getD_eq_getElem?_getD, List.getElem?_eq_none (by simp only [List.length_cons, List.length_nil]; (first | lia | omega))]; rfl]; exact Int.le_refl _
theorem four_hi {e : Int} (h0 : 1 ≤ e) (h1 : e ≤ 4) (i : Nat) : [20, 4 - e + 16, 60, 33].getD i 0 ≤ 100 := by
  by_cases hi : i < 4
  · have := four_in h0 h1 hi; (first | lia | omega)
  · rw [show [20, 4 - e + 16, 60, 33].getD i 0 = 0 from by rw [List.getD_eq_getElem?_getD, List.getElem?_eq_none (by simp only [List.length_cons, List.length_nil]; (first | lia | omega))]; rfl]; decide
theorem four_of {x e v : Int} (hl : x = [20, 4 - e + 16, 60, 33].getD v.toNat 0) (h0 : 1 ≤ e) (h1 : e ≤ 4) (hv : v.toNat < 4) : 20 ≤ x + e ∧ x ≤ 60 := by rw [hl]; exact four_in h0 h1 hv
/-! ## the law's own call, at the one context -/
section
variable {prog : Program} {w : World} {s : Shared} {K : Frag} {p : Program} {loose : List Str} {mean : ExcName → Option Value} {mg mb : Str → Option Value}
  {R : Result → Shared → Prop} {name qual : Str} {params : Arguments} {body : List Stmt} {scope : Scope} {dV kV doc pm cdv ct oc : Value} {an od : Option Addr} {osl : Array (Option Value)} {f : Addr} {args : Args} {binds : List (Str × Value)}
theorem at_one {v : Value} {pos : List Value} {c : ClaimW} {cl : Str → Option Addr} {mn : ExcName → Option Value} {as : List WData} {s₁ : Shared} (h : codeP (model prog w) callerA (.call v ⟨pos, []⟩) (GoodWG c cl mn as s₁) s) :
    ∀ p, Sem.wp (model prog w) callCtx (PySem.call v pos) (fun v _ s' => GoodWG c cl mn as s₁ (.ok (.ret v)) s') (fun e _ s' => GoodWG c cl mn as s₁ (.error e) s') p s := fun p => by
  have hc : wpP (model prog w) callerA (PySem.call v pos) (fun v s' => GoodWG c cl mn as s₁ (.ok (.ret v)) s') (fun e s' => GoodWG c cl mn as s₁ (.error e) s') s :=
    wpP_call (codeP_mono h fun res s' g => by rcases g.1 with ⟨v, _, _, rfl, _⟩ | ⟨e, _, _, rfl, _⟩ <;> exact g)
  exact hc callCtx p caller_in (by decide) (fun _ hx => nomatch hx)
theorem enterTop (X : K.In s.heap) (T : Top p loose mean mg mb s.heap)
    (ho : K.lookup f = some ⟨oc, od, .func (fnOf name qual params body scope dV kV doc pm an cdv ct), osl⟩) (hcd : codeIn K cdv qual = true)
    (hbind : BindsTo s (fnOf name qual params body scope dV kV doc pm an cdv ct) args binds) (hloc : ∀ y ∈ binds, scope.names.lookup y.1 = some .local)
    (h : ∀ L' h₁, Fr s.heap L' h₁ (fun y => binds.reverse.lookup y) → Below callerA s.heap [] s.heap →
      wpP (model prog w) (callerA.deeper (envOf qual scope L' f cdv)) (execs body (envOf qual scope L' f cdv))
        (fun fl s' => R (.ok (.ret (match fl with | .ret v => v | _ => .none))) s') NoE { s with heap := h₁, toks := s.toks + binds.length })
    (hco : scope.isCoroutine = false) (hgen : scope.isGenerator = false) (hk : scope.kind = .function)
    (hcell : ∀ x ∈ scope.names, x.2 ≠ .cell) : codeP (model prog w) callerA (.call (.ref f) args) R s := by
  refine codeP_of_tree rfl ?_
  show wpP _ callerA.in1 (callAny (.ref f) args) _ _ s
  refine wpP_of (callAny_def (fd := fnOf name qual params body scope dV kV doc pm an cdv ct) (by decide) (X _ _ ho) rfl T.nolimit (codeRec_of X hcd) rfl hbind hcell hloc hco hgen hk fun h₁ hns hk₁ => ⟨rfl, codeP_func ?_⟩)
  exact h s.heap.objs.size h₁ ⟨hns, hk₁, Nat.le_refl _⟩ (below_caller _)
end
end Mine
end

/-! ## the program's own pieces, named by their place -/
section
open PySem PySem.W PySem.Calls PyProof.Rows
namespace Mine
theorem fill : PySem.Challenge.rw_ja0001_01 = PySem.Challenge.rw_ja0001_01 ∧ Mine.hd.heap_39 = Mine.hd.heap_39 := by
  k_fill
  exact ⟨rfl, rfl⟩
def P0 : Params := { strHash := fun _ => 0, shareClass := fun _ => 0, mergeTok := id, idOf := fun _ => 0, idOfShared := fun _ _ => 0, followText := fun _ => false, idOfImm := fun _ => 0 }
noncomputable def fdAt (f : Nat) : FuncData := match (hd.heap_39 P0).lookup f with
  | some o => match o.data with
    | .func fd => fd
    | _ => default
  | none => default
noncomputable def bodyAt (f : Nat) : List Stmt := match (fdAt f).body with
  | .stmts b => b
  | _ => []
def stIn (b : List Stmt) (i : Nat) : List Nat → Stmt
  | [] => b.getD i (.Pass default)
  | j :: js => match b.getD i (.Pass default) with
    | .For _ _ body _ _ => stIn body j js
    | .If _ body _ _ => stIn body j js
    | s => s
def compIn : Stmt → PySem.Expr × Scope
  | .Assign _ (.BinOp _ _ (.ListComp elt _ sc _) _) _ => (elt, sc)
  | _ => (.Name (Str.ofString "x") default, default)
def targetIn : Stmt → PySem.Expr
  | .For t _ _ _ _ => t
  | _ => .Name (Str.ofString "x") default
noncomputable abbrev envN (L : Addr) : Env := by
  refine (fun (_ : (fdAt 177).scope = ?x) => envOf (Str.ofString "_law_names") ?x L 177 (.ref 176)) ?h
  case h => (conv => lhs; whnf)
noncomputable abbrev envL (L : Addr) : Env := by
  refine (fun (_ : (fdAt 189).scope = ?x) => envOf (Str.ofString "law") ?x L 189 (.ref 188)) ?h
  case h => (conv => lhs; whnf)
noncomputable abbrev envA (L : Addr) : Env := by
  refine (fun (_ : (fdAt 97).scope = ?x) => envOf (Str.ofString "HeaderProtection.apply") ?x L 97 (.ref 96)) ?h
  case h => (conv => lhs; whnf)
noncomputable abbrev envR (L : Addr) : Env := by
  refine (fun (_ : (fdAt 104).scope = ?x) => envOf (Str.ofString "HeaderProtection.remove") ?x L 104 (.ref 103)) ?h
  case h => (conv => lhs; whnf)
noncomputable abbrev envT (L : Addr) : Env := by
  refine (fun (_ : (fdAt 170).scope = ?x) => envOf (Str.ofString "_law_turned") ?x L 170 (.ref 169)) ?h
  case h => (conv => lhs; whnf)
noncomputable abbrev envD (L : Addr) : Env := by
  refine (fun (_ : (fdAt 182).scope = ?x) => envOfC (Str.ofString "_law_names_due") ?x L 182 (.ref 181)) ?h
  case h => (conv => lhs; whnf)
noncomputable abbrev st_97_5 : Stmt := by
  refine (fun (_ : stIn (bodyAt 97) 5 [] = ?x) => ?x) ?h
  case h => (conv => lhs; whnf)
noncomputable abbrev st_97_6_0 : Stmt := by
  refine (fun (_ : stIn (bodyAt 97) 6 [0] = ?x) => ?x) ?h
  case h => (conv => lhs; whnf)
noncomputable abbrev st_104_4 : Stmt := by
  refine (fun (_ : stIn (bodyAt 104) 4 [] = ?x) => ?x) ?h
  case h => (conv => lhs; whnf)
noncomputable abbrev st_104_7_0 : Stmt := by
  refine (fun (_ : stIn (bodyAt 104) 7 [0] = ?x) => ?x) ?h
  case h => (conv => lhs; whnf)
noncomputable abbrev st_104_7_1 : Stmt := by
  refine (fun (_ : stIn (bodyAt 104) 7 [1] = ?x) => ?x) ?h
  case h => (conv => lhs; whnf)
noncomputable abbrev st_170_1 : Stmt := by
  refine (fun (_ : stIn (bodyAt 170) 1 [] = ?x) => ?x) ?h
  case h => (conv => lhs; whnf)
noncomputable abbrev st_170_2 : Stmt := by
  refine (fun (_ : stIn (bodyAt 170) 2 [] = ?x) => ?x) ?h
  case h => (conv => lhs; whnf)
noncomputable abbrev st_170_3 : Stmt := by
  refine (fun (_ : stIn (bodyAt 170) 3 [] = ?x) => ?x) ?h
  case h => (conv => lhs; whnf)
noncomputable abbrev st_170_4 : Stmt := by
  refine (fun (_ : stIn (bodyAt 170) 4 [] = ?x) => ?x) ?h
  case h => (conv => lhs; whnf)
noncomputable abbrev st_170_5 : Stmt := by
  refine (fun (_ : stIn (bodyAt 170) 5 [] = ?x) => ?x) ?h
  case h => (conv => lhs; whnf)
noncomputable abbrev st_177_1_0_0 : Stmt := by
  refine (fun (_ : stIn (bodyAt 177) 1 [0, 0] = ?x) => ?x) ?h
  case h => (conv => lhs; whnf)
noncomputable abbrev st_177_1_1 : Stmt := by
  refine (fun (_ : stIn (bodyAt 177) 1 [1] = ?x) => ?x) ?h
  case h => (conv => lhs; whnf)
noncomputable abbrev st_177_1_0 : Stmt := by
  refine (fun (_ : stIn (bodyAt 177) 1 [0] = ?x) => ?x) ?h
  case h => (conv => lhs; whnf)
noncomputable abbrev st_182_1_0 : Stmt := by
  refine (fun (_ : stIn (bodyAt 182) 1 [0] = ?x) => ?x) ?h
  case h => (conv => lhs; whnf)
noncomputable abbrev st_182_1_1 : Stmt := by
  refine (fun (_ : stIn (bodyAt 182) 1 [1] = ?x) => ?x) ?h
  case h => (conv => lhs; whnf)
noncomputable abbrev st_189_1 : Stmt := by
  refine (fun (_ : stIn (bodyAt 189) 1 [] = ?x) => ?x) ?h
  case h => (conv => lhs; whnf)
noncomputable abbrev st_189_2 : Stmt := by
  refine (fun (_ : stIn (bodyAt 189) 2 [] = ?x) => ?x) ?h
  case h => (conv => lhs; whnf)
noncomputable abbrev st_189_3 : Stmt := by
  refine (fun (_ : stIn (bodyAt 189) 3 [] = ?x) => ?x) ?h
  case h => (conv => lhs; whnf)
noncomputable abbrev st_189_4 : Stmt := by
  refine (fun (_ : stIn (bodyAt 189) 4 [] = ?x) => ?x) ?h
  case h => (conv => lhs; whnf)
noncomputable abbrev st_189_5_0 : Stmt := by
  refine (fun (_ : stIn (bodyAt 189) 5 [0] = ?x) => ?x) ?h
  case h => (conv => lhs; whnf)
noncomputable abbrev st_189_5_1 : Stmt := by
  refine (fun (_ : stIn (bodyAt 189) 5 [1] = ?x) => ?x) ?h
  case h => (conv => lhs; whnf)
noncomputable abbrev st_189_5_2 : Stmt := by
  refine (fun (_ : stIn (bodyAt 189) 5 [2] = ?x) => ?x) ?h
  case h => (conv => lhs; whnf)
noncomputable abbrev st_189_5_3 : Stmt := by
  refine (fun (_ : stIn (bodyAt 189) 5 [3] = ?x) => ?x) ?h
  case h => (conv => lhs; whnf)
noncomputable abbrev st_189_5_4 : Stmt := by
  refine (fun (_ : stIn (bodyAt 189) 5 [4] = ?x) => ?x) ?h
  case h => (conv => lhs; whnf)
noncomputable abbrev st_189_5_5 : Stmt := by
  refine (fun (_ : stIn (bodyAt 189) 5 [5] = ?x) => ?x) ?h
  case h => (conv => lhs; whnf)
noncomputable abbrev st_189_5_6 : Stmt := by
  refine (fun (_ : stIn (bodyAt 189) 5 [6] = ?x) => ?x) ?h
  case h => (conv => lhs; whnf)
noncomputable abbrev st_189_5_7 : Stmt := by
  refine (fun (_ : stIn (bodyAt 189) 5 [7] = ?x) => ?x) ?h
  case h => (conv => lhs; whnf)
noncomputable abbrev st_189_5_8 : Stmt := by
  refine (fun (_ : stIn (bodyAt 189) 5 [8] = ?x) => ?x) ?h
  case h => (conv => lhs; whnf)
noncomputable abbrev st_189_5_9 : Stmt := by
  refine (fun (_ : stIn (bodyAt 189) 5 [9] = ?x) => ?x) ?h
  case h => (conv => lhs; whnf)
noncomputable abbrev st_189_5_10 : Stmt := by
  refine (fun (_ : stIn (bodyAt 189) 5 [10] = ?x) => ?x) ?h
  case h => (conv => lhs; whnf)
noncomputable abbrev st_189_5_11 : Stmt := by
  refine (fun (_ : stIn (bodyAt 189) 5 [11] = ?x) => ?x) ?h
  case h => (conv => lhs; whnf)
noncomputable abbrev st_189_5_12 : Stmt := by
  refine (fun (_ : stIn (bodyAt 189) 5 [12] = ?x) => ?x) ?h
  case h => (conv => lhs; whnf)
noncomputable abbrev st_189_5_14 : Stmt := by
  refine (fun (_ : stIn (bodyAt 189) 5 [14] = ?x) => ?x) ?h
  case h => (conv => lhs; whnf)
noncomputable abbrev st_189_5_15 : Stmt := by
  refine (fun (_ : stIn (bodyAt 189) 5 [15] = ?x) => ?x) ?h
  case h => (conv => lhs; whnf)
noncomputable abbrev st_189_5_15_0 : Stmt := by
  refine (fun (_ : stIn (bodyAt 189) 5 [15, 0] = ?x) => ?x) ?h
  case h => (conv => lhs; whnf)
noncomputable abbrev st_189_5_15_1 : Stmt := by
  refine (fun (_ : stIn (bodyAt 189) 5 [15, 1] = ?x) => ?x) ?h
  case h => (conv => lhs; whnf)
noncomputable abbrev st_189_5_15_2 : Stmt := by
  refine (fun (_ : stIn (bodyAt 189) 5 [15, 2] = ?x) => ?x) ?h
  case h => (conv => lhs; whnf)
noncomputable abbrev st_189_5_13 : Stmt := by
  refine (fun (_ : stIn (bodyAt 189) 5 [13] = ?x) => ?x) ?h
  case h => (conv => lhs; whnf)
noncomputable abbrev st_189_5 : Stmt := by
  refine (fun (_ : stIn (bodyAt 189) 5 [] = ?x) => ?x) ?h
  case h => (conv => lhs; whnf)
noncomputable abbrev st_189_6 : Stmt := by
  refine (fun (_ : stIn (bodyAt 189) 6 [] = ?x) => ?x) ?h
  case h => (conv => lhs; whnf)
noncomputable abbrev eltD : PySem.Expr := by
  refine (fun (_ : (compIn (stIn (bodyAt 182) 1 [0])).1 = ?x) => ?x) ?h
  case h => (conv => lhs; whnf)
noncomputable abbrev scopeD : Scope := by
  refine (fun (_ : (compIn (stIn (bodyAt 182) 1 [0])).2 = ?x) => ?x) ?h
  case h => (conv => lhs; whnf)
noncomputable abbrev targetD : PySem.Expr := by
  refine (fun (_ : targetIn (stIn (bodyAt 182) 1 []) = ?x) => ?x) ?h
  case h => (conv => lhs; whnf)
end Mine
end

section
open PySem PySem.W PyProof.Rows
set_option maxRecDepth 100000
namespace Mine
open PySem PySem.W PySem.Calls PyProof.Rows PySem.Spec PyProof.V
local macro_rules | `(tactic| walk_at $s:str) => `(tactic| k_extra $s)
/-! ## lines for the walk -/
local macro_rules | `(tactic| k_room) => `(tactic| k_extra "k_room")
local macro_rules | `(tactic| ktr_room) => `(tactic| k_room)
local macro_rules | `(tactic| cell_enter) => `(tactic| k_extra "cell_enter")


theorem lines_C1 : True := by
  w_top off
  k_with_none
  (k_with "sz" => (first | (first | lia | omega) | (simp only [List.length_append, List.length_cons, List.length_nil, List.length_take, List.length_drop, List.length_map, List.length_set, List.length_replicate, toB_length, cutB_length]; (first | lia | omega))))
  (k_with "dp" => ((try simp only [depth_mark, depth_under_make, depth_under_kw, depth_in1, depth_deeper, depth_caller]); (try dsimp only [ktrTop]); (first | lia | omega)))
  (k_with "k_room" => ((try simp only [depth_mark, depth_under_make, depth_under_kw, depth_in1, depth_deeper, depth_caller]); simp only [recursionLimit]; (first | lia | omega)))
  (k_with "cell_enter" => (refine' enterF ?k1 ?k2 ?k3 ?k4 ?k5 ?kA ?kF ?kK ?k6 ?k7 ?k8 ?k9 ?kB ?_ ?c2 ?c3 ?c4 ?c5; (case kA => exact rfl); (case kF => exact rfl); (case kK => assumption); (case k1 => k_asm); (case k2 => k_asm); (case k3 => k_asm); (case k4 => k_asm); (case k5 => k_asm); (case k6 => k_is); (case k7 => k_is); (case k8 => ktr_room); (case k9 => exact BindsTo.of_eq rfl); (case c5 => decide); (case kB => exact locs rfl); (case c2 => exact rfl); (case c3 => exact rfl); (case c4 => exact rfl); k_whole; intro g' L' h' HG' F' N' B' X' T'; (try dsimp only)))
  (k_with "cell_enterP" => (refine' enterP ?k1 ?k2 ?k3 ?k4 ?k5 ?kA ?kF ?kK ?k6 ?k7 ?k8 ?k9 ?kB ?_ ?c2 ?c3 ?c4 ?c5; (case kA => exact rfl); (case kF => exact rfl); (case kK => assumption); (case k1 => k_asm); (case k2 => k_asm); (case k3 => k_asm); (case k4 => k_asm); (case k5 => k_asm); (case k6 => k_is); (case k7 => k_is); (case k8 => ktr_room); (case k9 => exact BindsTo.of_eq rfl); (case c5 => decide); (case kB => exact locs rfl); (case c2 => exact rfl); (case c3 => exact rfl); (case c4 => exact rfl); k_whole; intro g' L' h' HG' F' N' B' X' T'; (try dsimp only)))
  (k_with "binaryOp Add bytes bytes" => (k_here; (with_reducible show wpAny _ _ (binaryOp Operator.Add (Value.bytes (List.toArray _) _) (Value.bytes (List.toArray _) _)) _ _ _); k_dflt (refine' br_add ?z1 ?z2 ?_; (case z1 => walk_at "sz"); (case z2 => walk_at "sz"); k_whole); intro _ _))
  (k_with "call builtin:len" => (k_here; (with_reducible show wpAny _ _ (call (Value.builtin "len") [Value.bytes (List.toArray _) _]) _ _ _); k_dflt (refine' br_len ?z1 ?_; (case z1 => walk_at "sz"); k_whole); intro _ _))
  (k_with "subscriptTail" => (k_here; (with_reducible show wpAny _ _ (subscriptTail _ _ (Value.bytes (List.toArray _) _) (Value.int _ _)) _ _ _); k_dflt (refine' br_item ?z1 ?z2 ?z3 ?_; (case z1 => walk_at "sz"); (case z2 => walk_at "sz"); (case z3 => walk_at "sz"); k_whole); intro _ _))
  (k_with "subscriptTail" => (k_here; (with_reducible show wpAny _ _ (subscriptTail _ (Expr.Slice (some _) (some _) none _) (Value.bytes (List.toArray _) _) (Value.ref _)) _ _ _); (with_reducible rename Fr _ _ _ _ => F'); (with_reducible rename News _ _ _ _ => N'); k_dflt (refine' br_cut (s := ⟨_, _, _, _, _⟩) F' N' ?z1 ?z2 ?z3 ?_; (case z1 => walk_at "sz"); (case z2 => walk_at "sz"); (case z3 => walk_at "sz"); k_whole); intro h' _ _ F' N'; (try k_sweep)))
  (k_with "subscriptTail" => (k_here; (with_reducible show wpAny _ _ (subscriptTail _ (Expr.Slice (some _) none none _) (Value.bytes (List.toArray _) _) (Value.ref _)) _ _ _); (with_reducible rename Fr _ _ _ _ => F'); (with_reducible rename News _ _ _ _ => N'); k_dflt (refine' br_cutFrom (s := ⟨_, _, _, _, _⟩) F' N' ?z1 ?z2 ?_; (case z1 => walk_at "sz"); (case z2 => walk_at "sz"); k_whole); intro h' _ _ F' N'; (try k_sweep)))
  (k_with "subscriptTail" => (k_here; (with_reducible show wpAny _ _ (subscriptTail _ (Expr.Slice none (some _) none _) (Value.bytes (List.toArray _) _) (Value.ref _)) _ _ _); (with_reducible rename Fr _ _ _ _ => F'); (with_reducible rename News _ _ _ _ => N'); k_dflt (refine' br_cutTo (s := ⟨_, _, _, _, _⟩) F' N' ?z1 ?z2 ?_; (case z1 => walk_at "sz"); (case z2 => walk_at "sz"); k_whole); intro h' _ _ F' N'; (try k_sweep)))
  (k_with "subscriptTail" => (k_here; (with_reducible show wpAny _ _ (subscriptTail _ _ (Value.ref _) (Value.int _ _)) _ _ _); k_dflt (refine' bo_tail ?g ?z1 ?z2 ?z3 ?_; (case g => exact News.get (by k_asm) (by k_mem)); (case z1 => walk_at "sz"); (case z2 => walk_at "sz"); (case z3 => walk_at "sz"); k_whole); intro _ _))
  (k_with "subscriptTail" => (k_here; (with_reducible show wpAny _ _ (subscriptTail _ (Expr.Slice none (some _) none _) (Value.ref _) (Value.ref _)) _ _ _); (with_reducible rename Fr _ _ _ _ => F'); (with_reducible rename News _ _ _ _ => N'); k_dflt (refine' bo_cutTo (s := ⟨_, _, _, _, _⟩) F' N' ?m ?z1 ?z2 ?_; (case m => k_mem); (case z1 => walk_at "sz"); (case z2 => walk_at "sz"); k_whole); intro h' x' F' N' l1; (try k_lt l1); (try k_sweep)))
  (k_with "getItem ref int" => (k_here; k_dflt (refine' bo_getItem ?g ?z1 ?z2 ?z3 ?_; (case g => exact News.get (by k_asm) (by k_mem)); (case z1 => walk_at "sz"); (case z2 => walk_at "sz"); (case z3 => walk_at "sz"); k_whole); intro _ _))
  (k_with "setItem ref int" => (k_here; (with_reducible show wpAny _ _ (setItem (Value.ref _) (Value.int _ _) (Value.int _ _)) _ _ _); k_dflt (refine' bo_setItemK ?F ?N ?U ?z1 ?z2 ?z3 ?z4 ?z5 ?_; (case F => k_asm); (case N => k_asm); (case U => k_upd); (case z1 => walk_at "sz"); (case z2 => walk_at "sz"); (case z3 => walk_at "sz"); (case z4 => first | (with_reducible exact bx150 _ _) | (with_reducible exact bx310 _ _) | (with_reducible exact bxu0 _ _) | walk_at "sz"); (case z5 => first | (with_reducible exact bx151 _ _) | (with_reducible exact bx311 _ _) | (with_reducible exact bxu1 _ _) | walk_at "sz"); k_whole); intro h' F' N'; (try k_sweep)))
  (k_with "compareOp Eq bytes bytes" => (k_here; (with_reducible show wpAny _ _ (compareOp CmpOp.Eq (Value.bytes (List.toArray _) _) (Value.bytes (List.toArray _) _)) _ _ _); k_dflt (refine br_eq ?_)))
  (k_with "compareOp NotEq bytes bytes" => (k_here; (with_reducible show wpAny _ _ (compareOp CmpOp.NotEq (Value.bytes (List.toArray _) _) (Value.bytes (List.toArray _) _)) _ _ _); k_dflt (refine br_ne ?_)))
  (k_with "call builtin:int.to_bytes" => (k_here; (with_reducible show wpAny _ _ (call (Value.builtin "int.to_bytes") [Value.int _ _, Value.int _ _, Value.str _ _]) _ _ _); k_dflt (refine' br_to ?z1 ?z2 ?z3 ?z4 ?_; (case z1 => walk_at "sz"); (case z2 => walk_at "sz"); (case z3 => first | assumption | walk_at "sz" | exact Int.fmod_nonneg_of_pos _ (by decide)); (case z4 => first | assumption | walk_at "sz" | exact Int.lt_of_lt_of_le (Int.fmod_lt_of_pos _ (by decide)) (by decide)); k_whole); intro _ _))
  (k_with "call ref" => (k_here; (with_reducible show wpAny _ _ (call (Value.ref _) [Value.bytes (List.toArray _) _, Value.str _ _]) _ _ _); kfb_any; k_dflt (refine br_from (by k_asm) (by k_mem) ?z1 ?_; (case z1 => walk_at "sz")); intro _ _))
  (k_with "call type:bytes" => (k_here; (with_reducible show wpAny _ _ (call (Value.type "bytes") [Value.ref _]) _ _ _); k_dflt (refine' bo_bytes ?g ?z1 ?_; (case g => exact News.get (by k_asm) (by k_mem)); (case z1 => walk_at "sz"); k_whole); intro _ _))
  (k_with "pyIter bytes" => (k_here; (with_reducible show wpAny _ _ (pyIter (Value.bytes (List.toArray _) _)) (CompPost _ _ _ _ _ _ _ _ _) _ _); k_dflt (refine' comp_row ?hh ?F ?N ?hk ?hl ?hd ?hz ?_; (case hh => exact rfl); (case F => k_asm); (case N => k_asm); (case hk => exact rfl); (case hl => intro _; exact rfl); (case hd => decide); (case hz => walk_at "sz"); k_whole); intro D' ys' h' tk' F' N' lI' iI'; (try k_sweep)))
  (k_with "call type:bytes" => (k_here; (with_reducible show wpAny _ _ (call (Value.type "bytes") [Value.ref _]) _ _ _); (with_reducible rename IntsAre _ (rowOf _) => rI); k_dflt (refine' row_bytes ?F ?N ?hh ?hl rI ?hz ?_; (case F => k_asm); (case N => k_asm); (case hh => exact rfl); (case hl => assumption); (case hz => walk_at "sz"); k_whole); intro h' _ _ F' N'; (try k_sweep)))
  first | walk1 | trivial
section
/-! ## the law's own readers -/
set_option maxHeartbeats 4000000 in
theorem take_spec {prog p : Program} {w : World} {loose : List Str} {mean : ExcName → Option Value} {mg mb : Str → Option Value} {A₀ : Around} {base h₀ : Heap} {outer : List Env} {dp un : Nat} {gd : Option (List Code)} {cn : Str} {cs : Scope} {L ea : Addr} {ccd : Value} {cl : List (Str × Addr)}
    {m : Str → Option Value} {s : Shared} {a c : Addr} {k most : Int} {tk tm : Tok} {n : Nat} {vs : List Value} {ns : List Int} {Q E : Value → Shared → Prop}
    (B : Below A₀ base outer h₀) (F : Fr h₀ L s.heap m) (X : (hd.heap_39 w.params).In h₀) (N : News h₀ L s.heap [(a, PySem.W.listOf [.int k tk, .ref c].toArray n)]) (T : Top p loose mean mg mb h₀)
    (hkd : cs.kind = .function) (hdp : dp ≤ 400)
    (hc : s.heap.IsList c vs.toArray) (hca : c ≠ a) (hi : IntsAre vs ns) (hl0 : 0 < vs.length) (hl1 : vs.length ≤ 63) (hk0 : 0 ≤ k) (hk1 : k < 1000) (hmost : 0 < most)
    (ret : ∀ v t t' h' tk', 0 ≤ v → v < most → Kept [a] s.heap h' → h'.get? a = some (PySem.W.listOf [.int (k + 1) t', .ref c].toArray n) → Q (.int v t) { s with heap := h', toks := tk' }) :
    wpAny (model prog w) (ktrTop dp un gd cn cs L ea ccd cl outer) (call (.ref 125) [.ref a, .int most tm]) Q E s := by
  refine wpAny_call ?_
  k_dflt cell_enter
  rename Kept _ _ _ => HG'
  have hcg := Kept.isList HG' (by simpa using hca) hc
  have hlen : ns.length = vs.length := hi.length.symm
  k_steps
  all_goals (refine ret _ _ _ _ _ ?_ ?_ ?_ (News.get (by assumption) (List.Mem.head _)); (first | exact Int.fmod_nonneg_of_pos _ hmost | exact Int.fmod_lt_of_pos _ hmost | assumption); (first | exact Int.fmod_nonneg_of_pos _ hmost | exact Int.fmod_lt_of_pos _ hmost | assumption); assumption)
end

theorem lines_C2 : True := by
  w_top off
  k_with_none
  (k_with "sz" => (first | (first | lia | omega) | (simp only [List.length_append, List.length_cons, List.length_nil, List.length_take, List.length_drop, List.length_map, List.length_set, List.length_replicate, toB_length, cutB_length]; (first | lia | omega))))
  (k_with "dp" => ((try simp only [depth_mark, depth_under_make, depth_under_kw, depth_in1, depth_deeper, depth_caller]); (try dsimp only [ktrTop]); (first | lia | omega)))
  (k_with "k_room" => ((try simp only [depth_mark, depth_under_make, depth_under_kw, depth_in1, depth_deeper, depth_caller]); simp only [recursionLimit]; (first | lia | omega)))
  (k_with "cell_enter" => (refine' enterF ?k1 ?k2 ?k3 ?k4 ?k5 ?kA ?kF ?kK ?k6 ?k7 ?k8 ?k9 ?kB ?_ ?c2 ?c3 ?c4 ?c5; (case kA => exact rfl); (case kF => exact rfl); (case kK => assumption); (case k1 => k_asm); (case k2 => k_asm); (case k3 => k_asm); (case k4 => k_asm); (case k5 => k_asm); (case k6 => k_is); (case k7 => k_is); (case k8 => ktr_room); (case k9 => exact BindsTo.of_eq rfl); (case c5 => decide); (case kB => exact locs rfl); (case c2 => exact rfl); (case c3 => exact rfl); (case c4 => exact rfl); k_whole; intro g' L' h' HG' F' N' B' X' T'; (try dsimp only)))
  (k_with "cell_enterP" => (refine' enterP ?k1 ?k2 ?k3 ?k4 ?k5 ?kA ?kF ?kK ?k6 ?k7 ?k8 ?k9 ?kB ?_ ?c2 ?c3 ?c4 ?c5; (case kA => exact rfl); (case kF => exact rfl); (case kK => assumption); (case k1 => k_asm); (case k2 => k_asm); (case k3 => k_asm); (case k4 => k_asm); (case k5 => k_asm); (case k6 => k_is); (case k7 => k_is); (case k8 => ktr_room); (case k9 => exact BindsTo.of_eq rfl); (case c5 => decide); (case kB => exact locs rfl); (case c2 => exact rfl); (case c3 => exact rfl); (case c4 => exact rfl); k_whole; intro g' L' h' HG' F' N' B' X' T'; (try dsimp only)))
  (k_with "binaryOp Add bytes bytes" => (k_here; (with_reducible show wpAny _ _ (binaryOp Operator.Add (Value.bytes (List.toArray _) _) (Value.bytes (List.toArray _) _)) _ _ _); k_dflt (refine' br_add ?z1 ?z2 ?_; (case z1 => walk_at "sz"); (case z2 => walk_at "sz"); k_whole); intro _ _))
  (k_with "call builtin:len" => (k_here; (with_reducible show wpAny _ _ (call (Value.builtin "len") [Value.bytes (List.toArray _) _]) _ _ _); k_dflt (refine' br_len ?z1 ?_; (case z1 => walk_at "sz"); k_whole); intro _ _))
  (k_with "subscriptTail" => (k_here; (with_reducible show wpAny _ _ (subscriptTail _ _ (Value.bytes (List.toArray _) _) (Value.int _ _)) _ _ _); k_dflt (refine' br_item ?z1 ?z2 ?z3 ?_; (case z1 => walk_at "sz"); (case z2 => walk_at "sz"); (case z3 => walk_at "sz"); k_whole); intro _ _))
  (k_with "subscriptTail" => (k_here; (with_reducible show wpAny _ _ (subscriptTail _ (Expr.Slice (some _) (some _) none _) (Value.bytes (List.toArray _) _) (Value.ref _)) _ _ _); (with_reducible rename Fr _ _ _ _ => F'); (with_reducible rename News _ _ _ _ => N'); k_dflt (refine' br_cut (s := ⟨_, _, _, _, _⟩) F' N' ?z1 ?z2 ?z3 ?_; (case z1 => walk_at "sz"); (case z2 => walk_at "sz"); (case z3 => walk_at "sz"); k_whole); intro h' _ _ F' N'; (try k_sweep)))
  (k_with "subscriptTail" => (k_here; (with_reducible show wpAny _ _ (subscriptTail _ (Expr.Slice (some _) none none _) (Value.bytes (List.toArray _) _) (Value.ref _)) _ _ _); (with_reducible rename Fr _ _ _ _ => F'); (with_reducible rename News _ _ _ _ => N'); k_dflt (refine' br_cutFrom (s := ⟨_, _, _, _, _⟩) F' N' ?z1 ?z2 ?_; (case z1 => walk_at "sz"); (case z2 => walk_at "sz"); k_whole); intro h' _ _ F' N'; (try k_sweep)))
  (k_with "subscriptTail" => (k_here; (with_reducible show wpAny _ _ (subscriptTail _ (Expr.Slice none (some _) none _) (Value.bytes (List.toArray _) _) (Value.ref _)) _ _ _); (with_reducible rename Fr _ _ _ _ => F'); (with_reducible rename News _ _ _ _ => N'); k_dflt (refine' br_cutTo (s := ⟨_, _, _, _, _⟩) F' N' ?z1 ?z2 ?_; (case z1 => walk_at "sz"); (case z2 => walk_at "sz"); k_whole); intro h' _ _ F' N'; (try k_sweep)))
  (k_with "subscriptTail" => (k_here; (with_reducible show wpAny _ _ (subscriptTail _ _ (Value.ref _) (Value.int _ _)) _ _ _); k_dflt (refine' bo_tail ?g ?z1 ?z2 ?z3 ?_; (case g => exact News.get (by k_asm) (by k_mem)); (case z1 => walk_at "sz"); (case z2 => walk_at "sz"); (case z3 => walk_at "sz"); k_whole); intro _ _))
  (k_with "subscriptTail" => (k_here; (with_reducible show wpAny _ _ (subscriptTail _ (Expr.Slice none (some _) none _) (Value.ref _) (Value.ref _)) _ _ _); (with_reducible rename Fr _ _ _ _ => F'); (with_reducible rename News _ _ _ _ => N'); k_dflt (refine' bo_cutTo (s := ⟨_, _, _, _, _⟩) F' N' ?m ?z1 ?z2 ?_; (case m => k_mem); (case z1 => walk_at "sz"); (case z2 => walk_at "sz"); k_whole); intro h' x' F' N' l1; (try k_lt l1); (try k_sweep)))
  (k_with "getItem ref int" => (k_here; k_dflt (refine' bo_getItem ?g ?z1 ?z2 ?z3 ?_; (case g => exact News.get (by k_asm) (by k_mem)); (case z1 => walk_at "sz"); (case z2 => walk_at "sz"); (case z3 => walk_at "sz"); k_whole); intro _ _))
  (k_with "setItem ref int" => (k_here; (with_reducible show wpAny _ _ (setItem (Value.ref _) (Value.int _ _) (Value.int _ _)) _ _ _); k_dflt (refine' bo_setItemK ?F ?N ?U ?z1 ?z2 ?z3 ?z4 ?z5 ?_; (case F => k_asm); (case N => k_asm); (case U => k_upd); (case z1 => walk_at "sz"); (case z2 => walk_at "sz"); (case z3 => walk_at "sz"); (case z4 => first | (with_reducible exact bx150 _ _) | (with_reducible exact bx310 _ _) | (with_reducible exact bxu0 _ _) | walk_at "sz"); (case z5 => first | (with_reducible exact bx151 _ _) | (with_reducible exact bx311 _ _) | (with_reducible exact bxu1 _ _) | walk_at "sz"); k_whole); intro h' F' N'; (try k_sweep)))
  (k_with "compareOp Eq bytes bytes" => (k_here; (with_reducible show wpAny _ _ (compareOp CmpOp.Eq (Value.bytes (List.toArray _) _) (Value.bytes (List.toArray _) _)) _ _ _); k_dflt (refine br_eq ?_)))
  (k_with "compareOp NotEq bytes bytes" => (k_here; (with_reducible show wpAny _ _ (compareOp CmpOp.NotEq (Value.bytes (List.toArray _) _) (Value.bytes (List.toArray _) _)) _ _ _); k_dflt (refine br_ne ?_)))
  (k_with "call builtin:int.to_bytes" => (k_here; (with_reducible show wpAny _ _ (call (Value.builtin "int.to_bytes") [Value.int _ _, Value.int _ _, Value.str _ _]) _ _ _); k_dflt (refine' br_to ?z1 ?z2 ?z3 ?z4 ?_; (case z1 => walk_at "sz"); (case z2 => walk_at "sz"); (case z3 => first | assumption | walk_at "sz" | exact Int.fmod_nonneg_of_pos _ (by decide)); (case z4 => first | assumption | walk_at "sz" | exact Int.lt_of_lt_of_le (Int.fmod_lt_of_pos _ (by decide)) (by decide)); k_whole); intro _ _))
  (k_with "call ref" => (k_here; (with_reducible show wpAny _ _ (call (Value.ref _) [Value.bytes (List.toArray _) _, Value.str _ _]) _ _ _); kfb_any; k_dflt (refine br_from (by k_asm) (by k_mem) ?z1 ?_; (case z1 => walk_at "sz")); intro _ _))
  (k_with "call type:bytes" => (k_here; (with_reducible show wpAny _ _ (call (Value.type "bytes") [Value.ref _]) _ _ _); k_dflt (refine' bo_bytes ?g ?z1 ?_; (case g => exact News.get (by k_asm) (by k_mem)); (case z1 => walk_at "sz"); k_whole); intro _ _))
  (k_with "pyIter bytes" => (k_here; (with_reducible show wpAny _ _ (pyIter (Value.bytes (List.toArray _) _)) (CompPost _ _ _ _ _ _ _ _ _) _ _); k_dflt (refine' comp_row ?hh ?F ?N ?hk ?hl ?hd ?hz ?_; (case hh => exact rfl); (case F => k_asm); (case N => k_asm); (case hk => exact rfl); (case hl => intro _; exact rfl); (case hd => decide); (case hz => walk_at "sz"); k_whole); intro D' ys' h' tk' F' N' lI' iI'; (try k_sweep)))
  (k_with "call type:bytes" => (k_here; (with_reducible show wpAny _ _ (call (Value.type "bytes") [Value.ref _]) _ _ _); (with_reducible rename IntsAre _ (rowOf _) => rI); k_dflt (refine' row_bytes ?F ?N ?hh ?hl rI ?hz ?_; (case F => k_asm); (case N => k_asm); (case hh => exact rfl); (case hl => assumption); (case hz => walk_at "sz"); k_whole); intro h' _ _ F' N'; (try k_sweep)))
  (k_with "call ref" => (k_here; (with_reducible show wpAny _ _ (call (Value.ref 125) [Value.ref _, Value.int _ _]) _ _ _); k_dflt (refine' take_spec ?B ?F ?X ?N ?T ?kd ?dp ?hc ?ne ?hi ?l0 ?l1 ?k0 ?k1 ?most ?_; (case F => k_asm); (case B => k_asm); (case X => k_asm); (case T => k_asm); (case N => exact news_one (by k_asm) (by k_mem)); (case kd => first | exact rfl | assumption); (case dp => walk_at "dp"); (case hc => is_list); (case ne => first | assumption | (first | lia | omega)); (case hi => l_ints); (case l0 => (first | lia | omega)); (case l1 => (first | lia | omega)); (case k0 => (first | lia | omega)); (case k1 => (first | lia | omega)); (case most => first | (first | lia | omega) | decide | exact Int.pow_pos (by decide)); k_whole); intro _ _ _ _ _ _ _ tkK tkG; k_dflt (refine' kept_step tkK tkG ?F ?N ?U ?_; (case F => k_asm); (case N => k_asm); (case U => k_upd)); clear tkK tkG; intro F' N'; (try k_sweep)))
  first | walk1 | trivial
section
set_option maxHeartbeats 4000000 in
theorem octets_spec {prog p : Program} {w : World} {loose : List Str} {mean : ExcName → Option Value} {mg mb : Str → Option Value} {A₀ : Around} {base h₀ : Heap} {outer : List Env} {dp un : Nat} {gd : Option (List Code)} {cn : Str} {cs : Scope} {L ea : Addr} {ccd : Value} {cl : List (Str × Addr)}
    {m : Str → Option Value} {s : Shared} {a c : Addr} {k size : Int} {tk tm : Tok} {n : Nat} {vs : List Value} {ns : List Int} {Q E : Value → Shared → Prop}
    (B : Below A₀ base outer h₀) (F : Fr h₀ L s.heap m) (X : (hd.heap_39 w.params).In h₀) (N : News h₀ L s.heap [(a, PySem.W.listOf [.int k tk, .ref c].toArray n)]) (T : Top p loose mean mg mb h₀)
    (hkd : cs.kind = .function) (hdp : dp ≤ 390)
    (hc : s.heap.IsList c vs.toArray) (hca : c ≠ a) (hi : IntsAre vs ns) (hl0 : 0 < vs.length) (hl1 : vs.length ≤ 63) (hk0 : 0 ≤ k) (hk1 : k < 999) (hs0 : 0 ≤ size) (hs1 : size ≤ 100)
    (ret : ∀ (xs : List UInt8) k' t t' h' tk', (xs.length : Int) = size → k ≤ k' → k' ≤ k + 1 → Kept [a] s.heap h' → h'.get? a = some (PySem.W.listOf [.int k' t', .ref c].toArray n) → Q (.bytes xs.toArray t) { s with heap := h', toks := tk' }) :
    wpAny (model prog w) (ktrTop dp un gd cn cs L ea ccd cl outer) (call (.ref 139) [.ref a, .int size tm]) Q E s := by
  refine wpAny_call ?_
  k_dflt cell_enter
  rename Kept _ _ _ => HG'
  have hcg := Kept.isList HG' (by simpa using hca) hc
  have hlen : ns.length = vs.length := hi.length.symm
  k_steps
  · exact ret _ (k + 1) _ _ _ _ (by rw [toB_length]; (first | lia | omega)) (by (first | lia | omega)) (by (first | lia | omega)) (by assumption) (News.get (by assumption) (List.Mem.head _))
  · refine ret [] k _ _ _ _ ?_ (by (first | lia | omega)) (by (first | lia | omega)) (by assumption) (News.get (by assumption) (List.Mem.head _))
    simp at *
    (first | lia | omega)
end

theorem lines_C3 : True := by
  w_top off
  k_with_none
  (k_with "sz" => (first | (first | lia | omega) | (simp only [List.length_append, List.length_cons, List.length_nil, List.length_take, List.length_drop, List.length_map, List.length_set, List.length_replicate, toB_length, cutB_length]; (first | lia | omega))))
  (k_with "dp" => ((try simp only [depth_mark, depth_under_make, depth_under_kw, depth_in1, depth_deeper, depth_caller]); (try dsimp only [ktrTop]); (first | lia | omega)))
  (k_with "k_room" => ((try simp only [depth_mark, depth_under_make, depth_under_kw, depth_in1, depth_deeper, depth_caller]); simp only [recursionLimit]; (first | lia | omega)))
  (k_with "cell_enter" => (refine' enterF ?k1 ?k2 ?k3 ?k4 ?k5 ?kA ?kF ?kK ?k6 ?k7 ?k8 ?k9 ?kB ?_ ?c2 ?c3 ?c4 ?c5; (case kA => exact rfl); (case kF => exact rfl); (case kK => assumption); (case k1 => k_asm); (case k2 => k_asm); (case k3 => k_asm); (case k4 => k_asm); (case k5 => k_asm); (case k6 => k_is); (case k7 => k_is); (case k8 => ktr_room); (case k9 => exact BindsTo.of_eq rfl); (case c5 => decide); (case kB => exact locs rfl); (case c2 => exact rfl); (case c3 => exact rfl); (case c4 => exact rfl); k_whole; intro g' L' h' HG' F' N' B' X' T'; (try dsimp only)))
  (k_with "cell_enterP" => (refine' enterP ?k1 ?k2 ?k3 ?k4 ?k5 ?kA ?kF ?kK ?k6 ?k7 ?k8 ?k9 ?kB ?_ ?c2 ?c3 ?c4 ?c5; (case kA => exact rfl); (case kF => exact rfl); (case kK => assumption); (case k1 => k_asm); (case k2 => k_asm); (case k3 => k_asm); (case k4 => k_asm); (case k5 => k_asm); (case k6 => k_is); (case k7 => k_is); (case k8 => ktr_room); (case k9 => exact BindsTo.of_eq rfl); (case c5 => decide); (case kB => exact locs rfl); (case c2 => exact rfl); (case c3 => exact rfl); (case c4 => exact rfl); k_whole; intro g' L' h' HG' F' N' B' X' T'; (try dsimp only)))
  (k_with "binaryOp Add bytes bytes" => (k_here; (with_reducible show wpAny _ _ (binaryOp Operator.Add (Value.bytes (List.toArray _) _) (Value.bytes (List.toArray _) _)) _ _ _); k_dflt (refine' br_add ?z1 ?z2 ?_; (case z1 => walk_at "sz"); (case z2 => walk_at "sz"); k_whole); intro _ _))
  (k_with "call builtin:len" => (k_here; (with_reducible show wpAny _ _ (call (Value.builtin "len") [Value.bytes (List.toArray _) _]) _ _ _); k_dflt (refine' br_len ?z1 ?_; (case z1 => walk_at "sz"); k_whole); intro _ _))
  (k_with "subscriptTail" => (k_here; (with_reducible show wpAny _ _ (subscriptTail _ _ (Value.bytes (List.toArray _) _) (Value.int _ _)) _ _ _); k_dflt (refine' br_item ?z1 ?z2 ?z3 ?_; (case z1 => walk_at "sz"); (case z2 => walk_at "sz"); (case z3 => walk_at "sz"); k_whole); intro _ _))
  (k_with "subscriptTail" => (k_here; (with_reducible show wpAny _ _ (subscriptTail _ (Expr.Slice (some _) (some _) none _) (Value.bytes (List.toArray _) _) (Value.ref _)) _ _ _); (with_reducible rename Fr _ _ _ _ => F'); (with_reducible rename News _ _ _ _ => N'); k_dflt (refine' br_cut (s := ⟨_, _, _, _, _⟩) F' N' ?z1 ?z2 ?z3 ?_; (case z1 => walk_at "sz"); (case z2 => walk_at "sz"); (case z3 => walk_at "sz"); k_whole); intro h' _ _ F' N'; (try k_sweep)))
  (k_with "subscriptTail" => (k_here; (with_reducible show wpAny _ _ (subscriptTail _ (Expr.Slice (some _) none none _) (Value.bytes (List.toArray _) _) (Value.ref _)) _ _ _); (with_reducible rename Fr _ _ _ _ => F'); (with_reducible rename News _ _ _ _ => N'); k_dflt (refine' br_cutFrom (s := ⟨_, _, _, _, _⟩) F' N' ?z1 ?z2 ?_; (case z1 => walk_at "sz"); (case z2 => walk_at "sz"); k_whole); intro h' _ _ F' N'; (try k_sweep)))
  (k_with "subscriptTail" => (k_here; (with_reducible show wpAny _ _ (subscriptTail _ (Expr.Slice none (some _) none _) (Value.bytes (List.toArray _) _) (Value.ref _)) _ _ _); (with_reducible rename Fr _ _ _ _ => F'); (with_reducible rename News _ _ _ _ => N'); k_dflt (refine' br_cutTo (s := ⟨_, _, _, _, _⟩) F' N' ?z1 ?z2 ?_; (case z1 => walk_at "sz"); (case z2 => walk_at "sz"); k_whole); intro h' _ _ F' N'; (try k_sweep)))
  (k_with "subscriptTail" => (k_here; (with_reducible show wpAny _ _ (subscriptTail _ _ (Value.ref _) (Value.int _ _)) _ _ _); k_dflt (refine' bo_tail ?g ?z1 ?z2 ?z3 ?_; (case g => exact News.get (by k_asm) (by k_mem)); (case z1 => walk_at "sz"); (case z2 => walk_at "sz"); (case z3 => walk_at "sz"); k_whole); intro _ _))
  (k_with "subscriptTail" => (k_here; (with_reducible show wpAny _ _ (subscriptTail _ (Expr.Slice none (some _) none _) (Value.ref _) (Value.ref _)) _ _ _); (with_reducible rename Fr _ _ _ _ => F'); (with_reducible rename News _ _ _ _ => N'); k_dflt (refine' bo_cutTo (s := ⟨_, _, _, _, _⟩) F' N' ?m ?z1 ?z2 ?_; (case m => k_mem); (case z1 => walk_at "sz"); (case z2 => walk_at "sz"); k_whole); intro h' x' F' N' l1; (try k_lt l1); (try k_sweep)))
  (k_with "getItem ref int" => (k_here; k_dflt (refine' bo_getItem ?g ?z1 ?z2 ?z3 ?_; (case g => exact News.get (by k_asm) (by k_mem)); (case z1 => walk_at "sz"); (case z2 => walk_at "sz"); (case z3 => walk_at "sz"); k_whole); intro _ _))
  (k_with "setItem ref int" => (k_here; (with_reducible show wpAny _ _ (setItem (Value.ref _) (Value.int _ _) (Value.int _ _)) _ _ _); k_dflt (refine' bo_setItemK ?F ?N ?U ?z1 ?z2 ?z3 ?z4 ?z5 ?_; (case F => k_asm); (case N => k_asm); (case U => k_upd); (case z1 => walk_at "sz"); (case z2 => walk_at "sz"); (case z3 => walk_at "sz"); (case z4 => first | (with_reducible exact bx150 _ _) | (with_reducible exact bx310 _ _) | (with_reducible exact bxu0 _ _) | walk_at "sz"); (case z5 => first | (with_reducible exact bx151 _ _) | (with_reducible exact bx311 _ _) | (with_reducible exact bxu1 _ _) | walk_at "sz"); k_whole); intro h' F' N'; (try k_sweep)))
  (k_with "compareOp Eq bytes bytes" => (k_here; (with_reducible show wpAny _ _ (compareOp CmpOp.Eq (Value.bytes (List.toArray _) _) (Value.bytes (List.toArray _) _)) _ _ _); k_dflt (refine br_eq ?_)))
  (k_with "compareOp NotEq bytes bytes" => (k_here; (with_reducible show wpAny _ _ (compareOp CmpOp.NotEq (Value.bytes (List.toArray _) _) (Value.bytes (List.toArray _) _)) _ _ _); k_dflt (refine br_ne ?_)))
  (k_with "call builtin:int.to_bytes" => (k_here; (with_reducible show wpAny _ _ (call (Value.builtin "int.to_bytes") [Value.int _ _, Value.int _ _, Value.str _ _]) _ _ _); k_dflt (refine' br_to ?z1 ?z2 ?z3 ?z4 ?_; (case z1 => walk_at "sz"); (case z2 => walk_at "sz"); (case z3 => first | assumption | walk_at "sz" | exact Int.fmod_nonneg_of_pos _ (by decide)); (case z4 => first | assumption | walk_at "sz" | exact Int.lt_of_lt_of_le (Int.fmod_lt_of_pos _ (by decide)) (by decide)); k_whole); intro _ _))
  (k_with "call ref" => (k_here; (with_reducible show wpAny _ _ (call (Value.ref _) [Value.bytes (List.toArray _) _, Value.str _ _]) _ _ _); kfb_any; k_dflt (refine br_from (by k_asm) (by k_mem) ?z1 ?_; (case z1 => walk_at "sz")); intro _ _))
  (k_with "call type:bytes" => (k_here; (with_reducible show wpAny _ _ (call (Value.type "bytes") [Value.ref _]) _ _ _); k_dflt (refine' bo_bytes ?g ?z1 ?_; (case g => exact News.get (by k_asm) (by k_mem)); (case z1 => walk_at "sz"); k_whole); intro _ _))
  (k_with "pyIter bytes" => (k_here; (with_reducible show wpAny _ _ (pyIter (Value.bytes (List.toArray _) _)) (CompPost _ _ _ _ _ _ _ _ _) _ _); k_dflt (refine' comp_row ?hh ?F ?N ?hk ?hl ?hd ?hz ?_; (case hh => exact rfl); (case F => k_asm); (case N => k_asm); (case hk => exact rfl); (case hl => intro _; exact rfl); (case hd => decide); (case hz => walk_at "sz"); k_whole); intro D' ys' h' tk' F' N' lI' iI'; (try k_sweep)))
  (k_with "call type:bytes" => (k_here; (with_reducible show wpAny _ _ (call (Value.type "bytes") [Value.ref _]) _ _ _); (with_reducible rename IntsAre _ (rowOf _) => rI); k_dflt (refine' row_bytes ?F ?N ?hh ?hl rI ?hz ?_; (case F => k_asm); (case N => k_asm); (case hh => exact rfl); (case hl => assumption); (case hz => walk_at "sz"); k_whole); intro h' _ _ F' N'; (try k_sweep)))
  first | walk1 | trivial
section
/-! ## the masks: what they are is said, not asked -/
def row5 (xs : List UInt8) : List UInt8 := toB (Int.toNat 5) (Int.fmod ((valB xs : Int) * 3) 1099511627689).toNat
def row16 (xs : List UInt8) : List UInt8 := toB (Int.toNat 16) (Int.fmod ((valB xs : Int) * 11400714819323198485) (2 ^ Int.toNat 127 - 1)).toNat
def maskB (xs : List UInt8) : List UInt8 := (rowOf xs).map fun n => n.toNat.toUInt8
theorem maskB_length (xs : List UInt8) : (maskB xs).length = xs.length := by unfold maskB; rw [List.length_map, rowOf_length]
def mask5 (xs ys zs : List UInt8) : List UInt8 := maskB (row5 (xs ++ ys ++ zs))
def mask16 (xs ys zs : List UInt8) : List UInt8 := maskB (row16 (xs ++ ys ++ zs))
theorem mask5_length (xs ys zs : List UInt8) : (mask5 xs ys zs).length = 5 := by unfold mask5 row5; rw [maskB_length, toB_length]; rfl
theorem mask16_length (xs ys zs : List UInt8) : (mask16 xs ys zs).length = 16 := by unfold mask16 row16; rw [maskB_length, toB_length]; rfl
set_option maxHeartbeats 4000000 in
theorem mask5_spec {prog p : Program} {w : World} {loose : List Str} {mean : ExcName → Option Value} {mg mb : Str → Option Value} {A₀ : Around} {base h₀ : Heap} {outer : List Env} {dp un : Nat} {gd : Option (List Code)} {cn : Str} {cs : Scope} {L ea : Addr} {ccd : Value} {cl : List (Str × Addr)}
    {m : Str → Option Value} {s : Shared} {Q E : Value → Shared → Prop} {xs ys zs : List UInt8} {tx ty tz : Tok}
    (B : Below A₀ base outer h₀) (F : Fr h₀ L s.heap m) (X : (hd.heap_39 w.params).In h₀) (N : News h₀ L s.heap []) (T : Top p loose mean mg mb h₀)
    (hkd : cs.kind = .function) (hdp : dp ≤ 390)
    (hx : xs.length ≤ 100) (hy : ys.length ≤ 100) (hz : zs.length ≤ 100)
    (ret : ∀ t h' tk', Kept [] s.heap h' → Q (.bytes (mask5 xs ys zs).toArray t) { s with heap := h', toks := tk' }) :
    wpAny (model prog w) (ktrTop dp un gd cn cs L ea ccd cl outer) (call (.ref 144) [.bytes xs.toArray tx, .bytes ys.toArray ty, .bytes zs.toArray tz]) Q E s := by
  refine wpAny_call ?_
  k_dflt cell_enter
  k_steps
  exact ret _ _ _ (by assumption)
set_option maxHeartbeats 4000000 in
theorem mask16_spec {prog p : Program} {w : World} {loose : List Str} {mean : ExcName → Option Value} {mg mb : Str → Option Value} {A₀ : Around} {base h₀ : Heap} {outer : List Env} {dp un : Nat} {gd : Option (List Code)} {cn : Str} {cs : Scope} {L ea : Addr} {ccd : Value} {cl : List (Str × Addr)}
    {m : Str → Option Value} {s : Shared} {Q E : Value → Shared → Prop} {xs ys zs : List UInt8} {tx ty tz : Tok}
    (B : Below A₀ base outer h₀) (F : Fr h₀ L s.heap m) (X : (hd.heap_39 w.params).In h₀) (N : News h₀ L s.heap []) (T : Top p loose mean mg mb h₀)
    (hkd : cs.kind = .function) (hdp : dp ≤ 390)
    (hx : xs.length ≤ 100) (hy : ys.length ≤ 100) (hz : zs.length ≤ 100)
    (ret : ∀ t h' tk', Kept [] s.heap h' → Q (.bytes (mask16 xs ys zs).toArray t) { s with heap := h', toks := tk' }) :
    wpAny (model prog w) (ktrTop dp un gd cn cs L ea ccd cl outer) (call (.ref 149) [.bytes xs.toArray tx, .bytes ys.toArray ty, .bytes zs.toArray tz]) Q E s := by
  refine wpAny_call ?_
  k_dflt cell_enter
  k_steps
  exact ret _ _ _ (by assumption)
end

theorem lines_C4 : True := by
  w_top off
  k_with_none
  (k_with "sz" => (first | (first | lia | omega) | (simp only [List.length_append, List.length_cons, List.length_nil, List.length_take, List.length_drop, List.length_map, List.length_set, List.length_replicate, toB_length, cutB_length]; (first | lia | omega))))
  (k_with "dp" => ((try simp only [depth_mark, depth_under_make, depth_under_kw, depth_in1, depth_deeper, depth_caller]); (try dsimp only [ktrTop]); (first | lia | omega)))
  (k_with "k_room" => ((try simp only [depth_mark, depth_under_make, depth_under_kw, depth_in1, depth_deeper, depth_caller]); simp only [recursionLimit]; (first | lia | omega)))
  (k_with "cell_enter" => (refine' enterF ?k1 ?k2 ?k3 ?k4 ?k5 ?kA ?kF ?kK ?k6 ?k7 ?k8 ?k9 ?kB ?_ ?c2 ?c3 ?c4 ?c5; (case kA => exact rfl); (case kF => exact rfl); (case kK => assumption); (case k1 => k_asm); (case k2 => k_asm); (case k3 => k_asm); (case k4 => k_asm); (case k5 => k_asm); (case k6 => k_is); (case k7 => k_is); (case k8 => ktr_room); (case k9 => exact BindsTo.of_eq rfl); (case c5 => decide); (case kB => exact locs rfl); (case c2 => exact rfl); (case c3 => exact rfl); (case c4 => exact rfl); k_whole; intro g' L' h' HG' F' N' B' X' T'; (try dsimp only)))
  (k_with "cell_enterP" => (refine' enterP ?k1 ?k2 ?k3 ?k4 ?k5 ?kA ?kF ?kK ?k6 ?k7 ?k8 ?k9 ?kB ?_ ?c2 ?c3 ?c4 ?c5; (case kA => exact rfl); (case kF => exact rfl); (case kK => assumption); (case k1 => k_asm); (case k2 => k_asm); (case k3 => k_asm); (case k4 => k_asm); (case k5 => k_asm); (case k6 => k_is); (case k7 => k_is); (case k8 => ktr_room); (case k9 => exact BindsTo.of_eq rfl); (case c5 => decide); (case kB => exact locs rfl); (case c2 => exact rfl); (case c3 => exact rfl); (case c4 => exact rfl); k_whole; intro g' L' h' HG' F' N' B' X' T'; (try dsimp only)))
  (k_with "binaryOp Add bytes bytes" => (k_here; (with_reducible show wpAny _ _ (binaryOp Operator.Add (Value.bytes (List.toArray _) _) (Value.bytes (List.toArray _) _)) _ _ _); k_dflt (refine' br_add ?z1 ?z2 ?_; (case z1 => walk_at "sz"); (case z2 => walk_at "sz"); k_whole); intro _ _))
  (k_with "call builtin:len" => (k_here; (with_reducible show wpAny _ _ (call (Value.builtin "len") [Value.bytes (List.toArray _) _]) _ _ _); k_dflt (refine' br_len ?z1 ?_; (case z1 => walk_at "sz"); k_whole); intro _ _))
  (k_with "subscriptTail" => (k_here; (with_reducible show wpAny _ _ (subscriptTail _ _ (Value.bytes (List.toArray _) _) (Value.int _ _)) _ _ _); k_dflt (refine' br_item ?z1 ?z2 ?z3 ?_; (case z1 => walk_at "sz"); (case z2 => walk_at "sz"); (case z3 => walk_at "sz"); k_whole); intro _ _))
  (k_with "subscriptTail" => (k_here; (with_reducible show wpAny _ _ (subscriptTail _ (Expr.Slice (some _) (some _) none _) (Value.bytes (List.toArray _) _) (Value.ref _)) _ _ _); (with_reducible rename Fr _ _ _ _ => F'); (with_reducible rename News _ _ _ _ => N'); k_dflt (refine' br_cut (s := ⟨_, _, _, _, _⟩) F' N' ?z1 ?z2 ?z3 ?_; (case z1 => walk_at "sz"); (case z2 => walk_at "sz"); (case z3 => walk_at "sz"); k_whole); intro h' _ _ F' N'; (try k_sweep)))
  (k_with "subscriptTail" => (k_here; (with_reducible show wpAny _ _ (subscriptTail _ (Expr.Slice (some _) none none _) (Value.bytes (List.toArray _) _) (Value.ref _)) _ _ _); (with_reducible rename Fr _ _ _ _ => F'); (with_reducible rename News _ _ _ _ => N'); k_dflt (refine' br_cutFrom (s := ⟨_, _, _, _, _⟩) F' N' ?z1 ?z2 ?_; (case z1 => walk_at "sz"); (case z2 => walk_at "sz"); k_whole); intro h' _ _ F' N'; (try k_sweep)))
  (k_with "subscriptTail" => (k_here; (with_reducible show wpAny _ _ (subscriptTail _ (Expr.Slice none (some _) none _) (Value.bytes (List.toArray _) _) (Value.ref _)) _ _ _); (with_reducible rename Fr _ _ _ _ => F'); (with_reducible rename News _ _ _ _ => N'); k_dflt (refine' br_cutTo (s := ⟨_, _, _, _, _⟩) F' N' ?z1 ?z2 ?_; (case z1 => walk_at "sz"); (case z2 => walk_at "sz"); k_whole); intro h' _ _ F' N'; (try k_sweep)))
  (k_with "subscriptTail" => (k_here; (with_reducible show wpAny _ _ (subscriptTail _ _ (Value.ref _) (Value.int _ _)) _ _ _); k_dflt (refine' bo_tail ?g ?z1 ?z2 ?z3 ?_; (case g => exact News.get (by k_asm) (by k_mem)); (case z1 => walk_at "sz"); (case z2 => walk_at "sz"); (case z3 => walk_at "sz"); k_whole); intro _ _))
  (k_with "subscriptTail" => (k_here; (with_reducible show wpAny _ _ (subscriptTail _ (Expr.Slice none (some _) none _) (Value.ref _) (Value.ref _)) _ _ _); (with_reducible rename Fr _ _ _ _ => F'); (with_reducible rename News _ _ _ _ => N'); k_dflt (refine' bo_cutTo (s := ⟨_, _, _, _, _⟩) F' N' ?m ?z1 ?z2 ?_; (case m => k_mem); (case z1 => walk_at "sz"); (case z2 => walk_at "sz"); k_whole); intro h' x' F' N' l1; (try k_lt l1); (try k_sweep)))
  (k_with "getItem ref int" => (k_here; k_dflt (refine' bo_getItem ?g ?z1 ?z2 ?z3 ?_; (case g => exact News.get (by k_asm) (by k_mem)); (case z1 => walk_at "sz"); (case z2 => walk_at "sz"); (case z3 => walk_at "sz"); k_whole); intro _ _))
  (k_with "setItem ref int" => (k_here; (with_reducible show wpAny _ _ (setItem (Value.ref _) (Value.int _ _) (Value.int _ _)) _ _ _); k_dflt (refine' bo_setItemK ?F ?N ?U ?z1 ?z2 ?z3 ?z4 ?z5 ?_; (case F => k_asm); (case N => k_asm); (case U => k_upd); (case z1 => walk_at "sz"); (case z2 => walk_at "sz"); (case z3 => walk_at "sz"); (case z4 => first | (with_reducible exact bx150 _ _) | (with_reducible exact bx310 _ _) | (with_reducible exact bxu0 _ _) | walk_at "sz"); (case z5 => first | (with_reducible exact bx151 _ _) | (with_reducible exact bx311 _ _) | (with_reducible exact bxu1 _ _) | walk_at "sz"); k_whole); intro h' F' N'; (try k_sweep)))
  (k_with "compareOp Eq bytes bytes" => (k_here; (with_reducible show wpAny _ _ (compareOp CmpOp.Eq (Value.bytes (List.toArray _) _) (Value.bytes (List.toArray _) _)) _ _ _); k_dflt (refine br_eq ?_)))
  (k_with "compareOp NotEq bytes bytes" => (k_here; (with_reducible show wpAny _ _ (compareOp CmpOp.NotEq (Value.bytes (List.toArray _) _) (Value.bytes (List.toArray _) _)) _ _ _); k_dflt (refine br_ne ?_)))
  (k_with "call builtin:int.to_bytes" => (k_here; (with_reducible show wpAny _ _ (call (Value.builtin "int.to_bytes") [Value.int _ _, Value.int _ _, Value.str _ _]) _ _ _); k_dflt (refine' br_to ?z1 ?z2 ?z3 ?z4 ?_; (case z1 => walk_at "sz"); (case z2 => walk_at "sz"); (case z3 => first | assumption | walk_at "sz" | exact Int.fmod_nonneg_of_pos _ (by decide)); (case z4 => first | assumption | walk_at "sz" | exact Int.lt_of_lt_of_le (Int.fmod_lt_of_pos _ (by decide)) (by decide)); k_whole); intro _ _))
  (k_with "call ref" => (k_here; (with_reducible show wpAny _ _ (call (Value.ref _) [Value.bytes (List.toArray _) _, Value.str _ _]) _ _ _); kfb_any; k_dflt (refine br_from (by k_asm) (by k_mem) ?z1 ?_; (case z1 => walk_at "sz")); intro _ _))
  (k_with "call type:bytes" => (k_here; (with_reducible show wpAny _ _ (call (Value.type "bytes") [Value.ref _]) _ _ _); k_dflt (refine' bo_bytes ?g ?z1 ?_; (case g => exact News.get (by k_asm) (by k_mem)); (case z1 => walk_at "sz"); k_whole); intro _ _))
  (k_with "pyIter bytes" => (k_here; (with_reducible show wpAny _ _ (pyIter (Value.bytes (List.toArray _) _)) (CompPost _ _ _ _ _ _ _ _ _) _ _); k_dflt (refine' comp_row ?hh ?F ?N ?hk ?hl ?hd ?hz ?_; (case hh => exact rfl); (case F => k_asm); (case N => k_asm); (case hk => exact rfl); (case hl => intro _; exact rfl); (case hd => decide); (case hz => walk_at "sz"); k_whole); intro D' ys' h' tk' F' N' lI' iI'; (try k_sweep)))
  (k_with "call type:bytes" => (k_here; (with_reducible show wpAny _ _ (call (Value.type "bytes") [Value.ref _]) _ _ _); (with_reducible rename IntsAre _ (rowOf _) => rI); k_dflt (refine' row_bytes ?F ?N ?hh ?hl rI ?hz ?_; (case F => k_asm); (case N => k_asm); (case hh => exact rfl); (case hl => assumption); (case hz => walk_at "sz"); k_whole); intro h' _ _ F' N'; (try k_sweep)))
  (k_with "call ref" => (k_here; (with_reducible show wpAny _ _ (call (Value.ref 144) [Value.bytes _ _, Value.bytes _ _, Value.bytes _ _]) _ _ _); k_dflt (refine' mask5_spec ?B ?F ?X ?N ?T ?kd ?dp ?z1 ?z2 ?z3 ?_; (case F => k_asm); (case B => k_asm); (case X => k_asm); (case T => k_asm); (case N => exact news_nil (by k_asm)); (case kd => first | exact rfl | assumption); (case dp => walk_at "dp"); (case z1 => walk_at "sz"); (case z2 => walk_at "sz"); (case z3 => walk_at "sz"); k_whole); intro _ _ _ mkK; k_dflt (refine' kept_step0 mkK ?F ?N ?_; (case F => k_asm); (case N => k_asm)); clear mkK; intro F' N'; (try k_sweep)))
  (k_with "call ref" => (k_here; (with_reducible show wpAny _ _ (call (Value.ref 149) [Value.bytes _ _, Value.bytes _ _, Value.bytes _ _]) _ _ _); k_dflt (refine' mask16_spec ?B ?F ?X ?N ?T ?kd ?dp ?z1 ?z2 ?z3 ?_; (case F => k_asm); (case B => k_asm); (case X => k_asm); (case T => k_asm); (case N => exact news_nil (by k_asm)); (case kd => first | exact rfl | assumption); (case dp => walk_at "dp"); (case z1 => walk_at "sz"); (case z2 => walk_at "sz"); (case z3 => walk_at "sz"); k_whole); intro _ _ _ mkK; k_dflt (refine' kept_step0 mkK ?F ?N ?_; (case F => k_asm); (case N => k_asm)); clear mkK; intro F' N'; (try k_sweep)))
  first | walk1 | trivial
section
set_option maxHeartbeats 4000000 in
theorem handed5_spec {prog p : Program} {w : World} {loose : List Str} {mean : ExcName → Option Value} {mg mb : Str → Option Value} {A₀ : Around} {base h₀ : Heap} {outer : List Env} {dp un : Nat} {gd : Option (List Code)} {cn : Str} {cs : Scope} {L ea : Addr} {ccd : Value} {cl : List (Str × Addr)}
    {m : Str → Option Value} {s : Shared} {Q E : Value → Shared → Prop} {xs ys zs us vs : List UInt8} {wd : Str} {tw tx ty tz tu tv : Tok}
    (B : Below A₀ base outer h₀) (F : Fr h₀ L s.heap m) (X : (hd.heap_39 w.params).In h₀) (N : News h₀ L s.heap []) (T : Top p loose mean mg mb h₀)
    (hkd : cs.kind = .function) (hdp : dp ≤ 380)
    (hx : xs.length ≤ 100) (hy : ys.length ≤ 100) (hz : zs.length ≤ 100)
    (ret : ∀ t h' tk', Kept [] s.heap h' → Q (.bytes (mask5 xs ys zs).toArray t) { s with heap := h', toks := tk' }) :
    wpAny (model prog w) (ktrTop dp un gd cn cs L ea ccd cl outer) (call (.ref 156) [.str wd tw, .bytes xs.toArray tx, .bytes ys.toArray ty, .bytes zs.toArray tz, .bytes us.toArray tu, .bytes vs.toArray tv]) Q E s := by
  refine wpAny_call ?_
  k_dflt cell_enter
  k_steps
  exact ret _ _ _ (by assumption)
set_option maxHeartbeats 4000000 in
theorem handed16_spec {prog p : Program} {w : World} {loose : List Str} {mean : ExcName → Option Value} {mg mb : Str → Option Value} {A₀ : Around} {base h₀ : Heap} {outer : List Env} {dp un : Nat} {gd : Option (List Code)} {cn : Str} {cs : Scope} {L ea : Addr} {ccd : Value} {cl : List (Str × Addr)}
    {m : Str → Option Value} {s : Shared} {Q E : Value → Shared → Prop} {xs ys zs us vs : List UInt8} {wd : Str} {tw tx ty tz tu tv : Tok}
    (B : Below A₀ base outer h₀) (F : Fr h₀ L s.heap m) (X : (hd.heap_39 w.params).In h₀) (N : News h₀ L s.heap []) (T : Top p loose mean mg mb h₀)
    (hkd : cs.kind = .function) (hdp : dp ≤ 380)
    (hx : xs.length ≤ 100) (hy : ys.length ≤ 100) (hz : zs.length ≤ 100)
    (ret : ∀ t h' tk', Kept [] s.heap h' → Q (.bytes (mask16 xs ys zs).toArray t) { s with heap := h', toks := tk' }) :
    wpAny (model prog w) (ktrTop dp un gd cn cs L ea ccd cl outer) (call (.ref 163) [.str wd tw, .bytes xs.toArray tx, .bytes ys.toArray ty, .bytes zs.toArray tz, .bytes us.toArray tu, .bytes vs.toArray tv]) Q E s := by
  refine wpAny_call ?_
  k_dflt cell_enter
  k_steps
  exact ret _ _ _ (by assumption)
end

theorem lines_C5 : True := by
  w_top off
  k_with_none
  (k_with "sz" => (first | (first | lia | omega) | (simp only [List.length_append, List.length_cons, List.length_nil, List.length_take, List.length_drop, List.length_map, List.length_set, List.length_replicate, toB_length, cutB_length]; (first | lia | omega))))
  (k_with "dp" => ((try simp only [depth_mark, depth_under_make, depth_under_kw, depth_in1, depth_deeper, depth_caller]); (try dsimp only [ktrTop]); (first | lia | omega)))
  (k_with "k_room" => ((try simp only [depth_mark, depth_under_make, depth_under_kw, depth_in1, depth_deeper, depth_caller]); simp only [recursionLimit]; (first | lia | omega)))
  (k_with "cell_enter" => (refine' enterF ?k1 ?k2 ?k3 ?k4 ?k5 ?kA ?kF ?kK ?k6 ?k7 ?k8 ?k9 ?kB ?_ ?c2 ?c3 ?c4 ?c5; (case kA => exact rfl); (case kF => exact rfl); (case kK => assumption); (case k1 => k_asm); (case k2 => k_asm); (case k3 => k_asm); (case k4 => k_asm); (case k5 => k_asm); (case k6 => k_is); (case k7 => k_is); (case k8 => ktr_room); (case k9 => exact BindsTo.of_eq rfl); (case c5 => decide); (case kB => exact locs rfl); (case c2 => exact rfl); (case c3 => exact rfl); (case c4 => exact rfl); k_whole; intro g' L' h' HG' F' N' B' X' T'; (try dsimp only)))
  (k_with "cell_enterP" => (refine' enterP ?k1 ?k2 ?k3 ?k4 ?k5 ?kA ?kF ?kK ?k6 ?k7 ?k8 ?k9 ?kB ?_ ?c2 ?c3 ?c4 ?c5; (case kA => exact rfl); (case kF => exact rfl); (case kK => assumption); (case k1 => k_asm); (case k2 => k_asm); (case k3 => k_asm); (case k4 => k_asm); (case k5 => k_asm); (case k6 => k_is); (case k7 => k_is); (case k8 => ktr_room); (case k9 => exact BindsTo.of_eq rfl); (case c5 => decide); (case kB => exact locs rfl); (case c2 => exact rfl); (case c3 => exact rfl); (case c4 => exact rfl); k_whole; intro g' L' h' HG' F' N' B' X' T'; (try dsimp only)))
  (k_with "binaryOp Add bytes bytes" => (k_here; (with_reducible show wpAny _ _ (binaryOp Operator.Add (Value.bytes (List.toArray _) _) (Value.bytes (List.toArray _) _)) _ _ _); k_dflt (refine' br_add ?z1 ?z2 ?_; (case z1 => walk_at "sz"); (case z2 => walk_at "sz"); k_whole); intro _ _))
  (k_with "call builtin:len" => (k_here; (with_reducible show wpAny _ _ (call (Value.builtin "len") [Value.bytes (List.toArray _) _]) _ _ _); k_dflt (refine' br_len ?z1 ?_; (case z1 => walk_at "sz"); k_whole); intro _ _))
  (k_with "subscriptTail" => (k_here; (with_reducible show wpAny _ _ (subscriptTail _ _ (Value.bytes (List.toArray _) _) (Value.int _ _)) _ _ _); k_dflt (refine' br_item ?z1 ?z2 ?z3 ?_; (case z1 => walk_at "sz"); (case z2 => walk_at "sz"); (case z3 => walk_at "sz"); k_whole); intro _ _))
  (k_with "subscriptTail" => (k_here; (with_reducible show wpAny _ _ (subscriptTail _ (Expr.Slice (some _) (some _) none _) (Value.bytes (List.toArray _) _) (Value.ref _)) _ _ _); (with_reducible rename Fr _ _ _ _ => F'); (with_reducible rename News _ _ _ _ => N'); k_dflt (refine' br_cut (s := ⟨_, _, _, _, _⟩) F' N' ?z1 ?z2 ?z3 ?_; (case z1 => walk_at "sz"); (case z2 => walk_at "sz"); (case z3 => walk_at "sz"); k_whole); intro h' _ _ F' N'; (try k_sweep)))
  (k_with "subscriptTail" => (k_here; (with_reducible show wpAny _ _ (subscriptTail _ (Expr.Slice (some _) none none _) (Value.bytes (List.toArray _) _) (Value.ref _)) _ _ _); (with_reducible rename Fr _ _ _ _ => F'); (with_reducible rename News _ _ _ _ => N'); k_dflt (refine' br_cutFrom (s := ⟨_, _, _, _, _⟩) F' N' ?z1 ?z2 ?_; (case z1 => walk_at "sz"); (case z2 => walk_at "sz"); k_whole); intro h' _ _ F' N'; (try k_sweep)))
  (k_with "subscriptTail" => (k_here; (with_reducible show wpAny _ _ (subscriptTail _ (Expr.Slice none (some _) none _) (Value.bytes (List.toArray _) _) (Value.ref _)) _ _ _); (with_reducible rename Fr _ _ _ _ => F'); (with_reducible rename News _ _ _ _ => N'); k_dflt (refine' br_cutTo (s := ⟨_, _, _, _, _⟩) F' N' ?z1 ?z2 ?_; (case z1 => walk_at "sz"); (case z2 => walk_at "sz"); k_whole); intro h' _ _ F' N'; (try k_sweep)))
  (k_with "subscriptTail" => (k_here; (with_reducible show wpAny _ _ (subscriptTail _ _ (Value.ref _) (Value.int _ _)) _ _ _); k_dflt (refine' bo_tail ?g ?z1 ?z2 ?z3 ?_; (case g => exact News.get (by k_asm) (by k_mem)); (case z1 => walk_at "sz"); (case z2 => walk_at "sz"); (case z3 => walk_at "sz"); k_whole); intro _ _))
  (k_with "subscriptTail" => (k_here; (with_reducible show wpAny _ _ (subscriptTail _ (Expr.Slice none (some _) none _) (Value.ref _) (Value.ref _)) _ _ _); (with_reducible rename Fr _ _ _ _ => F'); (with_reducible rename News _ _ _ _ => N'); k_dflt (refine' bo_cutTo (s := ⟨_, _, _, _, _⟩) F' N' ?m ?z1 ?z2 ?_; (case m => k_mem); (case z1 => walk_at "sz"); (case z2 => walk_at "sz"); k_whole); intro h' x' F' N' l1; (try k_lt l1); (try k_sweep)))
  (k_with "getItem ref int" => (k_here; k_dflt (refine' bo_getItem ?g ?z1 ?z2 ?z3 ?_; (case g => exact News.get (by k_asm) (by k_mem)); (case z1 => walk_at "sz"); (case z2 => walk_at "sz"); (case z3 => walk_at "sz"); k_whole); intro _ _))
  (k_with "setItem ref int" => (k_here; (with_reducible show wpAny _ _ (setItem (Value.ref _) (Value.int _ _) (Value.int _ _)) _ _ _); k_dflt (refine' bo_setItemK ?F ?N ?U ?z1 ?z2 ?z3 ?z4 ?z5 ?_; (case F => k_asm); (case N => k_asm); (case U => k_upd); (case z1 => walk_at "sz"); (case z2 => walk_at "sz"); (case z3 => walk_at "sz"); (case z4 => first | (with_reducible exact bx150 _ _) | (with_reducible exact bx310 _ _) | (with_reducible exact bxu0 _ _) | walk_at "sz"); (case z5 => first | (with_reducible exact bx151 _ _) | (with_reducible exact bx311 _ _) | (with_reducible exact bxu1 _ _) | walk_at "sz"); k_whole); intro h' F' N'; (try k_sweep)))
  (k_with "compareOp Eq bytes bytes" => (k_here; (with_reducible show wpAny _ _ (compareOp CmpOp.Eq (Value.bytes (List.toArray _) _) (Value.bytes (List.toArray _) _)) _ _ _); k_dflt (refine br_eq ?_)))
  (k_with "compareOp NotEq bytes bytes" => (k_here; (with_reducible show wpAny _ _ (compareOp CmpOp.NotEq (Value.bytes (List.toArray _) _) (Value.bytes (List.toArray _) _)) _ _ _); k_dflt (refine br_ne ?_)))
  (k_with "call builtin:int.to_bytes" => (k_here; (with_reducible show wpAny _ _ (call (Value.builtin "int.to_bytes") [Value.int _ _, Value.int _ _, Value.str _ _]) _ _ _); k_dflt (refine' br_to ?z1 ?z2 ?z3 ?z4 ?_; (case z1 => walk_at "sz"); (case z2 => walk_at "sz"); (case z3 => first | assumption | walk_at "sz" | exact Int.fmod_nonneg_of_pos _ (by decide)); (case z4 => first | assumption | walk_at "sz" | exact Int.lt_of_lt_of_le (Int.fmod_lt_of_pos _ (by decide)) (by decide)); k_whole); intro _ _))
  (k_with "call ref" => (k_here; (with_reducible show wpAny _ _ (call (Value.ref _) [Value.bytes (List.toArray _) _, Value.str _ _]) _ _ _); kfb_any; k_dflt (refine br_from (by k_asm) (by k_mem) ?z1 ?_; (case z1 => walk_at "sz")); intro _ _))
  (k_with "call type:bytes" => (k_here; (with_reducible show wpAny _ _ (call (Value.type "bytes") [Value.ref _]) _ _ _); k_dflt (refine' bo_bytes ?g ?z1 ?_; (case g => exact News.get (by k_asm) (by k_mem)); (case z1 => walk_at "sz"); k_whole); intro _ _))
  (k_with "pyIter bytes" => (k_here; (with_reducible show wpAny _ _ (pyIter (Value.bytes (List.toArray _) _)) (CompPost _ _ _ _ _ _ _ _ _) _ _); k_dflt (refine' comp_row ?hh ?F ?N ?hk ?hl ?hd ?hz ?_; (case hh => exact rfl); (case F => k_asm); (case N => k_asm); (case hk => exact rfl); (case hl => intro _; exact rfl); (case hd => decide); (case hz => walk_at "sz"); k_whole); intro D' ys' h' tk' F' N' lI' iI'; (try k_sweep)))
  (k_with "call type:bytes" => (k_here; (with_reducible show wpAny _ _ (call (Value.type "bytes") [Value.ref _]) _ _ _); (with_reducible rename IntsAre _ (rowOf _) => rI); k_dflt (refine' row_bytes ?F ?N ?hh ?hl rI ?hz ?_; (case F => k_asm); (case N => k_asm); (case hh => exact rfl); (case hl => assumption); (case hz => walk_at "sz"); k_whole); intro h' _ _ F' N'; (try k_sweep)))
  (k_with "call ref" => (k_here; (with_reducible show wpAny _ _ (call (Value.ref 156) [Value.str _ _, Value.bytes _ _, Value.bytes _ _, Value.bytes _ _, Value.bytes _ _, Value.bytes _ _]) _ _ _); k_dflt (refine' handed5_spec ?B ?F ?X ?N ?T ?kd ?dp ?z1 ?z2 ?z3 ?_; (case F => k_asm); (case B => k_asm); (case X => k_asm); (case T => k_asm); (case N => exact news_nil (by k_asm)); (case kd => first | exact rfl | assumption); (case dp => walk_at "dp"); (case z1 => walk_at "sz"); (case z2 => walk_at "sz"); (case z3 => walk_at "sz"); k_whole); intro _ _ _ mkK; k_dflt (refine' kept_step0 mkK ?F ?N ?_; (case F => k_asm); (case N => k_asm)); clear mkK; intro F' N'; (try k_sweep)))
  (k_with "call ref" => (k_here; (with_reducible show wpAny _ _ (call (Value.ref 163) [Value.str _ _, Value.bytes _ _, Value.bytes _ _, Value.bytes _ _, Value.bytes _ _, Value.bytes _ _]) _ _ _); k_dflt (refine' handed16_spec ?B ?F ?X ?N ?T ?kd ?dp ?z1 ?z2 ?z3 ?_; (case F => k_asm); (case B => k_asm); (case X => k_asm); (case T => k_asm); (case N => exact news_nil (by k_asm)); (case kd => first | exact rfl | assumption); (case dp => walk_at "dp"); (case z1 => walk_at "sz"); (case z2 => walk_at "sz"); (case z3 => walk_at "sz"); k_whole); intro _ _ _ mkK; k_dflt (refine' kept_step0 mkK ?F ?N ?_; (case F => k_asm); (case N => k_asm)); clear mkK; intro F' N'; (try k_sweep)))
  first | walk1 | trivial
section
/-- the three things that a HeaderProtection holds -/
abbrev hpDict (P : Params) (t1 t2 t3 tn tk : Tok) (nm ky : List UInt8) (f : Addr) : List DictEntry :=
  [⟨PyData.keyHash P (Str.ofString "_cipher_name"), .str (Str.ofString "_cipher_name") t1, .bytes nm.toArray tn⟩, ⟨PyData.keyHash P (Str.ofString "_key"), .str (Str.ofString "_key") t2, .bytes ky.toArray tk⟩,
    ⟨PyData.keyHash P (Str.ofString "_primitives"), .str (Str.ofString "_primitives") t3, .ref f⟩]
def handAt (wide : Bool) : Addr := if wide then 163 else 156
def maskV (wide : Bool) (xs ys zs : List UInt8) : List UInt8 := if wide then mask16 xs ys zs else mask5 xs ys zs
theorem maskV_length (wide : Bool) (xs ys zs : List UInt8) : 5 ≤ (maskV wide xs ys zs).length ∧ (maskV wide xs ys zs).length ≤ 16 := by
  unfold maskV
  split
  · rw [mask16_length]; (first | lia | omega)
  · rw [mask5_length]; (first | lia | omega)
theorem kept_all {ids : List Addr} {h₀ g h h' : Heap} {L L' : Addr} {news news' : List (Addr × Obj)} (K : Kept ids h h') (hids : ids = news.map (·.1)) (N : News h₀ L h news) (N' : News g L' h' news') (hs : ∀ q ∈ news, q ∈ news') : Kept [] h h' := by
  intro b o _ e
  by_cases hb : b ∈ ids
  · subst hids
    obtain ⟨q, hq, rfl⟩ := List.mem_map.mp hb
    have e' := (N q hq).1
    rw [e] at e'
    rw [Option.some.inj e']
    exact (N' q (hs q hq)).1
  · exact K b o hb e
set_option maxHeartbeats 4000000 in
theorem mask_spec {prog p : Program} {w : World} {loose : List Str} {mean : ExcName → Option Value} {mg mb : Str → Option Value} {A₀ : Around} {base h₀ : Heap} {outer : List Env} {dp un : Nat} {gd : Option (List Code)} {cn : Str} {cs : Scope} {L ea : Addr} {ccd : Value} {cl : List (Str × Addr)}
    {m : Str → Option Value} {s : Shared} {Q E : Value → Shared → Prop} {x dx : Addr} {n : Nat} {t1 t2 t3 tn tk tz : Tok} {nm ky zs : List UInt8} {wide : Bool}
    (B : Below A₀ base outer h₀) (F : Fr h₀ L s.heap m) (X : (hd.heap_39 w.params).In h₀) (N : News h₀ L s.heap [(x, instObj 114 dx), (dx, dictOf (hpDict w.params t1 t2 t3 tn tk nm ky (handAt wide)) n)]) (T : Top p loose mean mg mb h₀)
    (hkd : cs.kind = .function) (hdp : dp ≤ 370)
    (hx : nm.length ≤ 100) (hy : ky.length ≤ 100) (hz : zs.length ≤ 100)
    (ret : ∀ t h' tk', Kept [] s.heap h' → Q (.bytes (maskV wide nm ky zs).toArray t) { s with heap := h', toks := tk' }) :
    wpAny (model prog w) (ktrTop dp un gd cn cs L ea ccd cl outer) (call (.ref 111) [.ref x, .bytes zs.toArray tz]) Q E s := by
  refine wpAny_call ?_
  cases wide
  · rw [show handAt false = 156 from rfl] at N
    k_dflt cell_enter
    k_steps
    exact ret _ _ _ (kept_all (by assumption) rfl N (by assumption) (fun _ h => h))
  · rw [show handAt true = 163 from rfl] at N
    k_dflt cell_enter
    k_steps
    exact ret _ _ _ (kept_all (by assumption) rfl N (by assumption) (fun _ h => h))
end

local macro_rules | `(tactic| k_all) => `(tactic| assumption)
theorem lines_C6 : True := by
  w_top off
  k_with_none
  (k_with "sz" => (first | (first | lia | omega) | (simp only [List.length_append, List.length_cons, List.length_nil, List.length_take, List.length_drop, List.length_map, List.length_set, List.length_replicate, toB_length, cutB_length]; (first | lia | omega))))
  (k_with "dp" => ((try simp only [depth_mark, depth_under_make, depth_under_kw, depth_in1, depth_deeper, depth_caller]); (try dsimp only [ktrTop]); (first | lia | omega)))
  (k_with "k_room" => ((try simp only [depth_mark, depth_under_make, depth_under_kw, depth_in1, depth_deeper, depth_caller]); simp only [recursionLimit]; (first | lia | omega)))
  (k_with "cell_enter" => (refine' enterF ?k1 ?k2 ?k3 ?k4 ?k5 ?kA ?kF ?kK ?k6 ?k7 ?k8 ?k9 ?kB ?_ ?c2 ?c3 ?c4 ?c5; (case kA => exact rfl); (case kF => exact rfl); (case kK => assumption); (case k1 => k_asm); (case k2 => k_asm); (case k3 => k_asm); (case k4 => k_asm); (case k5 => k_asm); (case k6 => k_is); (case k7 => k_is); (case k8 => ktr_room); (case k9 => exact BindsTo.of_eq rfl); (case c5 => decide); (case kB => exact locs rfl); (case c2 => exact rfl); (case c3 => exact rfl); (case c4 => exact rfl); k_whole; intro g' L' h' HG' F' N' B' X' T'; (try dsimp only)))
  (k_with "cell_enterP" => (refine' enterP ?k1 ?k2 ?k3 ?k4 ?k5 ?kA ?kF ?kK ?k6 ?k7 ?k8 ?k9 ?kB ?_ ?c2 ?c3 ?c4 ?c5; (case kA => exact rfl); (case kF => exact rfl); (case kK => assumption); (case k1 => k_asm); (case k2 => k_asm); (case k3 => k_asm); (case k4 => k_asm); (case k5 => k_asm); (case k6 => k_is); (case k7 => k_is); (case k8 => ktr_room); (case k9 => exact BindsTo.of_eq rfl); (case c5 => decide); (case kB => exact locs rfl); (case c2 => exact rfl); (case c3 => exact rfl); (case c4 => exact rfl); k_whole; intro g' L' h' HG' F' N' B' X' T'; (try dsimp only)))
  (k_with "binaryOp Add bytes bytes" => (k_here; (with_reducible show wpAny _ _ (binaryOp Operator.Add (Value.bytes (List.toArray _) _) (Value.bytes (List.toArray _) _)) _ _ _); k_dflt (refine' br_add ?z1 ?z2 ?_; (case z1 => walk_at "sz"); (case z2 => walk_at "sz"); k_whole); intro _ _))
  (k_with "call builtin:len" => (k_here; (with_reducible show wpAny _ _ (call (Value.builtin "len") [Value.bytes (List.toArray _) _]) _ _ _); k_dflt (refine' br_len ?z1 ?_; (case z1 => walk_at "sz"); k_whole); intro _ _))
  (k_with "subscriptTail" => (k_here; (with_reducible show wpAny _ _ (subscriptTail _ _ (Value.bytes (List.toArray _) _) (Value.int _ _)) _ _ _); k_dflt (refine' br_item ?z1 ?z2 ?z3 ?_; (case z1 => walk_at "sz"); (case z2 => walk_at "sz"); (case z3 => walk_at "sz"); k_whole); intro _ _))
  (k_with "subscriptTail" => (k_here; (with_reducible show wpAny _ _ (subscriptTail _ (Expr.Slice (some _) (some _) none _) (Value.bytes (List.toArray _) _) (Value.ref _)) _ _ _); (with_reducible rename Fr _ _ _ _ => F'); (with_reducible rename News _ _ _ _ => N'); k_dflt (refine' br_cut (s := ⟨_, _, _, _, _⟩) F' N' ?z1 ?z2 ?z3 ?_; (case z1 => walk_at "sz"); (case z2 => walk_at "sz"); (case z3 => walk_at "sz"); k_whole); intro h' _ _ F' N'; (try k_sweep)))
  (k_with "subscriptTail" => (k_here; (with_reducible show wpAny _ _ (subscriptTail _ (Expr.Slice (some _) none none _) (Value.bytes (List.toArray _) _) (Value.ref _)) _ _ _); (with_reducible rename Fr _ _ _ _ => F'); (with_reducible rename News _ _ _ _ => N'); k_dflt (refine' br_cutFrom (s := ⟨_, _, _, _, _⟩) F' N' ?z1 ?z2 ?_; (case z1 => walk_at "sz"); (case z2 => walk_at "sz"); k_whole); intro h' _ _ F' N'; (try k_sweep)))
  (k_with "subscriptTail" => (k_here; (with_reducible show wpAny _ _ (subscriptTail _ (Expr.Slice none (some _) none _) (Value.bytes (List.toArray _) _) (Value.ref _)) _ _ _); (with_reducible rename Fr _ _ _ _ => F'); (with_reducible rename News _ _ _ _ => N'); k_dflt (refine' br_cutTo (s := ⟨_, _, _, _, _⟩) F' N' ?z1 ?z2 ?_; (case z1 => walk_at "sz"); (case z2 => walk_at "sz"); k_whole); intro h' _ _ F' N'; (try k_sweep)))
  (k_with "subscriptTail" => (k_here; (with_reducible show wpAny _ _ (subscriptTail _ _ (Value.ref _) (Value.int _ _)) _ _ _); k_dflt (refine' bo_tail ?g ?z1 ?z2 ?z3 ?_; (case g => exact News.get (by k_asm) (by k_mem)); (case z1 => walk_at "sz"); (case z2 => walk_at "sz"); (case z3 => walk_at "sz"); k_whole); intro _ _))
  (k_with "subscriptTail" => (k_here; (with_reducible show wpAny _ _ (subscriptTail _ (Expr.Slice none (some _) none _) (Value.ref _) (Value.ref _)) _ _ _); (with_reducible rename Fr _ _ _ _ => F'); (with_reducible rename News _ _ _ _ => N'); k_dflt (refine' bo_cutTo (s := ⟨_, _, _, _, _⟩) F' N' ?m ?z1 ?z2 ?_; (case m => k_mem); (case z1 => walk_at "sz"); (case z2 => walk_at "sz"); k_whole); intro h' x' F' N' l1; (try k_lt l1); (try k_sweep)))
  (k_with "getItem ref int" => (k_here; k_dflt (refine' bo_getItem ?g ?z1 ?z2 ?z3 ?_; (case g => exact News.get (by k_asm) (by k_mem)); (case z1 => walk_at "sz"); (case z2 => walk_at "sz"); (case z3 => walk_at "sz"); k_whole); intro _ _))
  (k_with "setItem ref int" => (k_here; (with_reducible show wpAny _ _ (setItem (Value.ref _) (Value.int _ _) (Value.int _ _)) _ _ _); k_dflt (refine' bo_setItemK ?F ?N ?U ?z1 ?z2 ?z3 ?z4 ?z5 ?_; (case F => k_asm); (case N => k_asm); (case U => k_upd); (case z1 => walk_at "sz"); (case z2 => walk_at "sz"); (case z3 => walk_at "sz"); (case z4 => first | (with_reducible exact bx150 _ _) | (with_reducible exact bx310 _ _) | (with_reducible exact bxu0 _ _) | walk_at "sz"); (case z5 => first | (with_reducible exact bx151 _ _) | (with_reducible exact bx311 _ _) | (with_reducible exact bxu1 _ _) | walk_at "sz"); k_whole); intro h' F' N'; (try k_sweep)))
  (k_with "compareOp Eq bytes bytes" => (k_here; (with_reducible show wpAny _ _ (compareOp CmpOp.Eq (Value.bytes (List.toArray _) _) (Value.bytes (List.toArray _) _)) _ _ _); k_dflt (refine br_eq ?_)))
  (k_with "compareOp NotEq bytes bytes" => (k_here; (with_reducible show wpAny _ _ (compareOp CmpOp.NotEq (Value.bytes (List.toArray _) _) (Value.bytes (List.toArray _) _)) _ _ _); k_dflt (refine br_ne ?_)))
  (k_with "call builtin:int.to_bytes" => (k_here; (with_reducible show wpAny _ _ (call (Value.builtin "int.to_bytes") [Value.int _ _, Value.int _ _, Value.str _ _]) _ _ _); k_dflt (refine' br_to ?z1 ?z2 ?z3 ?z4 ?_; (case z1 => walk_at "sz"); (case z2 => walk_at "sz"); (case z3 => first | assumption | walk_at "sz" | exact Int.fmod_nonneg_of_pos _ (by decide)); (case z4 => first | assumption | walk_at "sz" | exact Int.lt_of_lt_of_le (Int.fmod_lt_of_pos _ (by decide)) (by decide)); k_whole); intro _ _))
  (k_with "call ref" => (k_here; (with_reducible show wpAny _ _ (call (Value.ref _) [Value.bytes (List.toArray _) _, Value.str _ _]) _ _ _); kfb_any; k_dflt (refine br_from (by k_asm) (by k_mem) ?z1 ?_; (case z1 => walk_at "sz")); intro _ _))
  (k_with "call type:bytes" => (k_here; (with_reducible show wpAny _ _ (call (Value.type "bytes") [Value.ref _]) _ _ _); k_dflt (refine' bo_bytes ?g ?z1 ?_; (case g => exact News.get (by k_asm) (by k_mem)); (case z1 => walk_at "sz"); k_whole); intro _ _))
  (k_with "pyIter bytes" => (k_here; (with_reducible show wpAny _ _ (pyIter (Value.bytes (List.toArray _) _)) (CompPost _ _ _ _ _ _ _ _ _) _ _); k_dflt (refine' comp_row ?hh ?F ?N ?hk ?hl ?hd ?hz ?_; (case hh => exact rfl); (case F => k_asm); (case N => k_asm); (case hk => exact rfl); (case hl => intro _; exact rfl); (case hd => decide); (case hz => walk_at "sz"); k_whole); intro D' ys' h' tk' F' N' lI' iI'; (try k_sweep)))
  (k_with "call type:bytes" => (k_here; (with_reducible show wpAny _ _ (call (Value.type "bytes") [Value.ref _]) _ _ _); (with_reducible rename IntsAre _ (rowOf _) => rI); k_dflt (refine' row_bytes ?F ?N ?hh ?hl rI ?hz ?_; (case F => k_asm); (case N => k_asm); (case hh => exact rfl); (case hl => assumption); (case hz => walk_at "sz"); k_whole); intro h' _ _ F' N'; (try k_sweep)))
  (k_with "call ref" => (k_here; k_dflt ((try simp only [List.cons_append, List.nil_append]); (with_reducible show wpAny _ _ (call (Value.ref 111) [Value.ref _, Value.bytes _ _]) _ _ _); k_dflt (refine' mask_spec ?B ?F ?X ?N ?T ?kd ?dp ?z1 ?z2 ?z3 ?_; (case F => k_asm); (case B => k_asm); (case X => k_asm); (case T => k_asm); (case N => exact news_two (by k_asm) (by k_mem) (by k_mem)); (case kd => first | exact rfl | assumption); (case dp => walk_at "dp"); (case z1 => walk_at "sz"); (case z2 => walk_at "sz"); (case z3 => walk_at "sz"); k_whole); intro _ _ _ mkK; k_dflt (refine' kept_step0 mkK ?F ?N ?_; (case F => k_asm); (case N => k_asm)); clear mkK; intro F' N'; (try k_sweep))))
  (k_with "eval Name" => (k_here; (with_reducible show wpAny _ _ (eval (Expr.Name _ _) _) _ _ _); k_dflt (refine' PyProof.Rows.ld ?k1 ?k2 ?_; (case k1 => k_asm); (case k2 => assumption); k_whole)))
  first | walk1 | trivial
section
theorem sub_two {α : Type} {a b : α} {l : List α} (ha : a ∈ l) (hb : b ∈ l) : ∀ q ∈ [a, b], q ∈ l := fun q h => by
  rcases List.mem_cons.mp h with rfl | h
  · exact ha
  · rw [List.mem_singleton.mp h]; exact hb
theorem u8b (z : UInt8) : ((z.toNat : Int).toNat).toUInt8 = z := by
  rw [Int.toNat_natCast]; exact UInt8.ofNat_toNat
/-! ## what putting a mask on (or taking it off) makes of the octets -/
def lowOf (b m : UInt8) : UInt8 := if Builtin.bitAnd (b.toNat : Int) 128 = 0 then m &&& 31 else m &&& 15
def xorAt (xs : List UInt8) (i : Nat) (v : UInt8) : List UInt8 := xs.set i (xs.getD i 0 ^^^ v)
def turnN (M : List UInt8) (off : Nat) : Nat → List UInt8 → List UInt8
  | 0, xs => xs
  | k + 1, xs => xorAt (turnN M off k xs) (off + k) (M.getD (1 + k) 0)
def headL (M xs : List UInt8) : List UInt8 := xorAt xs 0 (lowOf (xs.getD 0 0) (M.getD 0 0))
def pnN (b : UInt8) : Nat := (Builtin.bitAnd (b.toNat : Int) 3 + 1).toNat
def applyL (M xs : List UInt8) (off n : Nat) : List UInt8 := turnN M off n (headL M xs)
theorem head_hi {L M : List UInt8} (h : Builtin.bitAnd ((L.getD (Int.toNat 0) 0).toNat : Int) 128 ≠ 0) : L.set 0 (L.getD 0 0 ^^^ M.getD 0 0 &&& 15) = headL M L := by
  unfold headL xorAt lowOf
  rw [if_neg (show ¬ Builtin.bitAnd ((L.getD 0 0).toNat : Int) 128 = 0 from h)]
theorem head_lo {L M : List UInt8} (h : Builtin.bitAnd ((L.getD (Int.toNat 0) 0).toNat : Int) 128 = 0) : L.set 0 (L.getD 0 0 ^^^ M.getD 0 0 &&& 31) = headL M L := by
  unfold headL xorAt lowOf
  rw [if_pos (show Builtin.bitAnd ((L.getD 0 0).toNat : Int) 128 = 0 from h)]
theorem cons_any {M : Model} {A : Around} {E : Value → Shared → Prop} {s : Shared} {env : Env} {Q : Flow → Shared → Prop} {x : Stmt} {l : List Stmt} (h : wpAny M A (exec x env) (Then (fun s' => wpAny M A (execs l env) Q E s') Q) E s) : wpAny M A (execs (x :: l) env) Q E s := by
  show wpAny M A (exec x env >>= fun f => match f with | .next => execs l env | f => pure f) Q E s
  refine wpAny_bind (wpAny_mono h (fun f s' g => ?_) fun _ _ e => e)
  cases f <;> first | exact g | exact wpAny_pure g
theorem Then_ret {R : Shared → Prop} {Q : Flow → Shared → Prop} {v : Value} {s : Shared} (h : Q (.ret v) s) : Then R Q (.ret v) s := h
theorem then_next {R : Shared → Prop} {Q : Flow → Shared → Prop} {s : Shared} (h : R s) : Then R Q .next s := h
theorem lines_C6_1 : True := by
  (k_with "mp" => first | exact if_pos rfl | (refine (if_neg (by decide)).trans ?_; walk_at "mp") | exact rfl)
  trivial
theorem pn_int (z : UInt8) : Builtin.bitAnd (z.toNat : Int) 3 + 1 = ((pnN z : Nat) : Int) := by
  unfold pnN
  rcases and3 z with h | h | h | h <;> rw [h] <;> rfl
theorem pnN_le (z : UInt8) : 1 ≤ pnN z ∧ pnN z ≤ 4 := by
  unfold pnN
  rcases and3 z with h | h | h | h <;> rw [h] <;> decide
theorem rng_small {k : Nat} (h : 1 ≤ k ∧ k ≤ 4) : Builtin.Range.small 0 (k : Int) 1 = true ∧ Builtin.Range.rangeSize 0 (k : Int) 1 = (k : Int) := by
  obtain ⟨h0, h1⟩ := h
  match k, h0, h1 with
  | 1, _, _ => decide
  | 2, _, _ => decide
  | 3, _, _ => decide
  | 4, _, _ => decide
abbrev rIt (x left : Int) : Obj := { cls := .type "range_iterator", dict := none, data := .fields #[rawInt x, rawInt left, rawInt 1], slots := #[] }
theorem turnN_length (M : List UInt8) (off : Nat) : ∀ k xs, (turnN M off k xs).length = xs.length
  | 0, _ => rfl
  | k + 1, xs => by rw [turnN, xorAt, List.length_set, turnN_length M off k xs]
/-- one turn of a loop over a range -/
theorem range_turn {prog : Program} {w : World} {A : Around} {s : Shared} {env : Env} {x : Str} {px : Pos} {it : Addr} {i j : Nat} {body : List Stmt} {Q : Flow → Shared → Prop} {g : Heap} {L : Addr} {m : Str → Option Value} {news : List (Addr × Obj)}
    (F : Fr g L s.heap m) (N : News g L s.heap (news ++ [(it, rIt (i : Int) ((j + 1 : Nat) : Int))])) (hne : ∀ q ∈ news, q.1 ≠ it)
    (k : ∀ h' t, Fr g L h' m → News g L h' (news ++ [(it, rIt ((i + 1 : Nat) : Int) (j : Int))]) → wpAny (model prog w) A (storeName env x (.int (i : Int) t)) (fun _ s₂ => wpAny (model prog w) A (execs body env) (fun f s₃ => match f with
          | .next | .cont => LoopC prog w A NoE env x px (.ref it) body Q s₃
          | .brk => Q .next s₃
          | .ret v => Q (.ret v) s₃) NoE s₂) NoE { s with heap := h', toks := s.toks + 1 }) : LoopC prog w A NoE env x px (.ref it) body Q s := by
  have hit := N _ (List.mem_append_right _ (.head _))
  refine loop_raw ?_ PassesOwn.never
  refine wpAny_pyNext_range_item hit.1 (by (first | lia | omega)) fun h' gg sb => ?_
  have kk : Kept [it] s.heap h' := fun b o hb e => (sb.2 b (by simpa using hb)).trans e
  refine k h' _ (kk.fr F (by simpa using Ne.symm hit.2.1) (by simpa using hit.2.2)) (News.app (kk.news (News.sub N fun q hq => List.mem_append_left _ hq) fun q hq => by simpa using hne q hq) fun q hq => ?_)
  rw [List.mem_singleton.mp hq]
  have e : ((j + 1 : Nat) : Int) - 1 = (j : Int) := by (first | lia | omega)
  rw [e] at gg
  exact ⟨gg, hit.2⟩
theorem range_end {prog : Program} {w : World} {A : Around} {s : Shared} {env : Env} {x : Str} {px : Pos} {it : Addr} {i : Nat} {body : List Stmt} {Q : Flow → Shared → Prop} {g : Heap} {L : Addr} {m : Str → Option Value} {news : List (Addr × Obj)}
    (hh : A.handled = none) (F : Fr g L s.heap m) (N : News g L s.heap (news ++ [(it, rIt (i : Int) ((0 : Nat) : Int))])) (hne : ∀ q ∈ news, q.1 ≠ it)
    (k : ∀ h', Fr g L h' m → News g L h' news → Q .next { s with heap := h' }) : LoopC prog w A NoE env x px (.ref it) body Q s := by
  have hit := N _ (List.mem_append_right _ (.head _))
  refine loop_raw ?_ PassesOwn.never
  refine wpAny_pyNext_range_end hh hit.1 (by decide) fun h' sb => ?_
  have kk : Kept [it] s.heap h' := fun b o hb e => sb b o (by simpa using hb) e
  exact k h' (kk.fr F (by simpa using Ne.symm hit.2.1) (by simpa using hit.2.2)) (kk.news (News.sub N fun q hq => List.mem_append_left _ hq) fun q hq => by simpa using hne q hq)
theorem range_start {prog : Program} {w : World} {A : Around} {s : Shared} {r : Addr} {k : Nat} {t u v : Tok} {Q : Value → Shared → Prop} {g : Heap} {L : Addr} {m : Str → Option Value} {news : List (Addr × Obj)}
    (hk : 1 ≤ k ∧ k ≤ 4) (R : IsRange s.heap r 0 (k : Int) 1 t u v) (F : Fr g L s.heap m) (N : News g L s.heap news)
    (q : ∀ h' it, Fr g L h' m → News g L h' (news ++ [(it, rIt ((0 : Nat) : Int) (k : Int))]) → (∀ p ∈ news, p.1 ≠ it) → Q (.ref it) { s with heap := h' }) : wpAny (model prog w) A (pyIter (.ref r)) Q NoE s := by
  refine wpAny_pyIter_range R (rng_small hk).1 ?_
  rw [(rng_small hk).2]
  have N9 := News.push F N (rIt ((0 : Nat) : Int) (k : Int))
  refine q _ _ (F.push _) (fun p hp => ?_) fun p hp => Nat.ne_of_lt (Heap.lt_size (N.get hp))
  rcases List.mem_append.mp hp with hp | hp
  · exact N9 p (.tail _ hp)
  · rw [List.mem_singleton.mp hp]
    exact N9 _ (.head _)
/-! ## the loop of apply -/
section
variable {prog p : Program} {w : World} {loose : List Str} {mean : ExcName → Option Value} {mg mb : Str → Option Value} {A A₀ : Around} {base g : Heap} {outer : List Env} {L a it : Addr} {m : Str → Option Value} {rest : List (Addr × Obj)} {M C xs : List UInt8} {off i k : Nat} {t1 t2 t3 : Tok} {px : Pos} {Q : Flow → Shared → Prop}
theorem apply_if {s : Shared} (X : (hd.heap_39 w.params).In g) (T : Top p loose mean mg mb g) (B : Below A₀ base outer g) (F : Fr g L s.heap m) (N : News g L s.heap ((a, baObj xs.toArray) :: rest)) (hr : ∀ q ∈ rest, q.1 ≠ a)
    (h1 : m (Str.ofString "buffer") = some (.ref a)) (h3 : m (Str.ofString "mask") = some (.bytes M.toArray t2)) (hl : xs.length ≤ 300) (h0 : 0 < xs.length) (hM : 5 ≤ M.length) (hM1 : M.length ≤ 16)
    (ret : ∀ h' tk', Fr g L h' m → News g L h' ((a, baObj (headL M xs).toArray) :: rest) → Q .next { s with heap := h', toks := tk' }) :
    wpAny (model prog w) (A.deeper (envA L)) (exec st_97_5 (envA L)) Q NoE s := by
  conv in st_97_5 => whnf
  k_steps
  all_goals
    (rename Fr _ _ _ _ => F1)
    (rename News _ _ _ _ => N1)
    have e0 : Int.toNat 0 = 0 := rfl
    simp only [e0, ba_15, ba_31, bx_u, u8b] at N1
    first | rw [head_hi (by assumption)] at N1 | rw [head_lo (by assumption)] at N1
    exact ret _ _ F1 N1
theorem apply_turn {s : Shared} (X : (hd.heap_39 w.params).In g) (T : Top p loose mean mg mb g) (B : Below A₀ base outer g) (F : Fr g L s.heap m) (N : News g L s.heap ((a, baObj xs.toArray) :: rest)) (hr : ∀ q ∈ rest, q.1 ≠ a)
    (h1 : m (Str.ofString "buffer") = some (.ref a)) (h2 : m (Str.ofString "pn_offset") = some (.int (off : Int) t1)) (h3 : m (Str.ofString "mask") = some (.bytes M.toArray t2)) (h4 : m (Str.ofString "i") = some (.int (i : Int) t3))
    (hl : xs.length ≤ 300) (hi : off + i < xs.length) (hM : 1 + i < M.length) (hM1 : M.length ≤ 16)
    (ret : ∀ h' tk', Fr g L h' m → News g L h' ((a, baObj (xorAt xs (off + i) (M.getD (1 + i) 0)).toArray) :: rest) → Q .next { s with heap := h', toks := tk' }) :
    wpAny (model prog w) (A.deeper (envA L)) (exec st_97_6_0 (envA L)) Q NoE s := by
  conv in st_97_6_0 => whnf
  have e1 : ((off : Int) + (i : Int)).toNat = off + i := by (first | lia | omega)
  have e2 : ((1 : Int) + (i : Int)).toNat = 1 + i := by (first | lia | omega)
  k_steps
  (rename Fr _ _ _ _ => F1)
  (rename News _ _ _ _ => N1)
  simp only [e1, e2, bx_u, u8b] at N1
  exact ret _ _ F1 N1
theorem apply_loop (X : (hd.heap_39 w.params).In g) (T : Top p loose mean mg mb g) (B : Below A₀ base outer g) (hl : C.length ≤ 200) (hM1 : M.length ≤ 16) (hh : A.handled = none) :
    ∀ (j i : Nat) (m : Str → Option Value) (s : Shared), Fr g L s.heap m → m (Str.ofString "buffer") = some (.ref a) → (∃ t, m (Str.ofString "pn_offset") = some (.int (off : Int) t)) → (∃ t, m (Str.ofString "mask") = some (.bytes M.toArray t)) →
    News g L s.heap (((a, baObj (turnN M off i C).toArray) :: rest) ++ [(it, rIt (i : Int) (j : Int))]) → (∀ q ∈ rest, q.1 ≠ it) → a ≠ it → (∀ q ∈ rest, q.1 ≠ a) → off + i + j ≤ C.length → i + j + 1 ≤ M.length → i + j = k →
    (∀ m' h' tk', Fr g L h' m' → m' (Str.ofString "buffer") = some (.ref a) → News g L h' ((a, baObj (turnN M off k C).toArray) :: rest) → Q .next { s with heap := h', toks := tk' }) →
    LoopC prog w (A.deeper (envA L)) NoE (envA L) (Str.ofString "i") px (.ref it) [st_97_6_0] Q s := by
  intro j
  induction j with
  | zero =>
    intro i m s F h1 h2 h3 N hne hna hr hb hM hk ret
    obtain rfl : i = k := by (first | lia | omega)
    exact range_end (i := i) hh F N (fun q hq => by rcases List.mem_cons.mp hq with rfl | hq; exact hna; exact hne _ hq) fun h' F' N' => ret m h' _ F' h1 N'
  | succ j ih =>
    intro i m s F h1 ⟨_, h2⟩ ⟨_, h3⟩ N hne hna hr hb hM hk ret
    have hne' : ∀ q ∈ ((a, baObj (turnN M off i C).toArray) :: rest), q.1 ≠ it := fun q hq => by
      rcases List.mem_cons.mp hq with rfl | hq
      · exact hna
      · exact hne _ hq
    refine range_turn (i := i) (j := j) F N hne' fun h' t F1 N1 => ?_
    refine stN F1 N1 (fun h2' F2 N2 => ?_) rfl rfl
    refine wpAny_execs_cons (apply_turn X T B (xs := turnN M off i C) (rest := rest ++ [(it, rIt ((i + 1 : Nat) : Int) (j : Int))]) (i := i) F2 N2 ?_ ((if_neg (by decide)).trans h1) ((if_neg (by decide)).trans h2) ((if_neg (by decide)).trans h3) (if_pos rfl) (by rw [turnN_length]; (first | lia | omega)) (by rw [turnN_length]; (first | lia | omega)) (by (first | lia | omega)) hM1 ?_)
    · intro q hq
      rcases List.mem_append.mp hq with hq | hq
      · exact hr q hq
      · rw [List.mem_singleton.mp hq]; exact Ne.symm hna
    intro h3' k3 F3 N3
    refine wpAny_execs_nil ?_
    exact ih (i + 1) _ _ F3 ((if_neg (by decide)).trans h1) ⟨_, (if_neg (by decide)).trans h2⟩ ⟨_, (if_neg (by decide)).trans h3⟩ N3 hne hna hr (by (first | lia | omega)) (by (first | lia | omega)) (by (first | lia | omega)) fun m' h' tk' F' b' N' => ret m' h' tk' F' b' N'
end
set_option maxHeartbeats 4000000 in
theorem apply_spec {prog p : Program} {w : World} {loose : List Str} {mean : ExcName → Option Value} {mg mb : Str → Option Value} {A₀ : Around} {base h₀ : Heap} {outer : List Env} {dp un : Nat} {gd : Option (List Code)} {cn : Str} {cs : Scope} {L ea : Addr} {ccd : Value} {cl : List (Str × Addr)}
    {m : Str → Option Value} {s : Shared} {Q E : Value → Shared → Prop} {x dx : Addr} {n : Nat} {t1 t2 t3 tn tk th tt : Tok} {nm ky hs ts : List UInt8} {wide : Bool}
    (B : Below A₀ base outer h₀) (F : Fr h₀ L s.heap m) (X : (hd.heap_39 w.params).In h₀) (N : News h₀ L s.heap [(x, instObj 114 dx), (dx, dictOf (hpDict w.params t1 t2 t3 tn tk nm ky (handAt wide)) n)]) (T : Top p loose mean mg mb h₀)
    (hkd : cs.kind = .function) (hdp : dp ≤ 360)
    (hx : nm.length ≤ 100) (hy : ky.length ≤ 100) (hh0 : pnN (hs.getD 0 0) < hs.length) (hh : hs.length ≤ 100) (ht : ts.length ≤ 100)
    (ret : ∀ r t h' tk', r = applyL (maskV wide nm ky ((ts.drop (4 - pnN (hs.getD 0 0))).take 16)) (hs ++ ts) (hs.length - pnN (hs.getD 0 0)) (pnN (hs.getD 0 0)) → Kept [] s.heap h' → Q (.bytes r.toArray t) { s with heap := h', toks := tk' }) :
    wpP (model prog w) (ktrTop dp un gd cn cs L ea ccd cl outer) (call (.ref 97) [.ref x, .bytes hs.toArray th, .bytes ts.toArray tt]) Q E s := by
  have hh1 : 0 < hs.length := by (first | lia | omega)
  refine wpP_call ?_
  k_dflt (walk_at "cell_enterP")
  refine cons_A ?_
  k_steps
  (try dsimp only [Then])
  (rename Fr _ _ _ _ => F')
  have hk := pnN_le (hs.getD 0 0)
  rw [show Int.toNat 0 = 0 from rfl, pn_int] at F'
  generalize hkd : pnN (hs.getD 0 0) = k at F' hk hh0 ret
  iterate 3 (refine cons_A ?_; k_steps; (try dsimp only [Then]))
  refine cons_P (assign_P (callName_P ?_))
  k_steps
  refine callWith_TP ?_
  k_steps
  (rename Fr _ _ _ _ => F')
  (rename News _ _ _ _ => N')
  refine ba_K F' N' (by simp only [List.length_append]; (first | lia | omega)) ?_
  intro h' x' F' N' l1
  (try k_lt l1)
  have eS : cutB ts (4 - (k : Int)) (4 - (k : Int) + 16) = (ts.drop (4 - k)).take 16 := by
    unfold cutB
    rw [show (4 - (k : Int) + 16).toNat - (4 - (k : Int)).toNat = 16 by (first | lia | omega), show (4 - (k : Int)).toNat = 4 - k by (first | lia | omega)]
  rw [eS, show ((hs.length : Int) - (k : Int)) = ((hs.length - k : Nat) : Int) by (first | lia | omega)] at F'
  have hml := maskV_length wide nm ky ((ts.drop (4 - k)).take 16)
  generalize hM : maskV wide nm ky ((ts.drop (4 - k)).take 16) = M at F' hml
  k_steps
  (try dsimp only [Then])
  refine wpP_of ?_
  (rename Fr _ _ _ _ => F5)
  (rename News _ _ _ _ => N5)
  refine cons_any (apply_if (xs := hs ++ ts) (by assumption) (by assumption) (by assumption) F5 N5 ?b0 (by walk_at "mp") (by walk_at "mp") (by rw [List.length_append]; (first | lia | omega)) (by rw [List.length_append]; (first | lia | omega)) hml.1 hml.2 ?_)
  case b0 =>
    intro q hq
    simp only [List.mem_cons, List.not_mem_nil, or_false] at hq
    rcases hq with rfl | rfl
    · show x ≠ x'
      k_ne
    · show dx ≠ x'
      k_ne
  intro h' k' F' N'
  refine then_next ?_
  have hC : (headL M (hs ++ ts)).length = hs.length + ts.length := by rw [headL, xorAt, List.length_set, List.length_append]
  generalize hCd : headL M (hs ++ ts) = C at N' hC
  refine cons_any ?_
  refine For_one ?_
  k_steps
  (rename Fr _ _ _ _ => F1)
  (rename News _ _ _ _ => N1)
  (rename IsRange _ _ _ _ _ _ _ _ => R1)
  refine range_start hk R1 F1 N1 fun h2 it F2 N2 hne => ?_
  refine apply_loop (k := k) (C := C) (M := M) (off := hs.length - k) (a := x') (by assumption) (by assumption) (by assumption) (by (first | lia | omega)) (by (first | lia | omega)) rfl k 0 _ _ F2 ?b1 ?b2 ?b3 N2 (fun q hq => hne q (.tail _ hq)) (hne _ (.head _)) ?b4 (by (first | lia | omega)) (by (first | lia | omega)) (by (first | lia | omega)) ?_
  case b1 => walk_at "mp"
  case b2 => exact ⟨_, by walk_at "mp"⟩
  case b3 => exact ⟨_, by walk_at "mp"⟩
  case b4 =>
    intro q hq
    simp only [List.mem_cons, List.not_mem_nil, or_false] at hq
    rcases hq with rfl | rfl
    · show x ≠ x'
      k_ne
    · show dx ≠ x'
      k_ne
  intro m3 h3 k3 F3 b3 N3
  have hR := turnN_length M (hs.length - k) k C
  generalize hRd : turnN M (hs.length - k) k C = R at N3 hR
  refine then_next ?_
  k_steps
  (rename News _ _ _ _ => N4)
  (rename Kept _ _ _ => K4)
  refine ret _ _ _ _ ?_ (kept_all K4 rfl N N4 (sub_two (by k_mem) (by k_mem)))
  rw [hM, ← hRd, ← hCd]
  rfl
end

theorem lines_C7 : True := by
  w_top off
  k_with_none
  (k_with "sz" => (first | (first | lia | omega) | (simp only [List.length_append, List.length_cons, List.length_nil, List.length_take, List.length_drop, List.length_map, List.length_set, List.length_replicate, toB_length, cutB_length]; (first | lia | omega))))
  (k_with "dp" => ((try simp only [depth_mark, depth_under_make, depth_under_kw, depth_in1, depth_deeper, depth_caller]); (try dsimp only [ktrTop]); (first | lia | omega)))
  (k_with "k_room" => ((try simp only [depth_mark, depth_under_make, depth_under_kw, depth_in1, depth_deeper, depth_caller]); simp only [recursionLimit]; (first | lia | omega)))
  (k_with "cell_enter" => (refine' enterF ?k1 ?k2 ?k3 ?k4 ?k5 ?kA ?kF ?kK ?k6 ?k7 ?k8 ?k9 ?kB ?_ ?c2 ?c3 ?c4 ?c5; (case kA => exact rfl); (case kF => exact rfl); (case kK => assumption); (case k1 => k_asm); (case k2 => k_asm); (case k3 => k_asm); (case k4 => k_asm); (case k5 => k_asm); (case k6 => k_is); (case k7 => k_is); (case k8 => ktr_room); (case k9 => exact BindsTo.of_eq rfl); (case c5 => decide); (case kB => exact locs rfl); (case c2 => exact rfl); (case c3 => exact rfl); (case c4 => exact rfl); k_whole; intro g' L' h' HG' F' N' B' X' T'; (try dsimp only)))
  (k_with "cell_enterP" => (refine' enterP ?k1 ?k2 ?k3 ?k4 ?k5 ?kA ?kF ?kK ?k6 ?k7 ?k8 ?k9 ?kB ?_ ?c2 ?c3 ?c4 ?c5; (case kA => exact rfl); (case kF => exact rfl); (case kK => assumption); (case k1 => k_asm); (case k2 => k_asm); (case k3 => k_asm); (case k4 => k_asm); (case k5 => k_asm); (case k6 => k_is); (case k7 => k_is); (case k8 => ktr_room); (case k9 => exact BindsTo.of_eq rfl); (case c5 => decide); (case kB => exact locs rfl); (case c2 => exact rfl); (case c3 => exact rfl); (case c4 => exact rfl); k_whole; intro g' L' h' HG' F' N' B' X' T'; (try dsimp only)))
  (k_with "binaryOp Add bytes bytes" => (k_here; (with_reducible show wpAny _ _ (binaryOp Operator.Add (Value.bytes (List.toArray _) _) (Value.bytes (List.toArray _) _)) _ _ _); k_dflt (refine' br_add ?z1 ?z2 ?_; (case z1 => walk_at "sz"); (case z2 => walk_at "sz"); k_whole); intro _ _))
  (k_with "call builtin:len" => (k_here; (with_reducible show wpAny _ _ (call (Value.builtin "len") [Value.bytes (List.toArray _) _]) _ _ _); k_dflt (refine' br_len ?z1 ?_; (case z1 => walk_at "sz"); k_whole); intro _ _))
  (k_with "subscriptTail" => (k_here; (with_reducible show wpAny _ _ (subscriptTail _ _ (Value.bytes (List.toArray _) _) (Value.int _ _)) _ _ _); k_dflt (refine' br_item ?z1 ?z2 ?z3 ?_; (case z1 => walk_at "sz"); (case z2 => walk_at "sz"); (case z3 => walk_at "sz"); k_whole); intro _ _))
  (k_with "subscriptTail" => (k_here; (with_reducible show wpAny _ _ (subscriptTail _ (Expr.Slice (some _) (some _) none _) (Value.bytes (List.toArray _) _) (Value.ref _)) _ _ _); (with_reducible rename Fr _ _ _ _ => F'); (with_reducible rename News _ _ _ _ => N'); k_dflt (refine' br_cut (s := ⟨_, _, _, _, _⟩) F' N' ?z1 ?z2 ?z3 ?_; (case z1 => walk_at "sz"); (case z2 => walk_at "sz"); (case z3 => walk_at "sz"); k_whole); intro h' _ _ F' N'; (try k_sweep)))
  (k_with "subscriptTail" => (k_here; (with_reducible show wpAny _ _ (subscriptTail _ (Expr.Slice (some _) none none _) (Value.bytes (List.toArray _) _) (Value.ref _)) _ _ _); (with_reducible rename Fr _ _ _ _ => F'); (with_reducible rename News _ _ _ _ => N'); k_dflt (refine' br_cutFrom (s := ⟨_, _, _, _, _⟩) F' N' ?z1 ?z2 ?_; (case z1 => walk_at "sz"); (case z2 => walk_at "sz"); k_whole); intro h' _ _ F' N'; (try k_sweep)))
  (k_with "subscriptTail" => (k_here; (with_reducible show wpAny _ _ (subscriptTail _ (Expr.Slice none (some _) none _) (Value.bytes (List.toArray _) _) (Value.ref _)) _ _ _); (with_reducible rename Fr _ _ _ _ => F'); (with_reducible rename News _ _ _ _ => N'); k_dflt (refine' br_cutTo (s := ⟨_, _, _, _, _⟩) F' N' ?z1 ?z2 ?_; (case z1 => walk_at "sz"); (case z2 => walk_at "sz"); k_whole); intro h' _ _ F' N'; (try k_sweep)))
  (k_with "subscriptTail" => (k_here; (with_reducible show wpAny _ _ (subscriptTail _ _ (Value.ref _) (Value.int _ _)) _ _ _); k_dflt (refine' bo_tail ?g ?z1 ?z2 ?z3 ?_; (case g => exact News.get (by k_asm) (by k_mem)); (case z1 => walk_at "sz"); (case z2 => walk_at "sz"); (case z3 => walk_at "sz"); k_whole); intro _ _))
  (k_with "subscriptTail" => (k_here; (with_reducible show wpAny _ _ (subscriptTail _ (Expr.Slice none (some _) none _) (Value.ref _) (Value.ref _)) _ _ _); (with_reducible rename Fr _ _ _ _ => F'); (with_reducible rename News _ _ _ _ => N'); k_dflt (refine' bo_cutTo (s := ⟨_, _, _, _, _⟩) F' N' ?m ?z1 ?z2 ?_; (case m => k_mem); (case z1 => walk_at "sz"); (case z2 => walk_at "sz"); k_whole); intro h' x' F' N' l1; (try k_lt l1); (try k_sweep)))
  (k_with "getItem ref int" => (k_here; k_dflt (refine' bo_getItem ?g ?z1 ?z2 ?z3 ?_; (case g => exact News.get (by k_asm) (by k_mem)); (case z1 => walk_at "sz"); (case z2 => walk_at "sz"); (case z3 => walk_at "sz"); k_whole); intro _ _))
  (k_with "setItem ref int" => (k_here; (with_reducible show wpAny _ _ (setItem (Value.ref _) (Value.int _ _) (Value.int _ _)) _ _ _); k_dflt (refine' bo_setItemK ?F ?N ?U ?z1 ?z2 ?z3 ?z4 ?z5 ?_; (case F => k_asm); (case N => k_asm); (case U => k_upd); (case z1 => walk_at "sz"); (case z2 => walk_at "sz"); (case z3 => walk_at "sz"); (case z4 => first | (with_reducible exact bx150 _ _) | (with_reducible exact bx310 _ _) | (with_reducible exact bxu0 _ _) | walk_at "sz"); (case z5 => first | (with_reducible exact bx151 _ _) | (with_reducible exact bx311 _ _) | (with_reducible exact bxu1 _ _) | walk_at "sz"); k_whole); intro h' F' N'; (try k_sweep)))
  (k_with "compareOp Eq bytes bytes" => (k_here; (with_reducible show wpAny _ _ (compareOp CmpOp.Eq (Value.bytes (List.toArray _) _) (Value.bytes (List.toArray _) _)) _ _ _); k_dflt (refine br_eq ?_)))
  (k_with "compareOp NotEq bytes bytes" => (k_here; (with_reducible show wpAny _ _ (compareOp CmpOp.NotEq (Value.bytes (List.toArray _) _) (Value.bytes (List.toArray _) _)) _ _ _); k_dflt (refine br_ne ?_)))
  (k_with "call builtin:int.to_bytes" => (k_here; (with_reducible show wpAny _ _ (call (Value.builtin "int.to_bytes") [Value.int _ _, Value.int _ _, Value.str _ _]) _ _ _); k_dflt (refine' br_to ?z1 ?z2 ?z3 ?z4 ?_; (case z1 => walk_at "sz"); (case z2 => walk_at "sz"); (case z3 => first | assumption | walk_at "sz" | exact Int.fmod_nonneg_of_pos _ (by decide)); (case z4 => first | assumption | walk_at "sz" | exact Int.lt_of_lt_of_le (Int.fmod_lt_of_pos _ (by decide)) (by decide)); k_whole); intro _ _))
  (k_with "call ref" => (k_here; (with_reducible show wpAny _ _ (call (Value.ref _) [Value.bytes (List.toArray _) _, Value.str _ _]) _ _ _); kfb_any; k_dflt (refine br_from (by k_asm) (by k_mem) ?z1 ?_; (case z1 => walk_at "sz")); intro _ _))
  (k_with "call type:bytes" => (k_here; (with_reducible show wpAny _ _ (call (Value.type "bytes") [Value.ref _]) _ _ _); k_dflt (refine' bo_bytes ?g ?z1 ?_; (case g => exact News.get (by k_asm) (by k_mem)); (case z1 => walk_at "sz"); k_whole); intro _ _))
  (k_with "pyIter bytes" => (k_here; (with_reducible show wpAny _ _ (pyIter (Value.bytes (List.toArray _) _)) (CompPost _ _ _ _ _ _ _ _ _) _ _); k_dflt (refine' comp_row ?hh ?F ?N ?hk ?hl ?hd ?hz ?_; (case hh => exact rfl); (case F => k_asm); (case N => k_asm); (case hk => exact rfl); (case hl => intro _; exact rfl); (case hd => decide); (case hz => walk_at "sz"); k_whole); intro D' ys' h' tk' F' N' lI' iI'; (try k_sweep)))
  (k_with "call type:bytes" => (k_here; (with_reducible show wpAny _ _ (call (Value.type "bytes") [Value.ref _]) _ _ _); (with_reducible rename IntsAre _ (rowOf _) => rI); k_dflt (refine' row_bytes ?F ?N ?hh ?hl rI ?hz ?_; (case F => k_asm); (case N => k_asm); (case hh => exact rfl); (case hl => assumption); (case hz => walk_at "sz"); k_whole); intro h' _ _ F' N'; (try k_sweep)))
  (k_with "call ref" => (k_here; k_dflt ((try simp only [List.cons_append, List.nil_append]); (with_reducible show wpAny _ _ (call (Value.ref 111) [Value.ref _, Value.bytes _ _]) _ _ _); k_dflt (refine' mask_spec ?B ?F ?X ?N ?T ?kd ?dp ?z1 ?z2 ?z3 ?_; (case F => k_asm); (case B => k_asm); (case X => k_asm); (case T => k_asm); (case N => exact news_two (by k_asm) (by k_mem) (by k_mem)); (case kd => first | exact rfl | assumption); (case dp => walk_at "dp"); (case z1 => walk_at "sz"); (case z2 => walk_at "sz"); (case z3 => walk_at "sz"); k_whole); intro _ _ _ mkK; k_dflt (refine' kept_step0 mkK ?F ?N ?_; (case F => k_asm); (case N => k_asm)); clear mkK; intro F' N'; (try k_sweep))))
  (k_with "eval Name" => (k_here; (with_reducible show wpAny _ _ (eval (Expr.Name _ _) _) _ _ _); k_dflt (refine' PyProof.Rows.ld ?k1 ?k2 ?_; (case k1 => k_asm); (case k2 => assumption); k_whole)))
  first | walk1 | trivial
section
theorem lines_C7_1 : True := by
  (k_with "mp" => first | exact if_pos rfl | (refine (if_neg (by decide)).trans ?_; walk_at "mp") | exact rfl)
  trivial
def truncN (M : List UInt8) (off : Nat) (c : List UInt8) : Nat → Int
  | 0 => 0
  | k + 1 => Builtin.bitOr (((turnN M off (k + 1) c).getD (off + k) 0).toNat : Int) (truncN M off c k * 2 ^ (Int.toNat 8))
abbrev tupO (vs : List Value) : Obj := { cls := .type "tuple", data := .seq vs.toArray }
/-! ## the loop of remove -/
theorem truncN_small (M : List UInt8) (off : Nat) (C : List UInt8) : ∀ i, Small (8 * i) (truncN M off C i)
  | 0 => sm0
  | i + 1 => sm_step _ (truncN_small M off C i)
theorem lines_C7_2 : True := by
  (k_with "binaryOp LShift int int" => (k_here; k_dflt (refine' lshift_int_small ?z1 ?z2 ?z3 ?_; (case z1 => decide); (case z2 => decide); (case z3 => assumption); k_whole)))
  trivial
section
variable {prog p : Program} {w : World} {loose : List Str} {mean : ExcName → Option Value} {mg mb : Str → Option Value} {A A₀ : Around} {base g : Heap} {outer : List Env} {L a it : Addr} {m : Str → Option Value} {rest : List (Addr × Obj)} {M C xs : List UInt8} {o v : Int} {i k : Nat} {t1 t2 t3 t4 : Tok} {px : Pos} {Q : Flow → Shared → Prop}
theorem remove_if {s : Shared} (X : (hd.heap_39 w.params).In g) (T : Top p loose mean mg mb g) (B : Below A₀ base outer g) (F : Fr g L s.heap m) (N : News g L s.heap ((a, baObj xs.toArray) :: rest)) (hr : ∀ q ∈ rest, q.1 ≠ a)
    (h1 : m (Str.ofString "buffer") = some (.ref a)) (h3 : m (Str.ofString "mask") = some (.bytes M.toArray t2)) (hl : xs.length ≤ 300) (h0 : 0 < xs.length) (hM : 5 ≤ M.length) (hM1 : M.length ≤ 16)
    (ret : ∀ h' tk', Fr g L h' m → News g L h' ((a, baObj (headL M xs).toArray) :: rest) → Q .next { s with heap := h', toks := tk' }) :
    wpAny (model prog w) (A.deeper (envR L)) (exec st_104_4 (envR L)) Q NoE s := by
  conv in st_104_4 => whnf
  k_steps
  all_goals
    (rename Fr _ _ _ _ => F1)
    (rename News _ _ _ _ => N1)
    have e0 : Int.toNat 0 = 0 := rfl
    simp only [e0, ba_15, ba_31, bx_u, u8b] at N1
    first | rw [head_hi (by assumption)] at N1 | rw [head_lo (by assumption)] at N1
    exact ret _ _ F1 N1
theorem remove_turn0 {s : Shared} (X : (hd.heap_39 w.params).In g) (T : Top p loose mean mg mb g) (B : Below A₀ base outer g) (F : Fr g L s.heap m) (N : News g L s.heap ((a, baObj xs.toArray) :: rest)) (hr : ∀ q ∈ rest, q.1 ≠ a)
    (h1 : m (Str.ofString "buffer") = some (.ref a)) (h2 : m (Str.ofString "pn_offset") = some (.int o t1)) (h3 : m (Str.ofString "mask") = some (.bytes M.toArray t2)) (h4 : m (Str.ofString "i") = some (.int (i : Int) t3))
    (hl : xs.length ≤ 300) (ho : 0 ≤ o) (hi : o.toNat + i < xs.length) (hM : 1 + i < M.length) (hM1 : M.length ≤ 16)
    (ret : ∀ h' tk', Fr g L h' m → News g L h' ((a, baObj (xorAt xs (o.toNat + i) (M.getD (1 + i) 0)).toArray) :: rest) → Q .next { s with heap := h', toks := tk' }) :
    wpAny (model prog w) (A.deeper (envR L)) (exec st_104_7_0 (envR L)) Q NoE s := by
  conv in st_104_7_0 => whnf
  have e1 : (o + (i : Int)).toNat = o.toNat + i := by (first | lia | omega)
  have e2 : ((1 : Int) + (i : Int)).toNat = 1 + i := by (first | lia | omega)
  k_steps
  (rename Fr _ _ _ _ => F1)
  (rename News _ _ _ _ => N1)
  simp only [e1, e2, bx_u, u8b] at N1
  exact ret _ _ F1 N1
theorem remove_turn1 {s : Shared} (X : (hd.heap_39 w.params).In g) (T : Top p loose mean mg mb g) (B : Below A₀ base outer g) (F : Fr g L s.heap m) (N : News g L s.heap ((a, baObj xs.toArray) :: rest)) (hr : ∀ q ∈ rest, q.1 ≠ a)
    (h1 : m (Str.ofString "buffer") = some (.ref a)) (h2 : m (Str.ofString "pn_offset") = some (.int o t1)) (h3 : m (Str.ofString "pn_truncated") = some (.int v t2)) (h4 : m (Str.ofString "i") = some (.int (i : Int) t3))
    (hl : xs.length ≤ 300) (ho : 0 ≤ o) (hi : o.toNat + i < xs.length) (hv : v.natAbs < 2 ^ 64)
    (ret : ∀ h' tk' t, Fr g L h' (fun y => if y = Str.ofString "pn_truncated" then some (.int (Builtin.bitOr ((xs.getD (o.toNat + i) 0).toNat : Int) (v * 2 ^ (Int.toNat 8))) t) else m y) → News g L h' ((a, baObj xs.toArray) :: rest) → Q .next { s with heap := h', toks := tk' }) :
    wpAny (model prog w) (A.deeper (envR L)) (exec st_104_7_1 (envR L)) Q NoE s := by
  conv in st_104_7_1 => whnf
  have e1 : (o + (i : Int)).toNat = o.toNat + i := by (first | lia | omega)
  k_steps
  (rename Fr _ _ _ _ => F1)
  (rename News _ _ _ _ => N1)
  rw [e1] at F1
  exact ret _ _ _ F1 N1
theorem remove_loop (X : (hd.heap_39 w.params).In g) (T : Top p loose mean mg mb g) (B : Below A₀ base outer g) (hl : C.length ≤ 200) (hM1 : M.length ≤ 16) (hh : A.handled = none) (ho : 0 ≤ o) (hk4 : k ≤ 4) :
    ∀ (j i : Nat) (m : Str → Option Value) (s : Shared), Fr g L s.heap m → m (Str.ofString "buffer") = some (.ref a) → (∃ t, m (Str.ofString "pn_offset") = some (.int o t)) → (∃ t, m (Str.ofString "mask") = some (.bytes M.toArray t)) →
    (∃ t, m (Str.ofString "pn_length") = some (.int (k : Int) t)) → (∃ t, m (Str.ofString "pn_truncated") = some (.int (truncN M o.toNat C i) t)) →
    News g L s.heap (((a, baObj (turnN M o.toNat i C).toArray) :: rest) ++ [(it, rIt (i : Int) (j : Int))]) → (∀ q ∈ rest, q.1 ≠ it) → a ≠ it → (∀ q ∈ rest, q.1 ≠ a) → o.toNat + i + j ≤ C.length → i + j + 1 ≤ M.length → i + j = k →
    (∀ m' h' tk', Fr g L h' m' → m' (Str.ofString "buffer") = some (.ref a) → (∃ t, m' (Str.ofString "pn_offset") = some (.int o t)) → (∃ t, m' (Str.ofString "pn_length") = some (.int (k : Int) t)) → (∃ t, m' (Str.ofString "pn_truncated") = some (.int (truncN M o.toNat C k) t)) →
      News g L h' ((a, baObj (turnN M o.toNat k C).toArray) :: rest) → Q .next { s with heap := h', toks := tk' }) →
    LoopC prog w (A.deeper (envR L)) NoE (envR L) (Str.ofString "i") px (.ref it) [st_104_7_0, st_104_7_1] Q s := by
  intro j
  induction j with
  | zero =>
    intro i m s F h1 h2 h3 h4 h5 N hne hna hr hb hM hk ret
    obtain rfl : i = k := by (first | lia | omega)
    exact range_end (i := i) hh F N (fun q hq => by rcases List.mem_cons.mp hq with rfl | hq; exact hna; exact hne _ hq) fun h' F' N' => ret m h' _ F' h1 h2 h4 h5 N'
  | succ j ih =>
    intro i m s F h1 ⟨_, h2⟩ ⟨_, h3⟩ ⟨_, h4⟩ ⟨_, h5⟩ N hne hna hr hb hM hk ret
    have hne' : ∀ q ∈ ((a, baObj (turnN M o.toNat i C).toArray) :: rest), q.1 ≠ it := fun q hq => by
      rcases List.mem_cons.mp hq with rfl | hq
      · exact hna
      · exact hne _ hq
    have hr' : ∀ q ∈ rest ++ [(it, rIt ((i + 1 : Nat) : Int) (j : Int))], q.1 ≠ a := fun q hq => by
      rcases List.mem_append.mp hq with hq | hq
      · exact hr q hq
      · rw [List.mem_singleton.mp hq]; exact Ne.symm hna
    have hsm := sm_abs (truncN_small M o.toNat C i) (by (first | lia | omega))
    refine range_turn (i := i) (j := j) F N hne' fun h' t F1 N1 => ?_
    refine stN F1 N1 (fun h2' F2 N2 => ?_) rfl rfl
    refine wpAny_execs_cons (remove_turn0 X T B (xs := turnN M o.toNat i C) (rest := rest ++ [(it, rIt ((i + 1 : Nat) : Int) (j : Int))]) (i := i) F2 N2 hr' ((if_neg (by decide)).trans h1) ((if_neg (by decide)).trans h2) ((if_neg (by decide)).trans h3) (if_pos rfl) (by rw [turnN_length]; (first | lia | omega)) ho (by rw [turnN_length]; (first | lia | omega)) (by (first | lia | omega)) hM1 ?_)
    intro h3' k3 F3 N3
    refine wpAny_execs_cons (remove_turn1 X T B (xs := turnN M o.toNat (i + 1) C) (rest := rest ++ [(it, rIt ((i + 1 : Nat) : Int) (j : Int))]) (i := i) F3 N3 hr' ((if_neg (by decide)).trans h1) ((if_neg (by decide)).trans h2) ((if_neg (by decide)).trans h5) (if_pos rfl) (by rw [turnN_length]; (first | lia | omega)) ho (by rw [turnN_length]; (first | lia | omega)) hsm ?_)
    intro h4' k4 t4 F4 N4
    refine wpAny_execs_nil ?_
    exact ih (i + 1) _ _ F4 ((if_neg (by decide)).trans ((if_neg (by decide)).trans h1)) ⟨_, (if_neg (by decide)).trans ((if_neg (by decide)).trans h2)⟩ ⟨_, (if_neg (by decide)).trans ((if_neg (by decide)).trans h3)⟩ ⟨_, (if_neg (by decide)).trans ((if_neg (by decide)).trans h4)⟩ ⟨_, if_pos rfl⟩ N4 hne hna hr (by (first | lia | omega)) (by (first | lia | omega)) (by (first | lia | omega)) fun m' h' tk' F' b1 b2 b3 b4 N' => ret m' h' tk' F' b1 b2 b3 b4 N'
end
set_option maxHeartbeats 8000000 in
theorem remove_spec {prog p : Program} {w : World} {loose : List Str} {mean : ExcName → Option Value} {mg mb : Str → Option Value} {A₀ : Around} {base h₀ : Heap} {outer : List Env} {dp un : Nat} {gd : Option (List Code)} {cn : Str} {cs : Scope} {L ea : Addr} {ccd : Value} {cl : List (Str × Addr)}
    {m : Str → Option Value} {s : Shared} {Q E : Value → Shared → Prop} {x dx : Addr} {n : Nat} {t1 t2 t3 tn tk th tt : Tok} {nm ky xs : List UInt8} {o : Int} {wide : Bool}
    (B : Below A₀ base outer h₀) (F : Fr h₀ L s.heap m) (X : (hd.heap_39 w.params).In h₀) (N : News h₀ L s.heap [(x, instObj 114 dx), (dx, dictOf (hpDict w.params t1 t2 t3 tn tk nm ky (handAt wide)) n)]) (T : Top p loose mean mg mb h₀)
    (hkd : cs.kind = .function) (hdp : dp ≤ 360)
    (hx : nm.length ≤ 100) (hy : ky.length ≤ 100) (hl : xs.length ≤ 200) (ho0 : 1 ≤ o) (ho1 : o + 20 ≤ xs.length)
    (ret : ∀ M c k r v t t' D h' tk', M = maskV wide nm ky (cutB xs (o + 4) (o + 4 + 16)) → c = headL M xs → k = pnN (c.getD 0 0) → r = turnN M o.toNat k c → v = truncN M o.toNat c k → Kept [] s.heap h' →
      News h₀ L h' [(D, tupO [.bytes (r.take (o.toNat + k)).toArray t, .int v t'])] → Q (.ref D) { s with heap := h', toks := tk' }) :
    wpP (model prog w) (ktrTop dp un gd cn cs L ea ccd cl outer) (call (.ref 104) [.ref x, .bytes xs.toArray th, .int o tt]) Q E s := by
  have hh1 : 0 < xs.length := by (first | lia | omega)
  refine wpP_call ?_
  k_dflt (walk_at "cell_enterP")
  refine cons_A ?_
  k_steps
  (try dsimp only [Then])
  refine cons_A ?_
  k_steps
  (try dsimp only [Then])
  refine cons_A ?_
  k_steps
  (try dsimp only [Then])
  refine cons_P (assign_P (callName_P ?_))
  k_steps
  refine callWith_TP ?_
  k_steps
  (rename Fr _ _ _ _ => F')
  (rename News _ _ _ _ => N')
  refine ba_K F' N' (by (first | lia | omega)) ?_
  intro h' x' F' N' l1
  (try k_lt l1)
  have hml := maskV_length wide nm ky (cutB xs (o + 4) (o + 4 + 16))
  generalize hM : maskV wide nm ky (cutB xs (o + 4) (o + 4 + 16)) = M at F' hml
  k_steps
  (try dsimp only [Then])
  refine wpP_of ?_
  (rename Fr _ _ _ _ => F5)
  (rename News _ _ _ _ => N5)
  refine cons_any (remove_if (xs := xs) (by assumption) (by assumption) (by assumption) F5 N5 ?b0 (by walk_at "mp") (by walk_at "mp") (by (first | lia | omega)) (by (first | lia | omega)) hml.1 hml.2 ?_)
  case b0 =>
    intro q hq
    simp only [List.mem_cons, List.not_mem_nil, or_false] at hq
    rcases hq with rfl | rfl
    · show x ≠ x'
      k_ne
    · show dx ≠ x'
      k_ne
  intro h' k' F' N'
  refine then_next ?_
  have hC : (headL M xs).length = xs.length := List.length_set ..
  generalize hCd : headL M xs = C at N' hC
  refine cons_any ?_
  k_steps
  (try dsimp only [Then])
  (rename Fr _ _ _ _ => F')
  have hk := pnN_le (C.getD 0 0)
  rw [show Int.toNat 0 = 0 from rfl, pn_int] at F'
  generalize hkd : pnN (C.getD 0 0) = k at F' hk
  refine cons_any ?_
  k_steps
  (try dsimp only [Then])
  refine cons_any ?_
  refine For_one ?_
  k_steps
  (rename Fr _ _ _ _ => F1)
  (rename News _ _ _ _ => N1)
  (rename IsRange _ _ _ _ _ _ _ _ => R1)
  refine range_start hk R1 F1 N1 fun h2 it F2 N2 hne => ?_
  refine remove_loop (k := k) (C := C) (M := M) (o := o) (a := x') (by assumption) (by assumption) (by assumption) (by (first | lia | omega)) (by (first | lia | omega)) rfl (by (first | lia | omega)) hk.2 k 0 _ _ F2 ?b1 ?b2 ?b3 ?b5 ?b6 N2 (fun q hq => hne q (.tail _ hq)) (hne _ (.head _)) ?b4 (by (first | lia | omega)) (by (first | lia | omega)) (by (first | lia | omega)) ?_
  case b1 => walk_at "mp"
  case b2 => exact ⟨_, by walk_at "mp"⟩
  case b3 => exact ⟨_, by walk_at "mp"⟩
  case b5 => exact ⟨_, by walk_at "mp"⟩
  case b6 => exact ⟨_, by walk_at "mp"⟩
  case b4 =>
    intro q hq
    simp only [List.mem_cons, List.not_mem_nil, or_false] at hq
    rcases hq with rfl | rfl
    · show x ≠ x'
      k_ne
    · show dx ≠ x'
      k_ne
  intro m3 h3 k3 F3 b1 ⟨_, b2⟩ ⟨_, b3⟩ ⟨_, b4⟩ N3
  have hR := turnN_length M o.toNat k C
  generalize hRd : turnN M o.toNat k C = R at N3 hR
  generalize hVd : truncN M o.toNat C k = V at b4
  refine then_next ?_
  k_steps
  (rename News _ _ _ _ => kN')
  (rename Kept _ _ _ => K')
  have e3 : (o + (k : Int)).toNat = o.toNat + k := by (first | lia | omega)
  simp only [e3] at kN'
  exact ret M C k R V _ _ _ _ _ hM.symm hCd.symm hkd.symm hRd.symm hVd.symm (kept_all K' rfl N kN' (sub_two (by k_mem) (by k_mem))) (news_one kN' (.head _))
end

theorem lines_C8 : True := by
  w_top off
  k_with_none
  (k_with "sz" => (first | (first | lia | omega) | (simp only [List.length_append, List.length_cons, List.length_nil, List.length_take, List.length_drop, List.length_map, List.length_set, List.length_replicate, toB_length, cutB_length]; (first | lia | omega))))
  (k_with "dp" => ((try simp only [depth_mark, depth_under_make, depth_under_kw, depth_in1, depth_deeper, depth_caller]); (try dsimp only [ktrTop]); (first | lia | omega)))
  (k_with "k_room" => ((try simp only [depth_mark, depth_under_make, depth_under_kw, depth_in1, depth_deeper, depth_caller]); simp only [recursionLimit]; (first | lia | omega)))
  (k_with "cell_enter" => (refine' enterF ?k1 ?k2 ?k3 ?k4 ?k5 ?kA ?kF ?kK ?k6 ?k7 ?k8 ?k9 ?kB ?_ ?c2 ?c3 ?c4 ?c5; (case kA => exact rfl); (case kF => exact rfl); (case kK => assumption); (case k1 => k_asm); (case k2 => k_asm); (case k3 => k_asm); (case k4 => k_asm); (case k5 => k_asm); (case k6 => k_is); (case k7 => k_is); (case k8 => ktr_room); (case k9 => exact BindsTo.of_eq rfl); (case c5 => decide); (case kB => exact locs rfl); (case c2 => exact rfl); (case c3 => exact rfl); (case c4 => exact rfl); k_whole; intro g' L' h' HG' F' N' B' X' T'; (try dsimp only)))
  (k_with "cell_enterP" => (refine' enterP ?k1 ?k2 ?k3 ?k4 ?k5 ?kA ?kF ?kK ?k6 ?k7 ?k8 ?k9 ?kB ?_ ?c2 ?c3 ?c4 ?c5; (case kA => exact rfl); (case kF => exact rfl); (case kK => assumption); (case k1 => k_asm); (case k2 => k_asm); (case k3 => k_asm); (case k4 => k_asm); (case k5 => k_asm); (case k6 => k_is); (case k7 => k_is); (case k8 => ktr_room); (case k9 => exact BindsTo.of_eq rfl); (case c5 => decide); (case kB => exact locs rfl); (case c2 => exact rfl); (case c3 => exact rfl); (case c4 => exact rfl); k_whole; intro g' L' h' HG' F' N' B' X' T'; (try dsimp only)))
  (k_with "binaryOp Add bytes bytes" => (k_here; (with_reducible show wpAny _ _ (binaryOp Operator.Add (Value.bytes (List.toArray _) _) (Value.bytes (List.toArray _) _)) _ _ _); k_dflt (refine' br_add ?z1 ?z2 ?_; (case z1 => walk_at "sz"); (case z2 => walk_at "sz"); k_whole); intro _ _))
  (k_with "call builtin:len" => (k_here; (with_reducible show wpAny _ _ (call (Value.builtin "len") [Value.bytes (List.toArray _) _]) _ _ _); k_dflt (refine' br_len ?z1 ?_; (case z1 => walk_at "sz"); k_whole); intro _ _))
  (k_with "subscriptTail" => (k_here; (with_reducible show wpAny _ _ (subscriptTail _ _ (Value.bytes (List.toArray _) _) (Value.int _ _)) _ _ _); k_dflt (refine' br_item ?z1 ?z2 ?z3 ?_; (case z1 => walk_at "sz"); (case z2 => walk_at "sz"); (case z3 => walk_at "sz"); k_whole); intro _ _))
  (k_with "subscriptTail" => (k_here; (with_reducible show wpAny _ _ (subscriptTail _ (Expr.Slice (some _) (some _) none _) (Value.bytes (List.toArray _) _) (Value.ref _)) _ _ _); (with_reducible rename Fr _ _ _ _ => F'); (with_reducible rename News _ _ _ _ => N'); k_dflt (refine' br_cut (s := ⟨_, _, _, _, _⟩) F' N' ?z1 ?z2 ?z3 ?_; (case z1 => walk_at "sz"); (case z2 => walk_at "sz"); (case z3 => walk_at "sz"); k_whole); intro h' _ _ F' N'; (try k_sweep)))
  (k_with "subscriptTail" => (k_here; (with_reducible show wpAny _ _ (subscriptTail _ (Expr.Slice (some _) none none _) (Value.bytes (List.toArray _) _) (Value.ref _)) _ _ _); (with_reducible rename Fr _ _ _ _ => F'); (with_reducible rename News _ _ _ _ => N'); k_dflt (refine' br_cutFrom (s := ⟨_, _, _, _, _⟩) F' N' ?z1 ?z2 ?_; (case z1 => walk_at "sz"); (case z2 => walk_at "sz"); k_whole); intro h' _ _ F' N'; (try k_sweep)))
  (k_with "subscriptTail" => (k_here; (with_reducible show wpAny _ _ (subscriptTail _ (Expr.Slice none (some _) none _) (Value.bytes (List.toArray _) _) (Value.ref _)) _ _ _); (with_reducible rename Fr _ _ _ _ => F'); (with_reducible rename News _ _ _ _ => N'); k_dflt (refine' br_cutTo (s := ⟨_, _, _, _, _⟩) F' N' ?z1 ?z2 ?_; (case z1 => walk_at "sz"); (case z2 => walk_at "sz"); k_whole); intro h' _ _ F' N'; (try k_sweep)))
  (k_with "subscriptTail" => (k_here; (with_reducible show wpAny _ _ (subscriptTail _ _ (Value.ref _) (Value.int _ _)) _ _ _); k_dflt (refine' bo_tail ?g ?z1 ?z2 ?z3 ?_; (case g => exact News.get (by k_asm) (by k_mem)); (case z1 => walk_at "sz"); (case z2 => walk_at "sz"); (case z3 => walk_at "sz"); k_whole); intro _ _))
  (k_with "subscriptTail" => (k_here; (with_reducible show wpAny _ _ (subscriptTail _ (Expr.Slice none (some _) none _) (Value.ref _) (Value.ref _)) _ _ _); (with_reducible rename Fr _ _ _ _ => F'); (with_reducible rename News _ _ _ _ => N'); k_dflt (refine' bo_cutTo (s := ⟨_, _, _, _, _⟩) F' N' ?m ?z1 ?z2 ?_; (case m => k_mem); (case z1 => walk_at "sz"); (case z2 => walk_at "sz"); k_whole); intro h' x' F' N' l1; (try k_lt l1); (try k_sweep)))
  (k_with "getItem ref int" => (k_here; k_dflt (refine' bo_getItem ?g ?z1 ?z2 ?z3 ?_; (case g => exact News.get (by k_asm) (by k_mem)); (case z1 => walk_at "sz"); (case z2 => walk_at "sz"); (case z3 => walk_at "sz"); k_whole); intro _ _))
  (k_with "setItem ref int" => (k_here; (with_reducible show wpAny _ _ (setItem (Value.ref _) (Value.int _ _) (Value.int _ _)) _ _ _); k_dflt (refine' bo_setItemK ?F ?N ?U ?z1 ?z2 ?z3 ?z4 ?z5 ?_; (case F => k_asm); (case N => k_asm); (case U => k_upd); (case z1 => walk_at "sz"); (case z2 => walk_at "sz"); (case z3 => walk_at "sz"); (case z4 => first | (with_reducible exact bx150 _ _) | (with_reducible exact bx310 _ _) | (with_reducible exact bxu0 _ _) | walk_at "sz"); (case z5 => first | (with_reducible exact bx151 _ _) | (with_reducible exact bx311 _ _) | (with_reducible exact bxu1 _ _) | walk_at "sz"); k_whole); intro h' F' N'; (try k_sweep)))
  (k_with "compareOp Eq bytes bytes" => (k_here; (with_reducible show wpAny _ _ (compareOp CmpOp.Eq (Value.bytes (List.toArray _) _) (Value.bytes (List.toArray _) _)) _ _ _); k_dflt (refine br_eq ?_)))
  (k_with "compareOp NotEq bytes bytes" => (k_here; (with_reducible show wpAny _ _ (compareOp CmpOp.NotEq (Value.bytes (List.toArray _) _) (Value.bytes (List.toArray _) _)) _ _ _); k_dflt (refine br_ne ?_)))
  (k_with "call builtin:int.to_bytes" => (k_here; (with_reducible show wpAny _ _ (call (Value.builtin "int.to_bytes") [Value.int _ _, Value.int _ _, Value.str _ _]) _ _ _); k_dflt (refine' br_to ?z1 ?z2 ?z3 ?z4 ?_; (case z1 => walk_at "sz"); (case z2 => walk_at "sz"); (case z3 => first | assumption | walk_at "sz" | exact Int.fmod_nonneg_of_pos _ (by decide)); (case z4 => first | assumption | walk_at "sz" | exact Int.lt_of_lt_of_le (Int.fmod_lt_of_pos _ (by decide)) (by decide)); k_whole); intro _ _))
  (k_with "call ref" => (k_here; (with_reducible show wpAny _ _ (call (Value.ref _) [Value.bytes (List.toArray _) _, Value.str _ _]) _ _ _); kfb_any; k_dflt (refine br_from (by k_asm) (by k_mem) ?z1 ?_; (case z1 => walk_at "sz")); intro _ _))
  (k_with "call type:bytes" => (k_here; (with_reducible show wpAny _ _ (call (Value.type "bytes") [Value.ref _]) _ _ _); k_dflt (refine' bo_bytes ?g ?z1 ?_; (case g => exact News.get (by k_asm) (by k_mem)); (case z1 => walk_at "sz"); k_whole); intro _ _))
  (k_with "pyIter bytes" => (k_here; (with_reducible show wpAny _ _ (pyIter (Value.bytes (List.toArray _) _)) (CompPost _ _ _ _ _ _ _ _ _) _ _); k_dflt (refine' comp_row ?hh ?F ?N ?hk ?hl ?hd ?hz ?_; (case hh => exact rfl); (case F => k_asm); (case N => k_asm); (case hk => exact rfl); (case hl => intro _; exact rfl); (case hd => decide); (case hz => walk_at "sz"); k_whole); intro D' ys' h' tk' F' N' lI' iI'; (try k_sweep)))
  (k_with "call type:bytes" => (k_here; (with_reducible show wpAny _ _ (call (Value.type "bytes") [Value.ref _]) _ _ _); (with_reducible rename IntsAre _ (rowOf _) => rI); k_dflt (refine' row_bytes ?F ?N ?hh ?hl rI ?hz ?_; (case F => k_asm); (case N => k_asm); (case hh => exact rfl); (case hl => assumption); (case hz => walk_at "sz"); k_whole); intro h' _ _ F' N'; (try k_sweep)))
  first | walk1 | trivial
section
theorem low16_nat : ∀ x : Fin 256, (x.val : Int) ≥ 128 → Builtin.bitAnd (x.val : Int) 128 ≠ 0 := by decide +kernel
theorem low32_nat : ∀ x : Fin 256, ¬ ((x.val : Int) ≥ 128) → Builtin.bitAnd (x.val : Int) 128 = 0 := by decide +kernel
theorem and15_nat : ∀ x : Fin 256, Int.fmod (x.val : Int) 16 = ((x.val &&& 15 : Nat) : Int) := by decide +kernel
theorem and31_nat : ∀ x : Fin 256, Int.fmod (x.val : Int) 32 = ((x.val &&& 31 : Nat) : Int) := by decide +kernel
theorem fm4_nat : ∀ x : Fin 256, Int.fmod (x.val : Int) 4 + 1 = Builtin.bitAnd (x.val : Int) 3 + 1 := by decide +kernel
theorem low16 {x m : UInt8} (h : (x.toNat : Int) ≥ 128) : Int.fmod (m.toNat : Int) 16 = ((lowOf x m).toNat : Int) := by
  unfold lowOf
  rw [if_neg (low16_nat ⟨x.toNat, x.toNat_lt⟩ h), UInt8.toNat_and]
  exact and15_nat ⟨m.toNat, m.toNat_lt⟩
theorem low32 {x m : UInt8} (h : ¬ ((x.toNat : Int) ≥ 128)) : Int.fmod (m.toNat : Int) 32 = ((lowOf x m).toNat : Int) := by
  unfold lowOf
  rw [if_pos (low32_nat ⟨x.toNat, x.toNat_lt⟩ h), UInt8.toNat_and]
  exact and31_nat ⟨m.toNat, m.toNat_lt⟩
theorem fm4 (z : UInt8) : Int.fmod (z.toNat : Int) 4 + 1 = ((pnN z : Nat) : Int) := by
  rw [fm4_nat ⟨z.toNat, z.toNat_lt⟩]
  unfold pnN
  rcases and3 z with h | h | h | h <;> (show Builtin.bitAnd (z.toNat : Int) 3 + 1 = _; rw [h]; rfl)
/-- the whole packet as one number, turned -/
def turnW (xs M : List UInt8) (lw : UInt8) (o k : Nat) : Nat := (valB xs ^^^ (lw.toNat * 256 ^ (xs.length - 1))) ^^^ (valB ((M.drop 1).take k) * 256 ^ (xs.length - o - k))
theorem pow256 (n : Nat) : (256 : Nat) ^ n = 2 ^ (8 * n) := by rw [Nat.pow_mul]
theorem xor_lt256 {a b n : Nat} (ha : a < 256 ^ n) (hb : b < 256 ^ n) : a ^^^ b < 256 ^ n := by
  rw [pow256] at *
  exact Nat.xor_lt_two_pow ha hb
theorem shift_lt {a k n j : Nat} (ha : a < 256 ^ k) (h : k + j ≤ n) : a * 256 ^ j < 256 ^ n := by
  have h1 : a * 256 ^ j < 256 ^ k * 256 ^ j := Nat.mul_lt_mul_of_pos_right ha (Nat.pow_pos (by decide))
  rw [← Nat.pow_add] at h1
  exact Nat.lt_of_lt_of_le h1 (Nat.pow_le_pow_right (by decide) h)
theorem turnW_lt {xs M : List UInt8} {lw : UInt8} {o k : Nat} (h0 : 0 < xs.length) (h : o + k ≤ xs.length) : turnW xs M lw o k < 256 ^ xs.length := by
  unfold turnW
  refine xor_lt256 (xor_lt256 (valB_lt xs) (shift_lt (k := 1) (by have := lw.toNat_lt; (first | lia | omega)) (by (first | lia | omega)))) ?_
  have := valB_lt ((M.drop 1).take k)
  refine shift_lt (k := k) (Nat.lt_of_lt_of_le this (Nat.pow_le_pow_right (by decide) (List.length_take_le _ _))) (by (first | lia | omega))
theorem whole1 (a b : Nat) {n : Int} {j : Nat} (h : n = j) : Builtin.bitXor (a : Int) ((b : Int) * 256 ^ n.toNat) = ((a ^^^ (b * 256 ^ j) : Nat) : Int) := by
  subst h
  rw [Int.toNat_natCast, ← b_xor]
  congr 1
end

theorem lines_C9 : True := by
  w_top off
  k_with_none
  (k_with "sz" => (first | (first | lia | omega) | (simp only [List.length_append, List.length_cons, List.length_nil, List.length_take, List.length_drop, List.length_map, List.length_set, List.length_replicate, toB_length, cutB_length]; (first | lia | omega))))
  (k_with "dp" => ((try simp only [depth_mark, depth_under_make, depth_under_kw, depth_in1, depth_deeper, depth_caller]); (try dsimp only [ktrTop]); (first | lia | omega)))
  (k_with "k_room" => ((try simp only [depth_mark, depth_under_make, depth_under_kw, depth_in1, depth_deeper, depth_caller]); simp only [recursionLimit]; (first | lia | omega)))
  (k_with "cell_enter" => (refine' enterF ?k1 ?k2 ?k3 ?k4 ?k5 ?kA ?kF ?kK ?k6 ?k7 ?k8 ?k9 ?kB ?_ ?c2 ?c3 ?c4 ?c5; (case kA => exact rfl); (case kF => exact rfl); (case kK => assumption); (case k1 => k_asm); (case k2 => k_asm); (case k3 => k_asm); (case k4 => k_asm); (case k5 => k_asm); (case k6 => k_is); (case k7 => k_is); (case k8 => ktr_room); (case k9 => exact BindsTo.of_eq rfl); (case c5 => decide); (case kB => exact locs rfl); (case c2 => exact rfl); (case c3 => exact rfl); (case c4 => exact rfl); k_whole; intro g' L' h' HG' F' N' B' X' T'; (try dsimp only)))
  (k_with "cell_enterP" => (refine' enterP ?k1 ?k2 ?k3 ?k4 ?k5 ?kA ?kF ?kK ?k6 ?k7 ?k8 ?k9 ?kB ?_ ?c2 ?c3 ?c4 ?c5; (case kA => exact rfl); (case kF => exact rfl); (case kK => assumption); (case k1 => k_asm); (case k2 => k_asm); (case k3 => k_asm); (case k4 => k_asm); (case k5 => k_asm); (case k6 => k_is); (case k7 => k_is); (case k8 => ktr_room); (case k9 => exact BindsTo.of_eq rfl); (case c5 => decide); (case kB => exact locs rfl); (case c2 => exact rfl); (case c3 => exact rfl); (case c4 => exact rfl); k_whole; intro g' L' h' HG' F' N' B' X' T'; (try dsimp only)))
  (k_with "binaryOp Add bytes bytes" => (k_here; (with_reducible show wpAny _ _ (binaryOp Operator.Add (Value.bytes (List.toArray _) _) (Value.bytes (List.toArray _) _)) _ _ _); k_dflt (refine' br_add ?z1 ?z2 ?_; (case z1 => walk_at "sz"); (case z2 => walk_at "sz"); k_whole); intro _ _))
  (k_with "call builtin:len" => (k_here; (with_reducible show wpAny _ _ (call (Value.builtin "len") [Value.bytes (List.toArray _) _]) _ _ _); k_dflt (refine' br_len ?z1 ?_; (case z1 => walk_at "sz"); k_whole); intro _ _))
  (k_with "subscriptTail" => (k_here; (with_reducible show wpAny _ _ (subscriptTail _ _ (Value.bytes (List.toArray _) _) (Value.int _ _)) _ _ _); k_dflt (refine' br_item ?z1 ?z2 ?z3 ?_; (case z1 => walk_at "sz"); (case z2 => walk_at "sz"); (case z3 => walk_at "sz"); k_whole); intro _ _))
  (k_with "subscriptTail" => (k_here; (with_reducible show wpAny _ _ (subscriptTail _ (Expr.Slice (some _) (some _) none _) (Value.bytes (List.toArray _) _) (Value.ref _)) _ _ _); (with_reducible rename Fr _ _ _ _ => F'); (with_reducible rename News _ _ _ _ => N'); k_dflt (refine' br_cut (s := ⟨_, _, _, _, _⟩) F' N' ?z1 ?z2 ?z3 ?_; (case z1 => walk_at "sz"); (case z2 => walk_at "sz"); (case z3 => walk_at "sz"); k_whole); intro h' _ _ F' N'; (try k_sweep)))
  (k_with "subscriptTail" => (k_here; (with_reducible show wpAny _ _ (subscriptTail _ (Expr.Slice (some _) none none _) (Value.bytes (List.toArray _) _) (Value.ref _)) _ _ _); (with_reducible rename Fr _ _ _ _ => F'); (with_reducible rename News _ _ _ _ => N'); k_dflt (refine' br_cutFrom (s := ⟨_, _, _, _, _⟩) F' N' ?z1 ?z2 ?_; (case z1 => walk_at "sz"); (case z2 => walk_at "sz"); k_whole); intro h' _ _ F' N'; (try k_sweep)))
  (k_with "subscriptTail" => (k_here; (with_reducible show wpAny _ _ (subscriptTail _ (Expr.Slice none (some _) none _) (Value.bytes (List.toArray _) _) (Value.ref _)) _ _ _); (with_reducible rename Fr _ _ _ _ => F'); (with_reducible rename News _ _ _ _ => N'); k_dflt (refine' br_cutTo (s := ⟨_, _, _, _, _⟩) F' N' ?z1 ?z2 ?_; (case z1 => walk_at "sz"); (case z2 => walk_at "sz"); k_whole); intro h' _ _ F' N'; (try k_sweep)))
  (k_with "subscriptTail" => (k_here; (with_reducible show wpAny _ _ (subscriptTail _ _ (Value.ref _) (Value.int _ _)) _ _ _); k_dflt (refine' bo_tail ?g ?z1 ?z2 ?z3 ?_; (case g => exact News.get (by k_asm) (by k_mem)); (case z1 => walk_at "sz"); (case z2 => walk_at "sz"); (case z3 => walk_at "sz"); k_whole); intro _ _))
  (k_with "subscriptTail" => (k_here; (with_reducible show wpAny _ _ (subscriptTail _ (Expr.Slice none (some _) none _) (Value.ref _) (Value.ref _)) _ _ _); (with_reducible rename Fr _ _ _ _ => F'); (with_reducible rename News _ _ _ _ => N'); k_dflt (refine' bo_cutTo (s := ⟨_, _, _, _, _⟩) F' N' ?m ?z1 ?z2 ?_; (case m => k_mem); (case z1 => walk_at "sz"); (case z2 => walk_at "sz"); k_whole); intro h' x' F' N' l1; (try k_lt l1); (try k_sweep)))
  (k_with "getItem ref int" => (k_here; k_dflt (refine' bo_getItem ?g ?z1 ?z2 ?z3 ?_; (case g => exact News.get (by k_asm) (by k_mem)); (case z1 => walk_at "sz"); (case z2 => walk_at "sz"); (case z3 => walk_at "sz"); k_whole); intro _ _))
  (k_with "setItem ref int" => (k_here; (with_reducible show wpAny _ _ (setItem (Value.ref _) (Value.int _ _) (Value.int _ _)) _ _ _); k_dflt (refine' bo_setItemK ?F ?N ?U ?z1 ?z2 ?z3 ?z4 ?z5 ?_; (case F => k_asm); (case N => k_asm); (case U => k_upd); (case z1 => walk_at "sz"); (case z2 => walk_at "sz"); (case z3 => walk_at "sz"); (case z4 => first | (with_reducible exact bx150 _ _) | (with_reducible exact bx310 _ _) | (with_reducible exact bxu0 _ _) | walk_at "sz"); (case z5 => first | (with_reducible exact bx151 _ _) | (with_reducible exact bx311 _ _) | (with_reducible exact bxu1 _ _) | walk_at "sz"); k_whole); intro h' F' N'; (try k_sweep)))
  (k_with "compareOp Eq bytes bytes" => (k_here; (with_reducible show wpAny _ _ (compareOp CmpOp.Eq (Value.bytes (List.toArray _) _) (Value.bytes (List.toArray _) _)) _ _ _); k_dflt (refine br_eq ?_)))
  (k_with "compareOp NotEq bytes bytes" => (k_here; (with_reducible show wpAny _ _ (compareOp CmpOp.NotEq (Value.bytes (List.toArray _) _) (Value.bytes (List.toArray _) _)) _ _ _); k_dflt (refine br_ne ?_)))
  (k_with "call builtin:int.to_bytes" => (k_here; (with_reducible show wpAny _ _ (call (Value.builtin "int.to_bytes") [Value.int _ _, Value.int _ _, Value.str _ _]) _ _ _); k_dflt (refine' br_to ?z1 ?z2 ?z3 ?z4 ?_; (case z1 => walk_at "sz"); (case z2 => walk_at "sz"); (case z3 => first | assumption | walk_at "sz" | exact Int.fmod_nonneg_of_pos _ (by decide)); (case z4 => first | assumption | walk_at "sz" | exact Int.lt_of_lt_of_le (Int.fmod_lt_of_pos _ (by decide)) (by decide)); k_whole); intro _ _))
  (k_with "call ref" => (k_here; (with_reducible show wpAny _ _ (call (Value.ref _) [Value.bytes (List.toArray _) _, Value.str _ _]) _ _ _); kfb_any; k_dflt (refine br_from (by k_asm) (by k_mem) ?z1 ?_; (case z1 => walk_at "sz")); intro _ _))
  (k_with "call type:bytes" => (k_here; (with_reducible show wpAny _ _ (call (Value.type "bytes") [Value.ref _]) _ _ _); k_dflt (refine' bo_bytes ?g ?z1 ?_; (case g => exact News.get (by k_asm) (by k_mem)); (case z1 => walk_at "sz"); k_whole); intro _ _))
  (k_with "pyIter bytes" => (k_here; (with_reducible show wpAny _ _ (pyIter (Value.bytes (List.toArray _) _)) (CompPost _ _ _ _ _ _ _ _ _) _ _); k_dflt (refine' comp_row ?hh ?F ?N ?hk ?hl ?hd ?hz ?_; (case hh => exact rfl); (case F => k_asm); (case N => k_asm); (case hk => exact rfl); (case hl => intro _; exact rfl); (case hd => decide); (case hz => walk_at "sz"); k_whole); intro D' ys' h' tk' F' N' lI' iI'; (try k_sweep)))
  (k_with "call type:bytes" => (k_here; (with_reducible show wpAny _ _ (call (Value.type "bytes") [Value.ref _]) _ _ _); (with_reducible rename IntsAre _ (rowOf _) => rI); k_dflt (refine' row_bytes ?F ?N ?hh ?hl rI ?hz ?_; (case F => k_asm); (case N => k_asm); (case hh => exact rfl); (case hl => assumption); (case hz => walk_at "sz"); k_whole); intro h' _ _ F' N'; (try k_sweep)))
  (k_with "eval Name" => (k_here; (with_reducible show wpAny _ _ (eval (Expr.Name _ _) _) _ _ _); k_dflt (refine' PyProof.Rows.ld ?k1 ?k2 ?_; (case k1 => k_asm); (case k2 => assumption); k_whole)))
  first | walk1 | trivial
section
local macro_rules | `(tactic| mul_fits) => `(tactic| exact PySem.IntMulOk.of_left (PySem.intBits_le_64 (by (first | lia | omega)) (by (first | lia | omega))))
theorem lines_C9_1 : True := by
  (k_with "mp" => first | exact if_pos rfl | (refine (if_neg (by decide)).trans ?_; walk_at "mp") | exact rfl)
  trivial
theorem turned_low {prog p : Program} {w : World} {loose : List Str} {mean : ExcName → Option Value} {mg mb : Str → Option Value} {A A₀ : Around} {base g : Heap} {outer : List Env} {L : Addr} {m : Str → Option Value} {s : Shared} {Q : Flow → Shared → Prop} {xs M : List UInt8} {t1 t2 : Tok}
    (X : (hd.heap_39 w.params).In g) (T : Top p loose mean mg mb g) (B : Below A₀ base outer g) (F : Fr g L s.heap m) (N : News g L s.heap [])
    (h1 : m (Str.ofString "mask") = some (.bytes M.toArray t1)) (h2 : m (Str.ofString "packet") = some (.bytes xs.toArray t2)) (hl : xs.length ≤ 200) (h0 : 0 < xs.length) (hM0 : 5 ≤ M.length) (hM1 : M.length ≤ 16)
    (ret : ∀ t h' tk', Fr g L h' (fun y => if y = Str.ofString "low" then some (.int ((lowOf (xs.getD 0 0) (M.getD 0 0)).toNat : Int) t) else m y) → News g L h' [] → Q .next { s with heap := h', toks := tk' }) :
    wpAny (model prog w) (A.deeper (envT L)) (exec st_170_1 (envT L)) Q NoE s := by
  conv in st_170_1 => whnf
  k_steps
  all_goals
    (rename Fr _ _ _ _ => F1)
    (rename News _ _ _ _ => N1)
    have e0 : Int.toNat 0 = 0 := rfl
    simp only [e0] at F1
    first
    | rw [low16 (x := xs.getD 0 0) (by assumption)] at F1
    | rw [low32 (x := xs.getD 0 0) (by assumption)] at F1
    exact ret _ _ _ F1 N1
section
variable {prog p : Program} {w : World} {loose : List Str} {mean : ExcName → Option Value} {mg mb : Str → Option Value} {A A₀ : Around} {base g : Heap} {outer : List Env} {L : Addr} {m : Str → Option Value} {s : Shared} {Q : Flow → Shared → Prop} {xs M : List UInt8} {lw : UInt8} {n k W : Nat} {o : Int} {t1 t2 t3 t4 t5 : Tok}
theorem turned_count (X : (hd.heap_39 w.params).In g) (T : Top p loose mean mg mb g) (B : Below A₀ base outer g) (F : Fr g L s.heap m) (N : News g L s.heap [])
    (h1 : m (Str.ofString "packet") = some (.bytes xs.toArray t1)) (h2 : m (Str.ofString "low") = some (.int (lw.toNat : Int) t2)) (hl : xs.length ≤ 200) (h0 : 0 < xs.length)
    (ret : ∀ t h' tk', Fr g L h' (fun y => if y = Str.ofString "count" then some (.int ((pnN (xs.getD 0 0 ^^^ lw) : Nat) : Int) t) else m y) → News g L h' [] → Q .next { s with heap := h', toks := tk' }) :
    wpAny (model prog w) (A.deeper (envT L)) (exec st_170_2 (envT L)) Q NoE s := by
  conv in st_170_2 => whnf
  have hlw := u8_lt lw
  k_steps
  (rename Fr _ _ _ _ => F1)
  (rename News _ _ _ _ => N1)
  rw [show Int.toNat 0 = 0 from rfl, bx_u, fm4] at F1
  exact ret _ _ _ F1 N1
theorem turned_w1 (X : (hd.heap_39 w.params).In g) (T : Top p loose mean mg mb g) (B : Below A₀ base outer g) (F : Fr g L s.heap m) (N : News g L s.heap [])
    (h1 : m (Str.ofString "packet") = some (.bytes xs.toArray t1)) (h2 : m (Str.ofString "low") = some (.int (lw.toNat : Int) t2)) (h3 : m (Str.ofString "size") = some (.int (xs.length : Int) t3)) (hl : xs.length ≤ 200) (h0 : 0 < xs.length)
    (ret : ∀ t h' tk', Fr g L h' (fun y => if y = Str.ofString "whole" then some (.int ((valB xs ^^^ (lw.toNat * 256 ^ (xs.length - 1)) : Nat) : Int) t) else m y) → News g L h' [] → Q .next { s with heap := h', toks := tk' }) :
    wpAny (model prog w) (A.deeper (envT L)) (exec st_170_3 (envT L)) Q NoE s := by
  conv in st_170_3 => whnf
  have hlw := u8_lt lw
  k_steps
  (rename Fr _ _ _ _ => F1)
  (rename News _ _ _ _ => N1)
  rw [whole1 (j := xs.length - 1) _ _ (by (first | lia | omega))] at F1
  exact ret _ _ _ F1 (news_nil N1)
theorem turned_w2 (X : (hd.heap_39 w.params).In g) (T : Top p loose mean mg mb g) (B : Below A₀ base outer g) (F : Fr g L s.heap m) (N : News g L s.heap [])
    (h1 : m (Str.ofString "whole") = some (.int (W : Int) t1)) (h2 : m (Str.ofString "mask") = some (.bytes M.toArray t2)) (h3 : m (Str.ofString "count") = some (.int (k : Int) t3)) (h4 : m (Str.ofString "size") = some (.int (n : Int) t4)) (h5 : m (Str.ofString "place") = some (.int o t5))
    (hM1 : M.length ≤ 16) (hk : 1 ≤ k ∧ k ≤ 4) (hn : n ≤ 200) (ho0 : 1 ≤ o) (ho1 : o + 20 ≤ n)
    (ret : ∀ t h' tk', Fr g L h' (fun y => if y = Str.ofString "whole" then some (.int ((W ^^^ (valB ((M.drop 1).take k) * 256 ^ (n - o.toNat - k)) : Nat) : Int) t) else m y) → News g L h' [] → Q .next { s with heap := h', toks := tk' }) :
    wpAny (model prog w) (A.deeper (envT L)) (exec st_170_4 (envT L)) Q NoE s := by
  conv in st_170_4 => whnf
  have hvb : ((valB (cutB M 1 (1 + (k : Int))) : Nat) : Int) < 2 ^ 64 := by
    have h1 := valB_lt (cutB M 1 (1 + (k : Int)))
    have h2 : (256 : Nat) ^ (cutB M 1 (1 + (k : Int))).length ≤ 256 ^ 4 := Nat.pow_le_pow_right (by decide) (by rw [cutB_length]; (first | lia | omega))
    have h3 : (256 : Nat) ^ 4 = 4294967296 := by decide
    (first | lia | omega)
  k_steps
  (rename Fr _ _ _ _ => F1)
  (rename News _ _ _ _ => N1)
  rw [show cutB M 1 (1 + (k : Int)) = (M.drop 1).take k from (by unfold cutB; rw [show (1 + (k : Int)).toNat - (1 : Int).toNat = k by (first | lia | omega)]; rfl), whole1 (j := n - o.toNat - k) _ _ (by (first | lia | omega))] at F1
  exact ret _ _ _ F1 (news_nil N1)
theorem turned_ret (X : (hd.heap_39 w.params).In g) (T : Top p loose mean mg mb g) (B : Below A₀ base outer g) (F : Fr g L s.heap m) (N : News g L s.heap [])
    (h1 : m (Str.ofString "whole") = some (.int (W : Int) t1)) (h3 : m (Str.ofString "count") = some (.int (k : Int) t3)) (h4 : m (Str.ofString "size") = some (.int (n : Int) t4)) (hn : n ≤ 200) (hW : W < 256 ^ n)
    (ret : ∀ D t t' h' tk', Fr g L h' m → News g L h' [(D, tupO [.bytes (toB n W).toArray t, .int (k : Int) t'])] → Q (.ret (.ref D)) { s with heap := h', toks := tk' }) :
    wpAny (model prog w) (A.deeper (envT L)) (exec st_170_5 (envT L)) Q NoE s := by
  conv in st_170_5 => whnf
  have hlt0 : (0 : Int) ≤ (W : Int) := Int.natCast_nonneg _
  have hlt1 : (W : Int) < 256 ^ (n : Int).toNat := by rw [Int.toNat_natCast]; exact_mod_cast hW
  k_steps
  (rename Fr _ _ _ _ => F1)
  (rename News _ _ _ _ => N1)
  exact ret _ _ _ _ _ F1 (news_one N1 (.head _))
end
set_option maxHeartbeats 2000000 in
theorem turned_spec {prog p : Program} {w : World} {loose : List Str} {mean : ExcName → Option Value} {mg mb : Str → Option Value} {A₀ : Around} {base h₀ : Heap} {outer : List Env} {dp un : Nat} {gd : Option (List Code)} {cn : Str} {cs : Scope} {L ea : Addr} {ccd : Value} {cl : List (Str × Addr)}
    {m : Str → Option Value} {s : Shared} {Q E : Value → Shared → Prop} {th tt tm : Tok} {xs M : List UInt8} {o : Int}
    (B : Below A₀ base outer h₀) (F : Fr h₀ L s.heap m) (X : (hd.heap_39 w.params).In h₀) (N : News h₀ L s.heap []) (T : Top p loose mean mg mb h₀)
    (hkd : cs.kind = .function) (hdp : dp ≤ 360)
    (hl : xs.length ≤ 200) (hM0 : 5 ≤ M.length) (hM1 : M.length ≤ 16) (ho0 : 1 ≤ o) (ho1 : o + 20 ≤ xs.length)
    (ret : ∀ k t t' D h' tk', k = pnN (xs.getD 0 0 ^^^ lowOf (xs.getD 0 0) (M.getD 0 0)) → Kept [] s.heap h' →
      News h₀ L h' [(D, tupO [.bytes (toB xs.length (turnW xs M (lowOf (xs.getD 0 0) (M.getD 0 0)) o.toNat k)).toArray t, .int (k : Int) t'])] → Q (.ref D) { s with heap := h', toks := tk' }) :
    wpAny (model prog w) (ktrTop dp un gd cn cs L ea ccd cl outer) (call (.ref 170) [.bytes xs.toArray th, .int o tt, .bytes M.toArray tm]) Q E s := by
  have hh1 : 0 < xs.length := by (first | lia | omega)
  refine wpAny_call ?_
  k_dflt cell_enter
  refine cons_any ?_
  k_steps
  (try dsimp only [Then])
  (rename Fr _ _ _ _ => F')
  (rename News _ _ _ _ => N')
  refine cons_any (turned_low (by assumption) (by assumption) (by assumption) F' N' (by walk_at "mp") (by walk_at "mp") hl hh1 hM0 hM1 ?_)
  intro tlw hlw' klw F' N'
  refine then_next ?_
  generalize lowOf (xs.getD 0 0) (M.getD 0 0) = lw at F' ret
  refine cons_any (turned_count (lw := lw) (by assumption) (by assumption) (by assumption) F' N' (by walk_at "mp") (by walk_at "mp") hl hh1 ?_)
  intro tcn hcn' kcn F' N'
  refine then_next ?_
  have hk := pnN_le (xs.getD 0 0 ^^^ lw)
  generalize pnN (xs.getD 0 0 ^^^ lw) = k at F' hk ret
  refine cons_any (turned_w1 (xs := xs) (lw := lw) (by assumption) (by assumption) (by assumption) F' N' (by walk_at "mp") (by walk_at "mp") (by walk_at "mp") hl hh1 ?_)
  intro tw1 hw1' kw1 F' N'
  refine then_next ?_
  refine cons_any (turned_w2 (M := M) (k := k) (n := xs.length) (o := o) (by assumption) (by assumption) (by assumption) F' N' (by walk_at "mp") (by walk_at "mp") (by walk_at "mp") (by walk_at "mp") (by walk_at "mp") hM1 hk hl ho0 ho1 ?_)
  intro tw2 hw2' kw2 F' N'
  refine then_next ?_
  have hlt := turnW_lt (xs := xs) (M := M) (lw := lw) (o := o.toNat) (k := k) hh1 (by (first | lia | omega))
  refine cons_any (turned_ret (k := k) (n := xs.length) (by assumption) (by assumption) (by assumption) F' N' (by walk_at "mp") (by walk_at "mp") (by walk_at "mp") hl hlt ?_)
  intro D t1 t2 h9 tk9 F' N'
  refine Then_ret ?_
  (try dsimp only)
  k_steps
  (rename News _ _ _ _ => kN')
  (rename Kept _ _ _ => K')
  exact ret k _ _ _ _ _ rfl K' (news_one kN' (.head _))
end

theorem lines_C10 : True := by
  w_top off
  k_with_none
  (k_with "sz" => (first | (first | lia | omega) | (simp only [List.length_append, List.length_cons, List.length_nil, List.length_take, List.length_drop, List.length_map, List.length_set, List.length_replicate, toB_length, cutB_length]; (first | lia | omega))))
  (k_with "dp" => ((try simp only [depth_mark, depth_under_make, depth_under_kw, depth_in1, depth_deeper, depth_caller]); (try dsimp only [ktrTop]); (first | lia | omega)))
  (k_with "k_room" => ((try simp only [depth_mark, depth_under_make, depth_under_kw, depth_in1, depth_deeper, depth_caller]); simp only [recursionLimit]; (first | lia | omega)))
  (k_with "cell_enter" => (refine' enterF ?k1 ?k2 ?k3 ?k4 ?k5 ?kA ?kF ?kK ?k6 ?k7 ?k8 ?k9 ?kB ?_ ?c2 ?c3 ?c4 ?c5; (case kA => exact rfl); (case kF => exact rfl); (case kK => assumption); (case k1 => k_asm); (case k2 => k_asm); (case k3 => k_asm); (case k4 => k_asm); (case k5 => k_asm); (case k6 => k_is); (case k7 => k_is); (case k8 => ktr_room); (case k9 => exact BindsTo.of_eq rfl); (case c5 => decide); (case kB => exact locs rfl); (case c2 => exact rfl); (case c3 => exact rfl); (case c4 => exact rfl); k_whole; intro g' L' h' HG' F' N' B' X' T'; (try dsimp only)))
  (k_with "cell_enterP" => (refine' enterP ?k1 ?k2 ?k3 ?k4 ?k5 ?kA ?kF ?kK ?k6 ?k7 ?k8 ?k9 ?kB ?_ ?c2 ?c3 ?c4 ?c5; (case kA => exact rfl); (case kF => exact rfl); (case kK => assumption); (case k1 => k_asm); (case k2 => k_asm); (case k3 => k_asm); (case k4 => k_asm); (case k5 => k_asm); (case k6 => k_is); (case k7 => k_is); (case k8 => ktr_room); (case k9 => exact BindsTo.of_eq rfl); (case c5 => decide); (case kB => exact locs rfl); (case c2 => exact rfl); (case c3 => exact rfl); (case c4 => exact rfl); k_whole; intro g' L' h' HG' F' N' B' X' T'; (try dsimp only)))
  (k_with "binaryOp Add bytes bytes" => (k_here; (with_reducible show wpAny _ _ (binaryOp Operator.Add (Value.bytes (List.toArray _) _) (Value.bytes (List.toArray _) _)) _ _ _); k_dflt (refine' br_add ?z1 ?z2 ?_; (case z1 => walk_at "sz"); (case z2 => walk_at "sz"); k_whole); intro _ _))
  (k_with "call builtin:len" => (k_here; (with_reducible show wpAny _ _ (call (Value.builtin "len") [Value.bytes (List.toArray _) _]) _ _ _); k_dflt (refine' br_len ?z1 ?_; (case z1 => walk_at "sz"); k_whole); intro _ _))
  (k_with "subscriptTail" => (k_here; (with_reducible show wpAny _ _ (subscriptTail _ _ (Value.bytes (List.toArray _) _) (Value.int _ _)) _ _ _); k_dflt (refine' br_item ?z1 ?z2 ?z3 ?_; (case z1 => walk_at "sz"); (case z2 => walk_at "sz"); (case z3 => walk_at "sz"); k_whole); intro _ _))
  (k_with "subscriptTail" => (k_here; (with_reducible show wpAny _ _ (subscriptTail _ (Expr.Slice (some _) (some _) none _) (Value.bytes (List.toArray _) _) (Value.ref _)) _ _ _); (with_reducible rename Fr _ _ _ _ => F'); (with_reducible rename News _ _ _ _ => N'); k_dflt (refine' br_cut (s := ⟨_, _, _, _, _⟩) F' N' ?z1 ?z2 ?z3 ?_; (case z1 => walk_at "sz"); (case z2 => walk_at "sz"); (case z3 => walk_at "sz"); k_whole); intro h' _ _ F' N'; (try k_sweep)))
  (k_with "subscriptTail" => (k_here; (with_reducible show wpAny _ _ (subscriptTail _ (Expr.Slice (some _) none none _) (Value.bytes (List.toArray _) _) (Value.ref _)) _ _ _); (with_reducible rename Fr _ _ _ _ => F'); (with_reducible rename News _ _ _ _ => N'); k_dflt (refine' br_cutFrom (s := ⟨_, _, _, _, _⟩) F' N' ?z1 ?z2 ?_; (case z1 => walk_at "sz"); (case z2 => walk_at "sz"); k_whole); intro h' _ _ F' N'; (try k_sweep)))
  (k_with "subscriptTail" => (k_here; (with_reducible show wpAny _ _ (subscriptTail _ (Expr.Slice none (some _) none _) (Value.bytes (List.toArray _) _) (Value.ref _)) _ _ _); (with_reducible rename Fr _ _ _ _ => F'); (with_reducible rename News _ _ _ _ => N'); k_dflt (refine' br_cutTo (s := ⟨_, _, _, _, _⟩) F' N' ?z1 ?z2 ?_; (case z1 => walk_at "sz"); (case z2 => walk_at "sz"); k_whole); intro h' _ _ F' N'; (try k_sweep)))
  (k_with "subscriptTail" => (k_here; (with_reducible show wpAny _ _ (subscriptTail _ _ (Value.ref _) (Value.int _ _)) _ _ _); k_dflt (refine' bo_tail ?g ?z1 ?z2 ?z3 ?_; (case g => exact News.get (by k_asm) (by k_mem)); (case z1 => walk_at "sz"); (case z2 => walk_at "sz"); (case z3 => walk_at "sz"); k_whole); intro _ _))
  (k_with "subscriptTail" => (k_here; (with_reducible show wpAny _ _ (subscriptTail _ (Expr.Slice none (some _) none _) (Value.ref _) (Value.ref _)) _ _ _); (with_reducible rename Fr _ _ _ _ => F'); (with_reducible rename News _ _ _ _ => N'); k_dflt (refine' bo_cutTo (s := ⟨_, _, _, _, _⟩) F' N' ?m ?z1 ?z2 ?_; (case m => k_mem); (case z1 => walk_at "sz"); (case z2 => walk_at "sz"); k_whole); intro h' x' F' N' l1; (try k_lt l1); (try k_sweep)))
  (k_with "getItem ref int" => (k_here; k_dflt (refine' bo_getItem ?g ?z1 ?z2 ?z3 ?_; (case g => exact News.get (by k_asm) (by k_mem)); (case z1 => walk_at "sz"); (case z2 => walk_at "sz"); (case z3 => walk_at "sz"); k_whole); intro _ _))
  (k_with "setItem ref int" => (k_here; (with_reducible show wpAny _ _ (setItem (Value.ref _) (Value.int _ _) (Value.int _ _)) _ _ _); k_dflt (refine' bo_setItemK ?F ?N ?U ?z1 ?z2 ?z3 ?z4 ?z5 ?_; (case F => k_asm); (case N => k_asm); (case U => k_upd); (case z1 => walk_at "sz"); (case z2 => walk_at "sz"); (case z3 => walk_at "sz"); (case z4 => first | (with_reducible exact bx150 _ _) | (with_reducible exact bx310 _ _) | (with_reducible exact bxu0 _ _) | walk_at "sz"); (case z5 => first | (with_reducible exact bx151 _ _) | (with_reducible exact bx311 _ _) | (with_reducible exact bxu1 _ _) | walk_at "sz"); k_whole); intro h' F' N'; (try k_sweep)))
  (k_with "compareOp Eq bytes bytes" => (k_here; (with_reducible show wpAny _ _ (compareOp CmpOp.Eq (Value.bytes (List.toArray _) _) (Value.bytes (List.toArray _) _)) _ _ _); k_dflt (refine br_eq ?_)))
  (k_with "compareOp NotEq bytes bytes" => (k_here; (with_reducible show wpAny _ _ (compareOp CmpOp.NotEq (Value.bytes (List.toArray _) _) (Value.bytes (List.toArray _) _)) _ _ _); k_dflt (refine br_ne ?_)))
  (k_with "call builtin:int.to_bytes" => (k_here; (with_reducible show wpAny _ _ (call (Value.builtin "int.to_bytes") [Value.int _ _, Value.int _ _, Value.str _ _]) _ _ _); k_dflt (refine' br_to ?z1 ?z2 ?z3 ?z4 ?_; (case z1 => walk_at "sz"); (case z2 => walk_at "sz"); (case z3 => first | assumption | walk_at "sz" | exact Int.fmod_nonneg_of_pos _ (by decide)); (case z4 => first | assumption | walk_at "sz" | exact Int.lt_of_lt_of_le (Int.fmod_lt_of_pos _ (by decide)) (by decide)); k_whole); intro _ _))
  (k_with "call ref" => (k_here; (with_reducible show wpAny _ _ (call (Value.ref _) [Value.bytes (List.toArray _) _, Value.str _ _]) _ _ _); kfb_any; k_dflt (refine br_from (by k_asm) (by k_mem) ?z1 ?_; (case z1 => walk_at "sz")); intro _ _))
  (k_with "call type:bytes" => (k_here; (with_reducible show wpAny _ _ (call (Value.type "bytes") [Value.ref _]) _ _ _); k_dflt (refine' bo_bytes ?g ?z1 ?_; (case g => exact News.get (by k_asm) (by k_mem)); (case z1 => walk_at "sz"); k_whole); intro _ _))
  (k_with "pyIter bytes" => (k_here; (with_reducible show wpAny _ _ (pyIter (Value.bytes (List.toArray _) _)) (CompPost _ _ _ _ _ _ _ _ _) _ _); k_dflt (refine' comp_row ?hh ?F ?N ?hk ?hl ?hd ?hz ?_; (case hh => exact rfl); (case F => k_asm); (case N => k_asm); (case hk => exact rfl); (case hl => intro _; exact rfl); (case hd => decide); (case hz => walk_at "sz"); k_whole); intro D' ys' h' tk' F' N' lI' iI'; (try k_sweep)))
  (k_with "call type:bytes" => (k_here; (with_reducible show wpAny _ _ (call (Value.type "bytes") [Value.ref _]) _ _ _); (with_reducible rename IntsAre _ (rowOf _) => rI); k_dflt (refine' row_bytes ?F ?N ?hh ?hl rI ?hz ?_; (case F => k_asm); (case N => k_asm); (case hh => exact rfl); (case hl => assumption); (case hz => walk_at "sz"); k_whole); intro h' _ _ F' N'; (try k_sweep)))
  (k_with "call type:bytes" => (k_here; (with_reducible show wpAny _ _ (call (Value.type "bytes") [Value.int _ _]) _ _ _); k_dflt (refine' br_zerosX ?z1 ?z2 ?_; (case z1 => first | decide | (first | lia | omega)); (case z2 => first | decide | (first | lia | omega)); k_whole); intro _ _ _ _))
  (k_with "compareOp NotIn bytes ref" => (k_here; (with_reducible show wpAny _ _ (compareOp CmpOp.NotIn (Value.bytes _ _) (Value.ref _)) _ _ _); k_dflt (refine' notin_b3 ?D ?_; (case D => exact News.isTup (by k_asm) (by k_mem)); k_whole)))
  (k_with "InitBack" => (dsimp only [InitBack]))
  (k_with "call builtin:list.append" => (k_here; (with_reducible show wpAny _ _ (call (Value.builtin _) [Value.ref _, _]) _ _ _); k_dflt (refine' app_L ?k1 ?k2 ?k3 ?z ?_; (case k1 => k_asm); (case k2 => k_asm); (case k3 => k_upd); (case z => first | assumption | (simp only [List.length_append, List.length_cons, List.length_nil]; (first | lia | omega))); k_whole); intro h' F' N'; (try k_sweep)))
  first | walk1 | trivial
section
/-! ## the program's own pieces, named by their place -/
/-- what is known between two statements of a def that catches -/
def St (A₀ : Around) (base : Heap) (outer : List Env) (K : Frag) (p : Program) (loose : List Str) (mean : ExcName → Option Value) (mg mb : Str → Option Value) (g₀ : Heap) (L : Addr) (m : Str → Option Value) (news : List (Addr × Obj)) (h : Heap) : Prop :=
  ∃ g, KtsTurn (outer.filterMap (·.frame)) g₀ g ∧ Fr g L h m ∧ News g L h news ∧ Below A₀ base outer g ∧ K.In g ∧ Top p loose mean mg mb g ∧ KtsDicts (outer.filterMap (·.frame)) g
def inA (nm : List UInt8) : Bool := decide ([97, 101, 115, 45, 49, 50, 56, 45, 103, 99, 109] = nm) || decide ([97, 101, 115, 45, 50, 53, 54, 45, 103, 99, 109] = nm) || decide ([99, 104, 97, 99, 104, 97, 50, 48, 45, 112, 111, 108, 121, 49, 51, 48, 53] = nm)
def mG (f nm sz : Option Value) : Str → Option Value := fun y =>
  if y = Str.ofString "size" then sz else if y = Str.ofString "name" then nm else if y = Str.ofString "found" then f else none
def inB (nm : List UInt8) : Bool := decide ([97, 101, 115, 45, 49, 50, 56, 45, 101, 99, 98] = nm) || decide ([97, 101, 115, 45, 50, 53, 54, 45, 101, 99, 98] = nm) || decide ([99, 104, 97, 99, 104, 97, 50, 48] = nm)
theorem news_k2 {h₀ h : Heap} {L a D : Addr} {o : Obj} {all olds : List (Addr × Obj)} {v : Value} {t : Tok} {k k' : Int} (N : News h₀ L h all) (h1 : (a, o) ∈ all) (e : k = k') (h2 : (D, tupN [v, .int k t]) ∈ all) (h3 : ∀ p ∈ olds, p ∈ all) :
    News h₀ L h ((a, o) :: (D, tupN [v, .int k' t]) :: olds) := fun p hp => by
  subst e
  rcases List.mem_cons.mp hp with rfl | hp
  · exact N _ h1
  · rcases List.mem_cons.mp hp with rfl | hp
    · exact N _ h2
    · exact N _ (h3 p hp)
theorem lines_C10_1 : True := by
  (k_with "ee_go" => (first | exact (if_pos ⟨by assumption, by (first | lia | omega)⟩).symm | exact (if_neg fun q => by have := q.2; (first | lia | omega)).symm | exact (if_neg fun q => absurd q.1 (by assumption)).symm | exact (if_neg fun q => absurd q.1 (ne_true_of_eq_false (by assumption))).symm))
  (k_with "eb_go" => (first | exact (if_pos (by assumption)).symm | exact (if_neg fun q => absurd q (by assumption)).symm | exact (if_neg fun q => absurd q (ne_true_of_eq_false (by assumption))).symm))
  trivial
set_option maxHeartbeats 2000000 in
theorem tryA_spec {prog p : Program} {w : World} {loose : List Str} {mean : ExcName → Option Value} {mg mb : Str → Option Value} {base g₀ : Heap} {dp un : Nat} {gd : Option (List Code)} {cn : Str} {cs : Scope} {L₀ L ea l : Addr} {ccd : Value}
    {s : Shared} {Q : Flow → Shared → Prop} {nm : List UInt8} {tn ts : Tok} {sz : Int} {vs : List Value} {n : Nat} {olds : List (Addr × Obj)}
    (S : St (ktrTop dp un gd cn cs L₀ ea ccd [] []) base [envX cn cs L₀ ea ccd []] (hd.heap_39 w.params) p loose mean mg mb g₀ L (mG (some (.ref l)) (some (.bytes nm.toArray tn)) (some (.int sz ts))) ((l, PySem.W.listOf vs.toArray n) :: olds) s.heap)
    (hol : ∀ p ∈ olds, p.1 ≠ l) (XB : (hd.heap_39 w.params).In base) (TB : Top p loose mean mg mb base)
    (hkd : cs.kind = .function) (hdp : dp ≤ 360) (hz0 : 0 ≤ sz) (hz1 : sz ≤ 100) (hnm : nm.length ≤ 100) (hvs : vs.length ≤ 1000)
    (ret : ∀ D n' t t' h' tk', St (ktrTop dp un gd cn cs L₀ ea ccd [] []) base [envX cn cs L₀ ea ccd []] (hd.heap_39 w.params) p loose mean mg mb g₀ L (mG (some (.ref l)) (some (.bytes nm.toArray tn)) (some (.int sz ts)))
      ((l, PySem.W.listOf (vs ++ [Value.ref D]).toArray n') :: (D, tupN [Value.bytes nm.toArray t, Value.int (if inA nm = true ∧ sz = 12 then sz else -1) t']) :: olds) h' → D ≠ l → Q .next { s with heap := h', toks := tk' }) :
    wpAny (model prog w) ((ktrTop dp un gd cn cs L₀ ea ccd [] []).deeper (envN L)) (exec st_177_1_0_0 (envN L)) Q NoE s := by
  conv in st_177_1_0_0 => whnf
  obtain ⟨g, T₀, F, N, B, X, T, D⟩ := S
  unfold mG at F
  k_steps
  all_goals
    (rename News _ _ _ _ => N1)
    refine ret _ _ _ _ _ _ ⟨_, ?tt, ?ff, news_k2 N1 (by k_mem) (e := ?ee) (by k_mem) (fun p hp => by repeat (first | exact hp | refine List.mem_cons_of_mem _ ?_)), ?bb, ?xx, ?pp, ?dd⟩ ?ne
    case tt => assumption
    case ff => assumption
    case bb => assumption
    case xx => assumption
    case pp => assumption
    case dd => assumption
    case ne => k_ne
    case ee => walk_at "ee_go"
set_option maxHeartbeats 2000000 in
theorem tryB_spec {prog p : Program} {w : World} {loose : List Str} {mean : ExcName → Option Value} {mg mb : Str → Option Value} {base g₀ : Heap} {dp un : Nat} {gd : Option (List Code)} {cn : Str} {cs : Scope} {L₀ L ea l : Addr} {ccd : Value}
    {s : Shared} {Q : Flow → Shared → Prop} {nm : List UInt8} {tn : Tok} {szo : Option Value} {vs : List Value} {n : Nat} {olds : List (Addr × Obj)}
    (S : St (ktrTop dp un gd cn cs L₀ ea ccd [] []) base [envX cn cs L₀ ea ccd []] (hd.heap_39 w.params) p loose mean mg mb g₀ L (mG (some (.ref l)) (some (.bytes nm.toArray tn)) szo) ((l, PySem.W.listOf vs.toArray n) :: olds) s.heap)
    (hol : ∀ p ∈ olds, p.1 ≠ l) (XB : (hd.heap_39 w.params).In base) (TB : Top p loose mean mg mb base)
    (hkd : cs.kind = .function) (hdp : dp ≤ 360) (hnm : nm.length ≤ 100) (hvs : vs.length ≤ 1000)
    (ret : ∀ D n' t t' h' tk', St (ktrTop dp un gd cn cs L₀ ea ccd [] []) base [envX cn cs L₀ ea ccd []] (hd.heap_39 w.params) p loose mean mg mb g₀ L (mG (some (.ref l)) (some (.bytes nm.toArray tn)) szo)
      ((l, PySem.W.listOf (vs ++ [Value.ref D]).toArray n') :: (D, tupN [Value.bytes nm.toArray t, Value.int (if inB nm = true then 99 else -2) t']) :: olds) h' → D ≠ l → Q .next { s with heap := h', toks := tk' }) :
    wpAny (model prog w) ((ktrTop dp un gd cn cs L₀ ea ccd [] []).deeper (envN L)) (exec st_177_1_1 (envN L)) Q NoE s := by
  conv in st_177_1_1 => whnf
  obtain ⟨g, T₀, F, N, B, X, T, D⟩ := S
  unfold mG at F
  k_steps
  all_goals
    (rename News _ _ _ _ => N1)
    refine ret _ _ _ _ _ _ ⟨_, ?tt, ?ff, news_k2 N1 (by k_mem) (e := ?ee) (by k_mem) (fun p hp => by repeat (first | exact hp | refine List.mem_cons_of_mem _ ?_)), ?bb, ?xx, ?pp, ?dd⟩ ?ne
    case tt => assumption
    case ff => assumption
    case bb => assumption
    case xx => assumption
    case pp => assumption
    case dd => assumption
    case ne => k_ne
    case ee => walk_at "eb_go"
end

theorem lines_C11 : True := by
  w_top off
  k_with_none
  (k_with "sz" => (first | (first | lia | omega) | (simp only [List.length_append, List.length_cons, List.length_nil, List.length_take, List.length_drop, List.length_map, List.length_set, List.length_replicate, toB_length, cutB_length]; (first | lia | omega))))
  (k_with "dp" => ((try simp only [depth_mark, depth_under_make, depth_under_kw, depth_in1, depth_deeper, depth_caller]); (try dsimp only [ktrTop]); (first | lia | omega)))
  (k_with "k_room" => ((try simp only [depth_mark, depth_under_make, depth_under_kw, depth_in1, depth_deeper, depth_caller]); simp only [recursionLimit]; (first | lia | omega)))
  (k_with "cell_enter" => (refine' enterF ?k1 ?k2 ?k3 ?k4 ?k5 ?kA ?kF ?kK ?k6 ?k7 ?k8 ?k9 ?kB ?_ ?c2 ?c3 ?c4 ?c5; (case kA => exact rfl); (case kF => exact rfl); (case kK => assumption); (case k1 => k_asm); (case k2 => k_asm); (case k3 => k_asm); (case k4 => k_asm); (case k5 => k_asm); (case k6 => k_is); (case k7 => k_is); (case k8 => ktr_room); (case k9 => exact BindsTo.of_eq rfl); (case c5 => decide); (case kB => exact locs rfl); (case c2 => exact rfl); (case c3 => exact rfl); (case c4 => exact rfl); k_whole; intro g' L' h' HG' F' N' B' X' T'; (try dsimp only)))
  (k_with "cell_enterP" => (refine' enterP ?k1 ?k2 ?k3 ?k4 ?k5 ?kA ?kF ?kK ?k6 ?k7 ?k8 ?k9 ?kB ?_ ?c2 ?c3 ?c4 ?c5; (case kA => exact rfl); (case kF => exact rfl); (case kK => assumption); (case k1 => k_asm); (case k2 => k_asm); (case k3 => k_asm); (case k4 => k_asm); (case k5 => k_asm); (case k6 => k_is); (case k7 => k_is); (case k8 => ktr_room); (case k9 => exact BindsTo.of_eq rfl); (case c5 => decide); (case kB => exact locs rfl); (case c2 => exact rfl); (case c3 => exact rfl); (case c4 => exact rfl); k_whole; intro g' L' h' HG' F' N' B' X' T'; (try dsimp only)))
  (k_with "binaryOp Add bytes bytes" => (k_here; (with_reducible show wpAny _ _ (binaryOp Operator.Add (Value.bytes (List.toArray _) _) (Value.bytes (List.toArray _) _)) _ _ _); k_dflt (refine' br_add ?z1 ?z2 ?_; (case z1 => walk_at "sz"); (case z2 => walk_at "sz"); k_whole); intro _ _))
  (k_with "call builtin:len" => (k_here; (with_reducible show wpAny _ _ (call (Value.builtin "len") [Value.bytes (List.toArray _) _]) _ _ _); k_dflt (refine' br_len ?z1 ?_; (case z1 => walk_at "sz"); k_whole); intro _ _))
  (k_with "subscriptTail" => (k_here; (with_reducible show wpAny _ _ (subscriptTail _ _ (Value.bytes (List.toArray _) _) (Value.int _ _)) _ _ _); k_dflt (refine' br_item ?z1 ?z2 ?z3 ?_; (case z1 => walk_at "sz"); (case z2 => walk_at "sz"); (case z3 => walk_at "sz"); k_whole); intro _ _))
  (k_with "subscriptTail" => (k_here; (with_reducible show wpAny _ _ (subscriptTail _ (Expr.Slice (some _) (some _) none _) (Value.bytes (List.toArray _) _) (Value.ref _)) _ _ _); (with_reducible rename Fr _ _ _ _ => F'); (with_reducible rename News _ _ _ _ => N'); k_dflt (refine' br_cut (s := ⟨_, _, _, _, _⟩) F' N' ?z1 ?z2 ?z3 ?_; (case z1 => walk_at "sz"); (case z2 => walk_at "sz"); (case z3 => walk_at "sz"); k_whole); intro h' _ _ F' N'; (try k_sweep)))
  (k_with "subscriptTail" => (k_here; (with_reducible show wpAny _ _ (subscriptTail _ (Expr.Slice (some _) none none _) (Value.bytes (List.toArray _) _) (Value.ref _)) _ _ _); (with_reducible rename Fr _ _ _ _ => F'); (with_reducible rename News _ _ _ _ => N'); k_dflt (refine' br_cutFrom (s := ⟨_, _, _, _, _⟩) F' N' ?z1 ?z2 ?_; (case z1 => walk_at "sz"); (case z2 => walk_at "sz"); k_whole); intro h' _ _ F' N'; (try k_sweep)))
  (k_with "subscriptTail" => (k_here; (with_reducible show wpAny _ _ (subscriptTail _ (Expr.Slice none (some _) none _) (Value.bytes (List.toArray _) _) (Value.ref _)) _ _ _); (with_reducible rename Fr _ _ _ _ => F'); (with_reducible rename News _ _ _ _ => N'); k_dflt (refine' br_cutTo (s := ⟨_, _, _, _, _⟩) F' N' ?z1 ?z2 ?_; (case z1 => walk_at "sz"); (case z2 => walk_at "sz"); k_whole); intro h' _ _ F' N'; (try k_sweep)))
  (k_with "subscriptTail" => (k_here; (with_reducible show wpAny _ _ (subscriptTail _ _ (Value.ref _) (Value.int _ _)) _ _ _); k_dflt (refine' bo_tail ?g ?z1 ?z2 ?z3 ?_; (case g => exact News.get (by k_asm) (by k_mem)); (case z1 => walk_at "sz"); (case z2 => walk_at "sz"); (case z3 => walk_at "sz"); k_whole); intro _ _))
  (k_with "subscriptTail" => (k_here; (with_reducible show wpAny _ _ (subscriptTail _ (Expr.Slice none (some _) none _) (Value.ref _) (Value.ref _)) _ _ _); (with_reducible rename Fr _ _ _ _ => F'); (with_reducible rename News _ _ _ _ => N'); k_dflt (refine' bo_cutTo (s := ⟨_, _, _, _, _⟩) F' N' ?m ?z1 ?z2 ?_; (case m => k_mem); (case z1 => walk_at "sz"); (case z2 => walk_at "sz"); k_whole); intro h' x' F' N' l1; (try k_lt l1); (try k_sweep)))
  (k_with "getItem ref int" => (k_here; k_dflt (refine' bo_getItem ?g ?z1 ?z2 ?z3 ?_; (case g => exact News.get (by k_asm) (by k_mem)); (case z1 => walk_at "sz"); (case z2 => walk_at "sz"); (case z3 => walk_at "sz"); k_whole); intro _ _))
  (k_with "setItem ref int" => (k_here; (with_reducible show wpAny _ _ (setItem (Value.ref _) (Value.int _ _) (Value.int _ _)) _ _ _); k_dflt (refine' bo_setItemK ?F ?N ?U ?z1 ?z2 ?z3 ?z4 ?z5 ?_; (case F => k_asm); (case N => k_asm); (case U => k_upd); (case z1 => walk_at "sz"); (case z2 => walk_at "sz"); (case z3 => walk_at "sz"); (case z4 => first | (with_reducible exact bx150 _ _) | (with_reducible exact bx310 _ _) | (with_reducible exact bxu0 _ _) | walk_at "sz"); (case z5 => first | (with_reducible exact bx151 _ _) | (with_reducible exact bx311 _ _) | (with_reducible exact bxu1 _ _) | walk_at "sz"); k_whole); intro h' F' N'; (try k_sweep)))
  (k_with "compareOp Eq bytes bytes" => (k_here; (with_reducible show wpAny _ _ (compareOp CmpOp.Eq (Value.bytes (List.toArray _) _) (Value.bytes (List.toArray _) _)) _ _ _); k_dflt (refine br_eq ?_)))
  (k_with "compareOp NotEq bytes bytes" => (k_here; (with_reducible show wpAny _ _ (compareOp CmpOp.NotEq (Value.bytes (List.toArray _) _) (Value.bytes (List.toArray _) _)) _ _ _); k_dflt (refine br_ne ?_)))
  (k_with "call builtin:int.to_bytes" => (k_here; (with_reducible show wpAny _ _ (call (Value.builtin "int.to_bytes") [Value.int _ _, Value.int _ _, Value.str _ _]) _ _ _); k_dflt (refine' br_to ?z1 ?z2 ?z3 ?z4 ?_; (case z1 => walk_at "sz"); (case z2 => walk_at "sz"); (case z3 => first | assumption | walk_at "sz" | exact Int.fmod_nonneg_of_pos _ (by decide)); (case z4 => first | assumption | walk_at "sz" | exact Int.lt_of_lt_of_le (Int.fmod_lt_of_pos _ (by decide)) (by decide)); k_whole); intro _ _))
  (k_with "call ref" => (k_here; (with_reducible show wpAny _ _ (call (Value.ref _) [Value.bytes (List.toArray _) _, Value.str _ _]) _ _ _); kfb_any; k_dflt (refine br_from (by k_asm) (by k_mem) ?z1 ?_; (case z1 => walk_at "sz")); intro _ _))
  (k_with "call type:bytes" => (k_here; (with_reducible show wpAny _ _ (call (Value.type "bytes") [Value.ref _]) _ _ _); k_dflt (refine' bo_bytes ?g ?z1 ?_; (case g => exact News.get (by k_asm) (by k_mem)); (case z1 => walk_at "sz"); k_whole); intro _ _))
  (k_with "pyIter bytes" => (k_here; (with_reducible show wpAny _ _ (pyIter (Value.bytes (List.toArray _) _)) (CompPost _ _ _ _ _ _ _ _ _) _ _); k_dflt (refine' comp_row ?hh ?F ?N ?hk ?hl ?hd ?hz ?_; (case hh => exact rfl); (case F => k_asm); (case N => k_asm); (case hk => exact rfl); (case hl => intro _; exact rfl); (case hd => decide); (case hz => walk_at "sz"); k_whole); intro D' ys' h' tk' F' N' lI' iI'; (try k_sweep)))
  (k_with "call type:bytes" => (k_here; (with_reducible show wpAny _ _ (call (Value.type "bytes") [Value.ref _]) _ _ _); (with_reducible rename IntsAre _ (rowOf _) => rI); k_dflt (refine' row_bytes ?F ?N ?hh ?hl rI ?hz ?_; (case F => k_asm); (case N => k_asm); (case hh => exact rfl); (case hl => assumption); (case hz => walk_at "sz"); k_whole); intro h' _ _ F' N'; (try k_sweep)))
  first | walk1 | trivial
section
/-! ## the two loops of the names -/
theorem lines_C11_1 : True := by
  (k_with "cls_ne" => ((show Value.type _ ≠ Value.type _; intro e; injection e with e; exact absurd e (by decide))))
  trivial
def offA (x : Addr) (all : List (Addr × Obj)) : List (Addr × Obj) := all.filter (fun p => decide (p.1 ≠ x))
theorem offA_ne {x : Addr} {all : List (Addr × Obj)} : ∀ p ∈ offA x all, p.1 ≠ x := fun p hp => by
  have := (List.mem_filter.mp hp).2
  simpa using this
theorem offA_mem {x : Addr} {all : List (Addr × Obj)} {q : Addr × Obj} (h : q ∈ all) (hn : q.1 ≠ x) : q ∈ offA x all := List.mem_filter.mpr ⟨h, by simpa using hn⟩
theorem ne_of_obj {g h : Heap} {L a b : Addr} {all : List (Addr × Obj)} {o o' : Obj} (N : News g L h all) (h1 : (a, o) ∈ all) (h2 : (b, o') ∈ all) (hc : o.cls ≠ o'.cls) : a ≠ b := fun e => by
  have e1 := (N _ h1).1
  have e2 := (N _ h2).1
  rw [show (a, o).1 = b from e, e2] at e1
  exact hc (congrArg Obj.cls (Option.some.inj e1).symm)
theorem news_perm {g h : Heap} {L x : Addr} {all : List (Addr × Obj)} {o : Obj} (N : News g L h all) (h1 : (x, o) ∈ all) : News g L h ((x, o) :: offA x all) := fun p hp => by
  rcases List.mem_cons.mp hp with rfl | hp
  · exact N _ h1
  · exact N _ (List.mem_filter.mp hp).1
def PIn (olds : List (Addr × Obj)) : List Value → List (List UInt8 × Int) → Prop
  | [], [] => True
  | v :: vs, p :: ps => (∃ a t t', v = .ref a ∧ (a, tupN [.bytes p.1.toArray t, .int p.2 t']) ∈ olds) ∧ PIn olds vs ps
  | _, _ => False
theorem PIn.mono {o o' : List (Addr × Obj)} (sub : ∀ (a : Addr) (vs : List Value), (a, tupN vs) ∈ o → (a, tupN vs) ∈ o') : ∀ {vs : List Value} {ps : List (List UInt8 × Int)}, PIn o vs ps → PIn o' vs ps
  | [], [], _ => trivial
  | [], _ :: _, h => (show False from h).elim
  | _ :: _, [], h => (show False from h).elim
  | _ :: _, _ :: _, ⟨⟨a, t, t', e, hm⟩, r⟩ => ⟨⟨a, t, t', e, sub _ _ hm⟩, PIn.mono sub r⟩
theorem PIn.snoc {o : List (Addr × Obj)} {a : Addr} {x : List UInt8} {n : Int} {t t' : Tok} (hm : (a, tupN [.bytes x.toArray t, .int n t']) ∈ o) : ∀ {vs : List Value} {ps : List (List UInt8 × Int)}, PIn o vs ps → PIn o (vs ++ [.ref a]) (ps ++ [(x, n)])
  | [], [], _ => ⟨⟨a, t, t', rfl, hm⟩, trivial⟩
  | [], _ :: _, h => (show False from h).elim
  | _ :: _, [], h => (show False from h).elim
  | _ :: _, _ :: _, ⟨q, r⟩ => ⟨q, PIn.snoc hm r⟩
theorem PIn.at {g h : Heap} {L : Addr} {o : List (Addr × Obj)} (N : News g L h o) : ∀ {vs : List Value} {ps : List (List UInt8 × Int)}, PIn o vs ps → PairsAt h vs ps
  | [], [], _ => trivial
  | [], _ :: _, h => (show False from h).elim
  | _ :: _, [], h => (show False from h).elim
  | _ :: _, _ :: _, ⟨⟨a, t, t', e, hm⟩, r⟩ => ⟨⟨a, t, t', e, ⟨_, N.get hm, rfl, _, rfl⟩⟩, PIn.at N r⟩
def stepA (nm : List UInt8) (sz : Int) : List UInt8 × Int := (nm, if inA nm = true ∧ sz = 12 then sz else -1)
theorem mG_size {f nm sz : Option Value} {v : Value} : (fun y => if y = Str.ofString "size" then some v else mG f nm sz y) = mG f nm (some v) := by
  funext y
  unfold mG
  by_cases h : y = Str.ofString "size"
  · rw [if_pos h, if_pos h]
  · rw [if_neg h, if_neg h, if_neg h]
theorem mG_name {f nm sz : Option Value} {v : Value} : (fun y => if y = Str.ofString "name" then some v else mG f nm sz y) = mG f (some v) sz := by
  funext y
  unfold mG
  by_cases h : y = Str.ofString "name"
  · subst h
    rw [if_pos rfl, if_neg (by decide), if_pos rfl]
  · rw [if_neg h, if_neg h]
    split <;> rfl
section
variable {prog p : Program} {w : World} {loose : List Str} {mean : ExcName → Option Value} {mg mb : Str → Option Value} {base g₀ : Heap} {dp un : Nat} {gd : Option (List Code)} {cn : Str} {cs : Scope} {L₀ L ea l : Addr} {ccd : Value}
theorem inner_loop (XB : (hd.heap_39 w.params).In base) (TB : Top p loose mean mg mb base) (hkd : cs.kind = .function) (hdp : dp ≤ 360) {nm : List UInt8} {tn : Tok} (hnm : nm.length ≤ 100) {it D : Addr} {px : Pos} {szs : List (Int × Tok)} (hsz : ∀ q ∈ szs, 0 ≤ q.1 ∧ q.1 ≤ 100)
    {kp : List (Addr × Obj)} (hkp : ∀ q ∈ kp, q.1 ≠ it ∧ q.1 ≠ l) {Q : Flow → Shared → Prop} : ∀ (k j : Nat), j + k = szs.length → ∀ (s : Shared) (vs : List Value) (n : Nat) (all : List (Addr × Obj)) (ps : List (List UInt8 × Int)) (szo : Option Value),
    St (ktrTop dp un gd cn cs L₀ ea ccd [] []) base [envX cn cs L₀ ea ccd []] (hd.heap_39 w.params) p loose mean mg mb g₀ L (mG (some (.ref l)) (some (.bytes nm.toArray tn)) szo) all s.heap →
    (l, PySem.W.listOf vs.toArray n) ∈ all → (it, itO D j) ∈ all → (D, tupN (szs.map fun q => Value.int q.1 q.2)) ∈ all → (∀ q ∈ kp, q ∈ all) → PIn all vs ps → vs.length + k ≤ 900 →
    (∀ vs' n' all' szo' h' tk', St (ktrTop dp un gd cn cs L₀ ea ccd [] []) base [envX cn cs L₀ ea ccd []] (hd.heap_39 w.params) p loose mean mg mb g₀ L (mG (some (.ref l)) (some (.bytes nm.toArray tn)) szo') all' h' →
      (l, PySem.W.listOf vs'.toArray n') ∈ all' → (∀ q ∈ kp, q ∈ all') → PIn all' vs' (ps ++ (szs.drop j).map fun q => stepA nm q.1) → vs'.length = vs.length + k → Q .next { s with heap := h', toks := tk' }) →
    LoopC prog w ((ktrTop dp un gd cn cs L₀ ea ccd [] []).deeper (envN L)) NoE (envN L) (Str.ofString "size") px (.ref it) [st_177_1_0_0] Q s := by
  intro k
  induction k with
  | zero =>
    intro j hj s vs n all ps szo S hl hit hD hks hP hvs ret
    obtain ⟨g, T₀, F, N, B, X, T, Dd⟩ := S
    refine loop_end j rfl F (news_perm N hit) (D := D) (vs := szs.map fun q => Value.int q.1 q.2) (.tail _ (offA_mem hD (ne_of_obj N hD hit (by walk_at "cls_ne")))) (.head offA_ne) (List.getElem?_eq_none (by rw [List.length_map]; (first | lia | omega))) (fun h' F' N' => ?_) PassesOwn.never
    have hp : ∀ (a : Addr) (ws : List Value), (a, tupN ws) ∈ all → (a, tupN ws) ∈ (it, itE j) :: offA it all := fun a ws hm => .tail _ (offA_mem hm (ne_of_obj N hm hit (by walk_at "cls_ne")))
    refine ret vs n _ szo h' _ ⟨g, T₀, F', N', B, X, T, Dd⟩ (.tail _ (offA_mem hl (ne_of_obj N hl hit (by walk_at "cls_ne")))) (fun q hq => .tail _ (offA_mem (hks q hq) (hkp q hq).1)) ?_ rfl
    rw [List.drop_eq_nil_of_le (by (first | lia | omega)), List.map_nil, List.append_nil]
    exact hP.mono hp
  | succ k ih =>
    intro j hj s vs n all ps szo S hl hit hD hks hP hvs ret
    obtain ⟨g, T₀, F, N, B, X, T, Dd⟩ := S
    have hlt : j < szs.length := by (first | lia | omega)
    refine loop_item j F (news_perm N hit) (D := D) (vs := szs.map fun q => Value.int q.1 q.2) (v := .int szs[j].1 szs[j].2) (.tail _ (offA_mem hD (ne_of_obj N hD hit (by walk_at "cls_ne")))) (.head offA_ne) (by rw [List.getElem?_map, List.getElem?_eq_getElem hlt]; rfl) (fun h1 F1 N1 => ?_) PassesOwn.never
    refine stN F1 N1 (fun h2 F2 N2 => ?_) rfl rfl
    rw [mG_size] at F2
    have m1 : ∀ (a : Addr) (o : Obj), (a, o) ∈ all → a ≠ it → (a, o) ∈ (it, itO D (j + 1)) :: offA it all := fun a o hm hn => .tail _ (offA_mem hm hn)
    have nl : l ≠ it := ne_of_obj N hl hit (by walk_at "cls_ne")
    have nD : D ≠ it := ne_of_obj N hD hit (by walk_at "cls_ne")
    have l2 := m1 _ _ hl nl
    have N3 := news_perm N2 l2
    refine wpAny_execs_cons ?_
    refine tryA_spec (s := { s with heap := h2, toks := _ }) ⟨g, T₀, F2, N3, B, X, T, Dd⟩ offA_ne XB TB hkd hdp (hsz _ (List.getElem_mem hlt)).1 (hsz _ (List.getElem_mem hlt)).2 hnm (by (first | lia | omega)) ?_
    intro D' n' t t' h3 tk3 S3 hne
    refine wpAny_execs_nil ?_
    have m2 : ∀ (a : Addr) (o : Obj), (a, o) ∈ (it, itO D (j + 1)) :: offA it all → a ≠ l → (a, o) ∈ (l, PySem.W.listOf (vs ++ [Value.ref D']).toArray n') :: (D', tupN [Value.bytes nm.toArray t, Value.int (if inA nm = true ∧ szs[j].1 = 12 then szs[j].1 else -1) t']) :: offA l ((it, itO D (j + 1)) :: offA it all) :=
      fun a o hm hn => .tail _ (.tail _ (offA_mem hm hn))
    refine ih (j + 1) (by (first | lia | omega)) _ (vs ++ [Value.ref D']) n' _ (ps ++ [stepA nm szs[j].1]) _ S3 (.head _) (m2 _ _ (.head _) (Ne.symm nl)) (m2 _ _ (m1 _ _ hD nD) (ne_of_obj N hD hl (by walk_at "cls_ne"))) (fun q hq => m2 _ _ (m1 _ _ (hks q hq) (hkp q hq).1) (hkp q hq).2) ?_ (by rw [List.length_append, List.length_cons, List.length_nil]; (first | lia | omega)) ?_
    · refine PIn.snoc (.tail _ (.head _)) (hP.mono fun a ws hm => m2 _ _ (m1 _ _ hm (ne_of_obj N hm hit (by walk_at "cls_ne"))) (ne_of_obj N hm hl (by walk_at "cls_ne")))
    · intro vs' n'' all' szo' h' tk' S' a b c d
      refine ret vs' n'' all' szo' h' tk' S' a b ?_ (by rw [d, List.length_append, List.length_cons, List.length_nil]; (first | lia | omega))
      rw [List.drop_eq_getElem_cons hlt, List.map_cons]
      rw [List.append_assoc] at c
      exact c

def rowN (nm : List UInt8) : List (List UInt8 × Int) := [12, 11, 13, 0].map (stepA nm) ++ [(nm, if inB nm = true then 99 else -2)]
set_option maxHeartbeats 1000000 in
theorem inner_for (XB : (hd.heap_39 w.params).In base) (TB : Top p loose mean mg mb base) (hkd : cs.kind = .function) (hdp : dp ≤ 360) {nm : List UInt8} {tn : Tok} (hnm : nm.length ≤ 100) {kp : List (Addr × Obj)} (hkp : ∀ q ∈ kp, q.1 ≠ l) {Q : Flow → Shared → Prop} {s : Shared} {vs : List Value} {n : Nat} {all : List (Addr × Obj)} {ps : List (List UInt8 × Int)} {szo : Option Value}
    (S : St (ktrTop dp un gd cn cs L₀ ea ccd [] []) base [envX cn cs L₀ ea ccd []] (hd.heap_39 w.params) p loose mean mg mb g₀ L (mG (some (.ref l)) (some (.bytes nm.toArray tn)) szo) all s.heap)
    (hl : (l, PySem.W.listOf vs.toArray n) ∈ all) (hks : ∀ q ∈ kp, q ∈ all) (hP : PIn all vs ps) (hvs : vs.length ≤ 800)
    (ret : ∀ vs' n' all' szo' h' tk', St (ktrTop dp un gd cn cs L₀ ea ccd [] []) base [envX cn cs L₀ ea ccd []] (hd.heap_39 w.params) p loose mean mg mb g₀ L (mG (some (.ref l)) (some (.bytes nm.toArray tn)) szo') all' h' →
      (l, PySem.W.listOf vs'.toArray n') ∈ all' → (∀ q ∈ kp, q ∈ all') → PIn all' vs' (ps ++ [12, 11, 13, 0].map (stepA nm)) → vs'.length = vs.length + 4 → Q .next { s with heap := h', toks := tk' }) :
    wpAny (model prog w) ((ktrTop dp un gd cn cs L₀ ea ccd [] []).deeper (envN L)) (exec st_177_1_0 (envN L)) Q NoE s := by
  conv in st_177_1_0 => whnf
  obtain ⟨g, T₀, F, N, B, X, T, Dd⟩ := S
  refine For_one ?_
  k_steps
  (rename Fr _ _ _ _ => F')
  (rename News _ _ _ _ => N')
  refine loop_iter F' N' (.head _) ?_
  intro h1 it F1 N1 l1
  have hsub : ∀ q ∈ all, q.1 < it := fun q hq => l1 _ (.tail _ hq)
  refine inner_loop XB TB hkd hdp hnm (kp := kp) (szs := [(12, _), (11, _), (13, _), (0, _)]) (by intro q hq; simp only [List.mem_cons, List.not_mem_nil, or_false] at hq; rcases hq with rfl | rfl | rfl | rfl <;> (dsimp only; (first | lia | omega))) (fun q hq => ⟨Nat.ne_of_lt (hsub q (hks q hq)), hkp q hq⟩) 4 0 rfl _ vs n _ ps szo ⟨g, T₀, F1, N1, B, X, T, Dd⟩ (.tail _ (.tail _ hl)) (.head _) (.tail _ (.head _)) (fun q hq => .tail _ (.tail _ (hks q hq))) (hP.mono fun a ws hm => .tail _ (.tail _ hm)) (by (first | lia | omega)) ?_
  intro vs' n' all' szo' h' tk' S' a b c d
  exact ret vs' n' all' szo' h' tk' S' a b c d
theorem outer_loop (XB : (hd.heap_39 w.params).In base) (TB : Top p loose mean mg mb base) (hkd : cs.kind = .function) (hdp : dp ≤ 360) {it D : Addr} {px : Pos} {nms : List (List UInt8 × Tok)} (hnms : ∀ q ∈ nms, q.1.length ≤ 100) (hit0 : it ≠ l) {Q : Flow → Shared → Prop} : ∀ (k j : Nat), j + k = nms.length → ∀ (s : Shared) (vs : List Value) (n : Nat) (all : List (Addr × Obj)) (ps : List (List UInt8 × Int)) (nmo szo : Option Value),
    St (ktrTop dp un gd cn cs L₀ ea ccd [] []) base [envX cn cs L₀ ea ccd []] (hd.heap_39 w.params) p loose mean mg mb g₀ L (mG (some (.ref l)) nmo szo) all s.heap →
    (l, PySem.W.listOf vs.toArray n) ∈ all → (it, itO D j) ∈ all → (D, tupN (nms.map fun q => Value.bytes q.1.toArray q.2)) ∈ all → PIn all vs ps → vs.length + 5 * k ≤ 700 →
    (∀ vs' n' all' nmo' szo' h' tk', St (ktrTop dp un gd cn cs L₀ ea ccd [] []) base [envX cn cs L₀ ea ccd []] (hd.heap_39 w.params) p loose mean mg mb g₀ L (mG (some (.ref l)) nmo' szo') all' h' →
      (l, PySem.W.listOf vs'.toArray n') ∈ all' → PIn all' vs' (ps ++ (nms.drop j).flatMap fun q => rowN q.1) → Q .next { s with heap := h', toks := tk' }) →
    LoopC prog w ((ktrTop dp un gd cn cs L₀ ea ccd [] []).deeper (envN L)) NoE (envN L) (Str.ofString "name") px (.ref it) [st_177_1_0, st_177_1_1] Q s := by
  intro k
  induction k with
  | zero =>
    intro j hj s vs n all ps nmo szo S hl hit hD hP hvs ret
    obtain ⟨g, T₀, F, N, B, X, T, Dd⟩ := S
    refine loop_end j rfl F (news_perm N hit) (D := D) (vs := nms.map fun q => Value.bytes q.1.toArray q.2) (.tail _ (offA_mem hD (ne_of_obj N hD hit (by walk_at "cls_ne")))) (.head offA_ne) (List.getElem?_eq_none (by rw [List.length_map]; (first | lia | omega))) (fun h' F' N' => ?_) PassesOwn.never
    have hp : ∀ (a : Addr) (ws : List Value), (a, tupN ws) ∈ all → (a, tupN ws) ∈ (it, itE j) :: offA it all := fun a ws hm => .tail _ (offA_mem hm (ne_of_obj N hm hit (by walk_at "cls_ne")))
    refine ret vs n _ nmo szo h' _ ⟨g, T₀, F', N', B, X, T, Dd⟩ (.tail _ (offA_mem hl (ne_of_obj N hl hit (by walk_at "cls_ne")))) ?_
    rw [List.drop_eq_nil_of_le (by (first | lia | omega)), List.flatMap_nil, List.append_nil]
    exact hP.mono hp
  | succ k ih =>
    intro j hj s vs n all ps nmo szo S hl hit hD hP hvs ret
    obtain ⟨g, T₀, F, N, B, X, T, Dd⟩ := S
    have hlt : j < nms.length := by (first | lia | omega)
    refine loop_item j F (news_perm N hit) (D := D) (vs := nms.map fun q => Value.bytes q.1.toArray q.2) (v := .bytes nms[j].1.toArray nms[j].2) (.tail _ (offA_mem hD (ne_of_obj N hD hit (by walk_at "cls_ne")))) (.head offA_ne) (by rw [List.getElem?_map, List.getElem?_eq_getElem hlt]; rfl) (fun h1 F1 N1 => ?_) PassesOwn.never
    refine stN F1 N1 (fun h2 F2 N2 => ?_) rfl rfl
    rw [mG_name] at F2
    have m1 : ∀ (a : Addr) (o : Obj), (a, o) ∈ all → a ≠ it → (a, o) ∈ (it, itO D (j + 1)) :: offA it all := fun a o hm hn => .tail _ (offA_mem hm hn)
    have nl : l ≠ it := ne_of_obj N hl hit (by walk_at "cls_ne")
    have nD : D ≠ it := ne_of_obj N hD hit (by walk_at "cls_ne")
    have nDl : D ≠ l := ne_of_obj N hD hl (by walk_at "cls_ne")
    have hnm : nms[j].1.length ≤ 100 := hnms _ (List.getElem_mem hlt)
    refine wpAny_execs_cons ?_
    refine inner_for XB TB hkd hdp hnm (s := { s with heap := h2, toks := _ }) (kp := [(it, itO D (j + 1)), (D, tupN (nms.map fun q => Value.bytes q.1.toArray q.2))]) (fun q hq => ?_) ⟨g, T₀, F2, N2, B, X, T, Dd⟩ (m1 _ _ hl nl) (fun q hq => ?_) (hP.mono fun a ws hm => m1 _ _ hm (ne_of_obj N hm hit (by walk_at "cls_ne"))) (by (first | lia | omega)) ?_
    · rcases List.mem_cons.mp hq with rfl | hq
      · exact hit0
      · rw [List.mem_singleton.mp hq]; exact nDl
    · rcases List.mem_cons.mp hq with rfl | hq
      · exact .head _
      · rw [List.mem_singleton.mp hq]; exact m1 _ _ hD nD
    intro vs1 n1 all1 sz1 h3 tk3 S3 hl3 hk3 hP3 hv3
    obtain ⟨g3, T3, F3, N3, B3, X3, TT3, Dd3⟩ := S3
    have hit3 := hk3 _ (.head _)
    have hD3 := hk3 _ (.tail _ (.head _))
    refine wpAny_execs_cons ?_
    refine tryB_spec (s := { s with heap := h3, toks := tk3 }) ⟨g3, T3, F3, news_perm N3 hl3, B3, X3, TT3, Dd3⟩ offA_ne XB TB hkd hdp hnm (by (first | lia | omega)) ?_
    intro D' n' t t' h4 tk4 S4 hne
    refine wpAny_execs_nil ?_
    have m2 : ∀ (a : Addr) (o : Obj), (a, o) ∈ all1 → a ≠ l → (a, o) ∈ (l, PySem.W.listOf (vs1 ++ [Value.ref D']).toArray n') :: (D', tupN [Value.bytes nms[j].1.toArray t, Value.int (if inB nms[j].1 = true then 99 else -2) t']) :: offA l all1 :=
      fun a o hm hn => .tail _ (.tail _ (offA_mem hm hn))
    refine ih (j + 1) (by (first | lia | omega)) _ (vs1 ++ [Value.ref D']) n' _ (ps ++ rowN nms[j].1) _ _ S4 (.head _) (m2 _ _ hit3 hit0) (m2 _ _ hD3 nDl) ?_ (by rw [List.length_append, List.length_cons, List.length_nil]; (first | lia | omega)) ?_
    · unfold rowN
      rw [← List.append_assoc]
      exact PIn.snoc (.tail _ (.head _)) (hP3.mono fun a ws hm => m2 _ _ hm (ne_of_obj N3 hm hl3 (by walk_at "cls_ne")))
    · intro vs' n'' all' nmo' szo' h' tk' S' a c
      refine ret vs' n'' all' nmo' szo' h' tk' S' a ?_
      rw [List.drop_eq_getElem_cons hlt, List.flatMap_cons]
      rw [List.append_assoc] at c
      exact c
def nmsL : List (List UInt8) := [[97, 101, 115, 45, 49, 50, 56, 45, 103, 99, 109], [97, 101, 115, 45, 50, 53, 54, 45, 103, 99, 109], [99, 104, 97, 99, 104, 97, 50, 48, 45, 112, 111, 108, 121, 49, 51, 48, 53], [97, 101, 115, 45, 49, 50, 56, 45, 101, 99, 98], [97, 101, 115, 45, 50, 53, 54, 45, 101, 99, 98], [99, 104, 97, 99, 104, 97, 50, 48], [], [97, 101, 115, 45, 49, 57, 50, 45, 103, 99, 109]]
theorem map_first {l : Addr} {r : Str → Option Value} (hr : ∀ y, r y = none) : (fun y => if y = Str.ofString "found" then some (Value.ref l) else r y) = mG (some (.ref l)) none none := by
  funext y
  unfold mG
  by_cases h : y = Str.ofString "found"
  · subst h
    rw [if_pos rfl, if_neg (by decide), if_neg (by decide), if_pos rfl]
  · rw [if_neg h, hr]
    split
    · rfl
    · split <;> rfl
theorem first_map {g h : Heap} {L l : Addr} {r : Str → Option Value} {P : Prop} (F : Fr g L h (fun y => if y = Str.ofString "found" then some (Value.ref l) else r y)) (hr : ∀ y, r y = none) (k : Fr g L h (mG (some (.ref l)) none none) → P) : P := k (map_first hr ▸ F)
set_option maxHeartbeats 2000000 in
theorem names_spec {A₀ : Around} {h₀ : Heap} {cs : Scope} {m : Str → Option Value} {s : Shared} {Q E : Value → Shared → Prop}
    (B : Below A₀ base [] h₀) (F : Fr h₀ L₀ s.heap m) (X : (hd.heap_39 w.params).In h₀) (N : News h₀ L₀ s.heap []) (T : Top p loose mean mg mb h₀) (XB : (hd.heap_39 w.params).In base) (TB : Top p loose mean mg mb base)
    (hkd : cs.kind = .function) (hdp : dp ≤ 360)
    (ret : ∀ D vs n all h' tk', Fr h₀ L₀ h' m → News h₀ L₀ h' all → (D, PySem.W.listOf vs.toArray n) ∈ all → PIn all vs (nmsL.flatMap rowN) → Q (.ref D) { s with heap := h', toks := tk' }) :
    wpAny (model prog w) (ktrTop dp un gd cn cs L₀ ea ccd [] []) (call (.ref 177) []) Q E s := by
  refine wpAny_call ?_
  k_dflt (refine' code_defS0 ?k1 ?k2 ?k3 ?k4 ?k5 ?kA ?k6 ?k7 ?k8 ?k9 ?kB ?_ ?cK ?c2 ?c3 ?c4 ?c5; (case kA => exact rfl); (case k2 => k_asm); (case k1 => k_asm); (case k3 => k_asm); (case k4 => k_asm); (case k5 => k_asm); (case k6 => k_is); (case k7 => k_is); (case k8 => ktr_room); (case k9 => first | exact binds_K (by k_in) rfl (by k_is) rfl rfl rfl | exact BindsTo.of_eq rfl | fail "kts_go: no rule for these arguments"); (case kB => exact locs rfl); (case cK => first | exact rfl | assumption); (case c2 => exact rfl); (case c3 => exact rfl); (case c4 => exact rfl); (case c5 => decide); k_whole; intro g' L' h' FG' F' N' B' X' T' D'; (try dsimp only); (try k_lift B'); (try k_fold))
  refine cons_any ?_
  k_steps
  (try dsimp only [Then])
  (rename Fr _ _ _ _ => F')
  refine first_map F' (fun y => rfl) ?_
  clear F'
  intro F'
  refine wpAny_mono (E := NoE) ?_ (fun _ _ q => q) (fun _ _ q => q.elim)
  refine cons_any ?_
  refine For_one ?_
  k_steps
  (rename Fr _ _ _ _ => F')
  (rename News _ _ _ _ => N')
  refine loop_iter F' N' (.head _) ?_
  intro h1 it F1 N1 l1
  refine outer_loop XB TB hkd hdp (nms := [([97, 101, 115, 45, 49, 50, 56, 45, 103, 99, 109], _), ([97, 101, 115, 45, 50, 53, 54, 45, 103, 99, 109], _), ([99, 104, 97, 99, 104, 97, 50, 48, 45, 112, 111, 108, 121, 49, 51, 48, 53], _), ([97, 101, 115, 45, 49, 50, 56, 45, 101, 99, 98], _), ([97, 101, 115, 45, 50, 53, 54, 45, 101, 99, 98], _), ([99, 104, 97, 99, 104, 97, 50, 48], _), ([], _), ([97, 101, 115, 45, 49, 57, 50, 45, 103, 99, 109], _)]) ?_ (Ne.symm (Nat.ne_of_lt (l1 _ (.tail _ (.head _))))) 8 0 rfl _ [] 0 _ [] none none ⟨_, KtsTurn.refl, F1, N1, B', X', T', D'⟩ (.tail _ (.tail _ (.head _))) (.head _) (.tail _ (.head _)) trivial (by decide) ?_
  · intro q hq
    simp only [List.mem_cons, List.not_mem_nil, or_false] at hq
    rcases hq with rfl | rfl | rfl | rfl | rfl | rfl | rfl | rfl <;> (dsimp only [List.length]; (first | lia | omega))
  intro vs n all nmo szo h2 tk2 S2 hl2 hP2
  obtain ⟨g2, T2, F2, N2, B2, X2, TT2, Dd2⟩ := S2
  (try dsimp only [Then])
  unfold mG at F2
  k_steps
  (rename Fr _ _ _ _ => kF)
  (rename News _ _ _ _ => kN)
  exact ret _ vs n all h2 tk2 kF kN hl2 hP2
end
end

theorem lines_C12 : True := by
  w_top off
  k_with_none
  (k_with "sz" => (first | (first | lia | omega) | (simp only [List.length_append, List.length_cons, List.length_nil, List.length_take, List.length_drop, List.length_map, List.length_set, List.length_replicate, toB_length, cutB_length]; (first | lia | omega))))
  (k_with "dp" => ((try simp only [depth_mark, depth_under_make, depth_under_kw, depth_in1, depth_deeper, depth_caller]); (try dsimp only [ktrTop]); (first | lia | omega)))
  (k_with "k_room" => ((try simp only [depth_mark, depth_under_make, depth_under_kw, depth_in1, depth_deeper, depth_caller]); simp only [recursionLimit]; (first | lia | omega)))
  (k_with "cell_enter" => (refine' enterF ?k1 ?k2 ?k3 ?k4 ?k5 ?kA ?kF ?kK ?k6 ?k7 ?k8 ?k9 ?kB ?_ ?c2 ?c3 ?c4 ?c5; (case kA => exact rfl); (case kF => exact rfl); (case kK => assumption); (case k1 => k_asm); (case k2 => k_asm); (case k3 => k_asm); (case k4 => k_asm); (case k5 => k_asm); (case k6 => k_is); (case k7 => k_is); (case k8 => ktr_room); (case k9 => exact BindsTo.of_eq rfl); (case c5 => decide); (case kB => exact locs rfl); (case c2 => exact rfl); (case c3 => exact rfl); (case c4 => exact rfl); k_whole; intro g' L' h' HG' F' N' B' X' T'; (try dsimp only)))
  (k_with "cell_enterP" => (refine' enterP ?k1 ?k2 ?k3 ?k4 ?k5 ?kA ?kF ?kK ?k6 ?k7 ?k8 ?k9 ?kB ?_ ?c2 ?c3 ?c4 ?c5; (case kA => exact rfl); (case kF => exact rfl); (case kK => assumption); (case k1 => k_asm); (case k2 => k_asm); (case k3 => k_asm); (case k4 => k_asm); (case k5 => k_asm); (case k6 => k_is); (case k7 => k_is); (case k8 => ktr_room); (case k9 => exact BindsTo.of_eq rfl); (case c5 => decide); (case kB => exact locs rfl); (case c2 => exact rfl); (case c3 => exact rfl); (case c4 => exact rfl); k_whole; intro g' L' h' HG' F' N' B' X' T'; (try dsimp only)))
  (k_with "binaryOp Add bytes bytes" => (k_here; (with_reducible show wpAny _ _ (binaryOp Operator.Add (Value.bytes (List.toArray _) _) (Value.bytes (List.toArray _) _)) _ _ _); k_dflt (refine' br_add ?z1 ?z2 ?_; (case z1 => walk_at "sz"); (case z2 => walk_at "sz"); k_whole); intro _ _))
  (k_with "call builtin:len" => (k_here; (with_reducible show wpAny _ _ (call (Value.builtin "len") [Value.bytes (List.toArray _) _]) _ _ _); k_dflt (refine' br_len ?z1 ?_; (case z1 => walk_at "sz"); k_whole); intro _ _))
  (k_with "subscriptTail" => (k_here; (with_reducible show wpAny _ _ (subscriptTail _ _ (Value.bytes (List.toArray _) _) (Value.int _ _)) _ _ _); k_dflt (refine' br_item ?z1 ?z2 ?z3 ?_; (case z1 => walk_at "sz"); (case z2 => walk_at "sz"); (case z3 => walk_at "sz"); k_whole); intro _ _))
  (k_with "subscriptTail" => (k_here; (with_reducible show wpAny _ _ (subscriptTail _ (Expr.Slice (some _) (some _) none _) (Value.bytes (List.toArray _) _) (Value.ref _)) _ _ _); (with_reducible rename Fr _ _ _ _ => F'); (with_reducible rename News _ _ _ _ => N'); k_dflt (refine' br_cut (s := ⟨_, _, _, _, _⟩) F' N' ?z1 ?z2 ?z3 ?_; (case z1 => walk_at "sz"); (case z2 => walk_at "sz"); (case z3 => walk_at "sz"); k_whole); intro h' _ _ F' N'; (try k_sweep)))
  (k_with "subscriptTail" => (k_here; (with_reducible show wpAny _ _ (subscriptTail _ (Expr.Slice (some _) none none _) (Value.bytes (List.toArray _) _) (Value.ref _)) _ _ _); (with_reducible rename Fr _ _ _ _ => F'); (with_reducible rename News _ _ _ _ => N'); k_dflt (refine' br_cutFrom (s := ⟨_, _, _, _, _⟩) F' N' ?z1 ?z2 ?_; (case z1 => walk_at "sz"); (case z2 => walk_at "sz"); k_whole); intro h' _ _ F' N'; (try k_sweep)))
  (k_with "subscriptTail" => (k_here; (with_reducible show wpAny _ _ (subscriptTail _ (Expr.Slice none (some _) none _) (Value.bytes (List.toArray _) _) (Value.ref _)) _ _ _); (with_reducible rename Fr _ _ _ _ => F'); (with_reducible rename News _ _ _ _ => N'); k_dflt (refine' br_cutTo (s := ⟨_, _, _, _, _⟩) F' N' ?z1 ?z2 ?_; (case z1 => walk_at "sz"); (case z2 => walk_at "sz"); k_whole); intro h' _ _ F' N'; (try k_sweep)))
  (k_with "subscriptTail" => (k_here; (with_reducible show wpAny _ _ (subscriptTail _ _ (Value.ref _) (Value.int _ _)) _ _ _); k_dflt (refine' bo_tail ?g ?z1 ?z2 ?z3 ?_; (case g => exact News.get (by k_asm) (by k_mem)); (case z1 => walk_at "sz"); (case z2 => walk_at "sz"); (case z3 => walk_at "sz"); k_whole); intro _ _))
  (k_with "subscriptTail" => (k_here; (with_reducible show wpAny _ _ (subscriptTail _ (Expr.Slice none (some _) none _) (Value.ref _) (Value.ref _)) _ _ _); (with_reducible rename Fr _ _ _ _ => F'); (with_reducible rename News _ _ _ _ => N'); k_dflt (refine' bo_cutTo (s := ⟨_, _, _, _, _⟩) F' N' ?m ?z1 ?z2 ?_; (case m => k_mem); (case z1 => walk_at "sz"); (case z2 => walk_at "sz"); k_whole); intro h' x' F' N' l1; (try k_lt l1); (try k_sweep)))
  (k_with "getItem ref int" => (k_here; k_dflt (refine' bo_getItem ?g ?z1 ?z2 ?z3 ?_; (case g => exact News.get (by k_asm) (by k_mem)); (case z1 => walk_at "sz"); (case z2 => walk_at "sz"); (case z3 => walk_at "sz"); k_whole); intro _ _))
  (k_with "setItem ref int" => (k_here; (with_reducible show wpAny _ _ (setItem (Value.ref _) (Value.int _ _) (Value.int _ _)) _ _ _); k_dflt (refine' bo_setItemK ?F ?N ?U ?z1 ?z2 ?z3 ?z4 ?z5 ?_; (case F => k_asm); (case N => k_asm); (case U => k_upd); (case z1 => walk_at "sz"); (case z2 => walk_at "sz"); (case z3 => walk_at "sz"); (case z4 => first | (with_reducible exact bx150 _ _) | (with_reducible exact bx310 _ _) | (with_reducible exact bxu0 _ _) | walk_at "sz"); (case z5 => first | (with_reducible exact bx151 _ _) | (with_reducible exact bx311 _ _) | (with_reducible exact bxu1 _ _) | walk_at "sz"); k_whole); intro h' F' N'; (try k_sweep)))
  (k_with "compareOp Eq bytes bytes" => (k_here; (with_reducible show wpAny _ _ (compareOp CmpOp.Eq (Value.bytes (List.toArray _) _) (Value.bytes (List.toArray _) _)) _ _ _); k_dflt (refine br_eq ?_)))
  (k_with "compareOp NotEq bytes bytes" => (k_here; (with_reducible show wpAny _ _ (compareOp CmpOp.NotEq (Value.bytes (List.toArray _) _) (Value.bytes (List.toArray _) _)) _ _ _); k_dflt (refine br_ne ?_)))
  (k_with "call builtin:int.to_bytes" => (k_here; (with_reducible show wpAny _ _ (call (Value.builtin "int.to_bytes") [Value.int _ _, Value.int _ _, Value.str _ _]) _ _ _); k_dflt (refine' br_to ?z1 ?z2 ?z3 ?z4 ?_; (case z1 => walk_at "sz"); (case z2 => walk_at "sz"); (case z3 => first | assumption | walk_at "sz" | exact Int.fmod_nonneg_of_pos _ (by decide)); (case z4 => first | assumption | walk_at "sz" | exact Int.lt_of_lt_of_le (Int.fmod_lt_of_pos _ (by decide)) (by decide)); k_whole); intro _ _))
  (k_with "call ref" => (k_here; (with_reducible show wpAny _ _ (call (Value.ref _) [Value.bytes (List.toArray _) _, Value.str _ _]) _ _ _); kfb_any; k_dflt (refine br_from (by k_asm) (by k_mem) ?z1 ?_; (case z1 => walk_at "sz")); intro _ _))
  (k_with "call type:bytes" => (k_here; (with_reducible show wpAny _ _ (call (Value.type "bytes") [Value.ref _]) _ _ _); k_dflt (refine' bo_bytes ?g ?z1 ?_; (case g => exact News.get (by k_asm) (by k_mem)); (case z1 => walk_at "sz"); k_whole); intro _ _))
  (k_with "pyIter bytes" => (k_here; (with_reducible show wpAny _ _ (pyIter (Value.bytes (List.toArray _) _)) (CompPost _ _ _ _ _ _ _ _ _) _ _); k_dflt (refine' comp_row ?hh ?F ?N ?hk ?hl ?hd ?hz ?_; (case hh => exact rfl); (case F => k_asm); (case N => k_asm); (case hk => exact rfl); (case hl => intro _; exact rfl); (case hd => decide); (case hz => walk_at "sz"); k_whole); intro D' ys' h' tk' F' N' lI' iI'; (try k_sweep)))
  (k_with "call type:bytes" => (k_here; (with_reducible show wpAny _ _ (call (Value.type "bytes") [Value.ref _]) _ _ _); (with_reducible rename IntsAre _ (rowOf _) => rI); k_dflt (refine' row_bytes ?F ?N ?hh ?hl rI ?hz ?_; (case F => k_asm); (case N => k_asm); (case hh => exact rfl); (case hl => assumption); (case hz => walk_at "sz"); k_whole); intro h' _ _ F' N'; (try k_sweep)))
  (k_with "call type:bytes" => (k_here; (with_reducible show wpAny _ _ (call (Value.type "bytes") [Value.int _ _]) _ _ _); k_dflt (refine' br_zerosX ?z1 ?z2 ?_; (case z1 => first | decide | (first | lia | omega)); (case z2 => first | decide | (first | lia | omega)); k_whole); intro _ _ _ _))
  (k_with "call builtin:list.append" => (k_here; (with_reducible show wpAny _ _ (call (Value.builtin _) [Value.ref _, _]) _ _ _); k_dflt (refine' app_L ?k1 ?k2 ?k3 ?z ?_; (case k1 => k_asm); (case k2 => k_asm); (case k3 => k_upd); (case z => first | assumption | (simp only [List.length_append, List.length_cons, List.length_nil]; (first | lia | omega))); k_whole); intro h' F' N'; (try k_sweep)))
  (k_with "eval ListComp" => (k_here; (with_reducible rename Fr _ _ _ _ => lF'); k_dflt (refine' ListComp_T lF' ?hh ?c1 ?c2 ?c3 ?c4 ?c5 ?_; (case hh => exact rfl); (case c1 => with_unfolding_all rfl); (case c2 => decide); (case c3 => exact rfl); (case c4 => decide); (case c5 => exact rfl))))
  first | walk1 | trivial
section
open PyProof.Rows.LCg
abbrev clD (L : Addr) : List (Str × Addr) := [(Str.ofString "name", L + 1 + 1), (Str.ofString "k", L + 1)]
section
variable {prog p : Program} {w : World} {loose : List Str} {mean : ExcName → Option Value} {mg mb : Str → Option Value} {base g : Heap} {dp un : Nat} {gd : Option (List Code)} {cn : Str} {cs : Scope} {L₀ L ea l : Addr} {ccd : Value} {cl : List (Str × Addr)} {outer : List Env}
  {nm : List UInt8} {tn tk : Tok} {k : Int} {ok on : Obj}
def stepD (k : Int) (nm : List UInt8) (sz : Int) : List UInt8 × Int := (nm, if k < 3 ∧ sz = 12 then 12 else -1)
theorem lines_C12_1 : True := by
  (k_with "ed_go" => (first | exact (if_pos ⟨by assumption, by (first | lia | omega)⟩).symm | exact (if_neg fun q => by have := q.1; have := q.2; (first | lia | omega)).symm))
  trivial
theorem tup_as {h₀ h : Heap} {L D : Addr} {v : Value} {t : Tok} {k k' : Int} {r : List (Addr × Obj)} (e : k = k') (N : News h₀ L h ((D, tupN [v, .int k t]) :: r)) : News h₀ L h ((D, tupN [v, .int k' t]) :: r) := e ▸ N
set_option maxHeartbeats 1000000 in
theorem elt_spec {s : Shared} {Q E : Value → Shared → Prop} {I C D : Addr} {oI oC : Obj} {m m₂ : Str → Option Value} {ys : List Value} {all : List (Addr × Obj)} {sz : Int} {t : Tok}
    (B : Below (ktrTop dp un gd cn cs L₀ ea ccd cl outer) base (envX cn cs L₀ ea ccd cl :: outer) g) (X : (hd.heap_39 w.params).In g) (T : Top p loose mean mg mb g)
    (F : Fr g L s.heap m) (N : News g L s.heap ((I, oI) :: (C, oC) :: (D, lst ys) :: (L + 1, ok) :: (L + 1 + 1, on) :: all)) (hC : NsObj oC m₂) (hx : m₂ (Str.ofString "size") = some (.int sz t))
    (dk : ok.data = .cell (some (.int k tk))) (dn : on.data = .cell (some (.bytes nm.toArray tn)))
    (ret : ∀ T t1 t2 h' tk', Fr g L h' m → News g L h' ((T, tupN [Value.bytes nm.toArray t1, Value.int (if k < 3 ∧ sz = 12 then 12 else -1) t2]) :: (I, oI) :: (C, oC) :: (D, lst ys) :: (L + 1, ok) :: (L + 1 + 1, on) :: all) →
      T ≠ I → T ≠ C → T ≠ D → Q (.ref T) { s with heap := h', toks := tk' }) :
    wpAny (model prog w) ((ktrTop dp un gd cn cs L₀ ea ccd cl outer).deeper (envD L)) (eval eltD (compEnvC scopeD (clD L) C (envD L))) Q E s := by
  conv in eltD => whnf
  conv in scopeD => whnf
  k_steps
  all_goals
    (rename Fr _ _ _ _ => F1)
    (rename News _ _ _ _ => N1)
    refine ret _ _ _ _ _ F1 (tup_as ?e N1) ?a ?b ?c
    case e => walk_at "ed_go"
    case a => k_ne
    case b => k_ne
    case c => k_ne
theorem rest_D {s₂ : Shared} {m : Str → Option Value} {ax : Addr} {szs : List (Int × Tok)} {Fin : List Value → List (Addr × Obj) → Prop}
    (B : Below (ktrTop dp un gd cn cs L₀ ea ccd cl outer) base (envX cn cs L₀ ea ccd cl :: outer) g) (X : (hd.heap_39 w.params).In g) (T : Top p loose mean mg mb g)
    (dk : ok.data = .cell (some (.int k tk))) (dn : on.data = .cell (some (.bytes nm.toArray tn))) : ∀ (c i : Nat), i + c = szs.length → ∀ (ys : List Value) (all : List (Addr × Obj)) (ps : List (List UInt8 × Int)),
    (ax, tupN (szs.map fun q => Value.int q.1 q.2)) ∈ all → PIn all ys ps →
    (∀ ys' all', (∀ q ∈ all, q ∈ all') → PIn all' ys' (ps ++ (szs.drop i).map fun q => stepD k nm q.1) → Fin ys' ((L + 1, ok) :: (L + 1 + 1, on) :: all')) →
    CompRest prog w ((ktrTop dp un gd cn cs L₀ ea ccd cl outer).deeper (envD L)) g L m (envD L) eltD (Str.ofString "size") scopeD (clD L) s₂ (fun nw => (ax, tupN (szs.map fun q => Value.int q.1 q.2)) ∈ nw)
      (fun i v => (szs.map fun q => Value.int q.1 q.2).toArray[i]? = some v) Fin c i ys ((L + 1, ok) :: (L + 1 + 1, on) :: all) := by
  intro c
  induction c with
  | zero =>
    intro i hi ys all ps hax hP fin
    refine CompRest.zero (fin ys all (fun _ h => h) ?_)
    rw [List.drop_eq_nil_of_le (by (first | lia | omega)), List.map_nil, List.append_nil]
    exact hP
  | succ c ih =>
    intro i hi ys all ps hax hP fin
    have hlt : i < szs.length := by (first | lia | omega)
    refine CompRest.succ fun v I oI C oC D m₂ h tk' E' hv hC hx F1 N1 off ne => ?_
    have hv' : v = .int szs[i].1 szs[i].2 := by
      have : (szs.map fun q => Value.int q.1 q.2)[i]? = some v := by simpa using hv
      rw [List.getElem?_map, List.getElem?_eq_getElem hlt] at this
      exact (Option.some.inj this).symm
    subst hv'
    refine elt_spec B X T F1 N1 hC hx dk dn ?_
    intro D' t1 t2 h' tk2 F2 N2 n1 n2 n3
    have offm := off.mem
    refine CompEnd.intro F2 N2 ((L + 1, ok) :: (L + 1 + 1, on) :: (D', tupN [Value.bytes nm.toArray t1, Value.int (if k < 3 ∧ szs[i].1 = 12 then 12 else -1) t2]) :: all) (fun q hq => ?_) (Off3.of fun q hq => ?_) (.tail _ (.tail _ (.tail _ hax))) ?_
    · simp only [List.mem_cons] at hq ⊢
      rcases hq with h | h | h | h | h | h | h <;> simp [h]
    · rcases List.mem_cons.mp hq with rfl | hq
      · exact offm _ (.head _)
      rcases List.mem_cons.mp hq with rfl | hq
      · exact offm _ (.tail _ (.head _))
      rcases List.mem_cons.mp hq with rfl | hq
      · exact ⟨n1, n2, n3⟩
      · exact offm _ (.tail _ (.tail _ hq))
    · refine ih (i + 1) (by (first | lia | omega)) (ys ++ [Value.ref D']) _ (ps ++ [stepD k nm szs[i].1]) (.tail _ hax) (PIn.snoc (.head _) (hP.mono fun _ _ hm => .tail _ hm)) fun ys' all' sub hP' => ?_
      refine fin ys' all' (fun q hq => sub q (.tail _ hq)) ?_
      rw [List.drop_eq_getElem_cons hlt, List.map_cons]
      rw [List.append_assoc] at hP'
      exact hP'
end
end

theorem lines_C13 : True := by
  w_top off
  k_with_none
  (k_with "sz" => (first | (first | lia | omega) | (simp only [List.length_append, List.length_cons, List.length_nil, List.length_take, List.length_drop, List.length_map, List.length_set, List.length_replicate, toB_length, cutB_length]; (first | lia | omega))))
  (k_with "dp" => ((try simp only [depth_mark, depth_under_make, depth_under_kw, depth_in1, depth_deeper, depth_caller]); (try dsimp only [ktrTop]); (first | lia | omega)))
  (k_with "k_room" => ((try simp only [depth_mark, depth_under_make, depth_under_kw, depth_in1, depth_deeper, depth_caller]); simp only [recursionLimit]; (first | lia | omega)))
  (k_with "cell_enter" => (refine' enterF ?k1 ?k2 ?k3 ?k4 ?k5 ?kA ?kF ?kK ?k6 ?k7 ?k8 ?k9 ?kB ?_ ?c2 ?c3 ?c4 ?c5; (case kA => exact rfl); (case kF => exact rfl); (case kK => assumption); (case k1 => k_asm); (case k2 => k_asm); (case k3 => k_asm); (case k4 => k_asm); (case k5 => k_asm); (case k6 => k_is); (case k7 => k_is); (case k8 => ktr_room); (case k9 => exact BindsTo.of_eq rfl); (case c5 => decide); (case kB => exact locs rfl); (case c2 => exact rfl); (case c3 => exact rfl); (case c4 => exact rfl); k_whole; intro g' L' h' HG' F' N' B' X' T'; (try dsimp only)))
  (k_with "cell_enterP" => (refine' enterP ?k1 ?k2 ?k3 ?k4 ?k5 ?kA ?kF ?kK ?k6 ?k7 ?k8 ?k9 ?kB ?_ ?c2 ?c3 ?c4 ?c5; (case kA => exact rfl); (case kF => exact rfl); (case kK => assumption); (case k1 => k_asm); (case k2 => k_asm); (case k3 => k_asm); (case k4 => k_asm); (case k5 => k_asm); (case k6 => k_is); (case k7 => k_is); (case k8 => ktr_room); (case k9 => exact BindsTo.of_eq rfl); (case c5 => decide); (case kB => exact locs rfl); (case c2 => exact rfl); (case c3 => exact rfl); (case c4 => exact rfl); k_whole; intro g' L' h' HG' F' N' B' X' T'; (try dsimp only)))
  (k_with "binaryOp Add bytes bytes" => (k_here; (with_reducible show wpAny _ _ (binaryOp Operator.Add (Value.bytes (List.toArray _) _) (Value.bytes (List.toArray _) _)) _ _ _); k_dflt (refine' br_add ?z1 ?z2 ?_; (case z1 => walk_at "sz"); (case z2 => walk_at "sz"); k_whole); intro _ _))
  (k_with "call builtin:len" => (k_here; (with_reducible show wpAny _ _ (call (Value.builtin "len") [Value.bytes (List.toArray _) _]) _ _ _); k_dflt (refine' br_len ?z1 ?_; (case z1 => walk_at "sz"); k_whole); intro _ _))
  (k_with "subscriptTail" => (k_here; (with_reducible show wpAny _ _ (subscriptTail _ _ (Value.bytes (List.toArray _) _) (Value.int _ _)) _ _ _); k_dflt (refine' br_item ?z1 ?z2 ?z3 ?_; (case z1 => walk_at "sz"); (case z2 => walk_at "sz"); (case z3 => walk_at "sz"); k_whole); intro _ _))
  (k_with "subscriptTail" => (k_here; (with_reducible show wpAny _ _ (subscriptTail _ (Expr.Slice (some _) (some _) none _) (Value.bytes (List.toArray _) _) (Value.ref _)) _ _ _); (with_reducible rename Fr _ _ _ _ => F'); (with_reducible rename News _ _ _ _ => N'); k_dflt (refine' br_cut (s := ⟨_, _, _, _, _⟩) F' N' ?z1 ?z2 ?z3 ?_; (case z1 => walk_at "sz"); (case z2 => walk_at "sz"); (case z3 => walk_at "sz"); k_whole); intro h' _ _ F' N'; (try k_sweep)))
  (k_with "subscriptTail" => (k_here; (with_reducible show wpAny _ _ (subscriptTail _ (Expr.Slice (some _) none none _) (Value.bytes (List.toArray _) _) (Value.ref _)) _ _ _); (with_reducible rename Fr _ _ _ _ => F'); (with_reducible rename News _ _ _ _ => N'); k_dflt (refine' br_cutFrom (s := ⟨_, _, _, _, _⟩) F' N' ?z1 ?z2 ?_; (case z1 => walk_at "sz"); (case z2 => walk_at "sz"); k_whole); intro h' _ _ F' N'; (try k_sweep)))
  (k_with "subscriptTail" => (k_here; (with_reducible show wpAny _ _ (subscriptTail _ (Expr.Slice none (some _) none _) (Value.bytes (List.toArray _) _) (Value.ref _)) _ _ _); (with_reducible rename Fr _ _ _ _ => F'); (with_reducible rename News _ _ _ _ => N'); k_dflt (refine' br_cutTo (s := ⟨_, _, _, _, _⟩) F' N' ?z1 ?z2 ?_; (case z1 => walk_at "sz"); (case z2 => walk_at "sz"); k_whole); intro h' _ _ F' N'; (try k_sweep)))
  (k_with "subscriptTail" => (k_here; (with_reducible show wpAny _ _ (subscriptTail _ _ (Value.ref _) (Value.int _ _)) _ _ _); k_dflt (refine' bo_tail ?g ?z1 ?z2 ?z3 ?_; (case g => exact News.get (by k_asm) (by k_mem)); (case z1 => walk_at "sz"); (case z2 => walk_at "sz"); (case z3 => walk_at "sz"); k_whole); intro _ _))
  (k_with "subscriptTail" => (k_here; (with_reducible show wpAny _ _ (subscriptTail _ (Expr.Slice none (some _) none _) (Value.ref _) (Value.ref _)) _ _ _); (with_reducible rename Fr _ _ _ _ => F'); (with_reducible rename News _ _ _ _ => N'); k_dflt (refine' bo_cutTo (s := ⟨_, _, _, _, _⟩) F' N' ?m ?z1 ?z2 ?_; (case m => k_mem); (case z1 => walk_at "sz"); (case z2 => walk_at "sz"); k_whole); intro h' x' F' N' l1; (try k_lt l1); (try k_sweep)))
  (k_with "getItem ref int" => (k_here; k_dflt (refine' bo_getItem ?g ?z1 ?z2 ?z3 ?_; (case g => exact News.get (by k_asm) (by k_mem)); (case z1 => walk_at "sz"); (case z2 => walk_at "sz"); (case z3 => walk_at "sz"); k_whole); intro _ _))
  (k_with "setItem ref int" => (k_here; (with_reducible show wpAny _ _ (setItem (Value.ref _) (Value.int _ _) (Value.int _ _)) _ _ _); k_dflt (refine' bo_setItemK ?F ?N ?U ?z1 ?z2 ?z3 ?z4 ?z5 ?_; (case F => k_asm); (case N => k_asm); (case U => k_upd); (case z1 => walk_at "sz"); (case z2 => walk_at "sz"); (case z3 => walk_at "sz"); (case z4 => first | (with_reducible exact bx150 _ _) | (with_reducible exact bx310 _ _) | (with_reducible exact bxu0 _ _) | walk_at "sz"); (case z5 => first | (with_reducible exact bx151 _ _) | (with_reducible exact bx311 _ _) | (with_reducible exact bxu1 _ _) | walk_at "sz"); k_whole); intro h' F' N'; (try k_sweep)))
  (k_with "compareOp Eq bytes bytes" => (k_here; (with_reducible show wpAny _ _ (compareOp CmpOp.Eq (Value.bytes (List.toArray _) _) (Value.bytes (List.toArray _) _)) _ _ _); k_dflt (refine br_eq ?_)))
  (k_with "compareOp NotEq bytes bytes" => (k_here; (with_reducible show wpAny _ _ (compareOp CmpOp.NotEq (Value.bytes (List.toArray _) _) (Value.bytes (List.toArray _) _)) _ _ _); k_dflt (refine br_ne ?_)))
  (k_with "call builtin:int.to_bytes" => (k_here; (with_reducible show wpAny _ _ (call (Value.builtin "int.to_bytes") [Value.int _ _, Value.int _ _, Value.str _ _]) _ _ _); k_dflt (refine' br_to ?z1 ?z2 ?z3 ?z4 ?_; (case z1 => walk_at "sz"); (case z2 => walk_at "sz"); (case z3 => first | assumption | walk_at "sz" | exact Int.fmod_nonneg_of_pos _ (by decide)); (case z4 => first | assumption | walk_at "sz" | exact Int.lt_of_lt_of_le (Int.fmod_lt_of_pos _ (by decide)) (by decide)); k_whole); intro _ _))
  (k_with "call ref" => (k_here; (with_reducible show wpAny _ _ (call (Value.ref _) [Value.bytes (List.toArray _) _, Value.str _ _]) _ _ _); kfb_any; k_dflt (refine br_from (by k_asm) (by k_mem) ?z1 ?_; (case z1 => walk_at "sz")); intro _ _))
  (k_with "call type:bytes" => (k_here; (with_reducible show wpAny _ _ (call (Value.type "bytes") [Value.ref _]) _ _ _); k_dflt (refine' bo_bytes ?g ?z1 ?_; (case g => exact News.get (by k_asm) (by k_mem)); (case z1 => walk_at "sz"); k_whole); intro _ _))
  (k_with "pyIter bytes" => (k_here; (with_reducible show wpAny _ _ (pyIter (Value.bytes (List.toArray _) _)) (CompPost _ _ _ _ _ _ _ _ _) _ _); k_dflt (refine' comp_row ?hh ?F ?N ?hk ?hl ?hd ?hz ?_; (case hh => exact rfl); (case F => k_asm); (case N => k_asm); (case hk => exact rfl); (case hl => intro _; exact rfl); (case hd => decide); (case hz => walk_at "sz"); k_whole); intro D' ys' h' tk' F' N' lI' iI'; (try k_sweep)))
  (k_with "call type:bytes" => (k_here; (with_reducible show wpAny _ _ (call (Value.type "bytes") [Value.ref _]) _ _ _); (with_reducible rename IntsAre _ (rowOf _) => rI); k_dflt (refine' row_bytes ?F ?N ?hh ?hl rI ?hz ?_; (case F => k_asm); (case N => k_asm); (case hh => exact rfl); (case hl => assumption); (case hz => walk_at "sz"); k_whole); intro h' _ _ F' N'; (try k_sweep)))
  (k_with "call type:bytes" => (k_here; (with_reducible show wpAny _ _ (call (Value.type "bytes") [Value.int _ _]) _ _ _); k_dflt (refine' br_zerosX ?z1 ?z2 ?_; (case z1 => first | decide | (first | lia | omega)); (case z2 => first | decide | (first | lia | omega)); k_whole); intro _ _ _ _))
  (k_with "call builtin:list.append" => (k_here; (with_reducible show wpAny _ _ (call (Value.builtin _) [Value.ref _, _]) _ _ _); k_dflt (refine' app_L ?k1 ?k2 ?k3 ?z ?_; (case k1 => k_asm); (case k2 => k_asm); (case k3 => k_upd); (case z => first | assumption | (simp only [List.length_append, List.length_cons, List.length_nil]; (first | lia | omega))); k_whole); intro h' F' N'; (try k_sweep)))
  (k_with "eval ListComp" => (k_here; (with_reducible rename Fr _ _ _ _ => lF'); k_dflt (refine' ListComp_T lF' ?hh ?c1 ?c2 ?c3 ?c4 ?c5 ?_; (case hh => exact rfl); (case c1 => with_unfolding_all rfl); (case c2 => decide); (case c3 => exact rfl); (case c4 => decide); (case c5 => exact rfl))))
  first | walk1 | trivial
section
open PyProof.Rows.LCg
section
variable {prog p : Program} {w : World} {loose : List Str} {mean : ExcName → Option Value} {mg mb : Str → Option Value} {base g : Heap} {dp un : Nat} {gd : Option (List Code)} {cn : Str} {cs : Scope} {L₀ L ea l : Addr} {ccd : Value} {cl : List (Str × Addr)} {outer : List Env}
  {nm : List UInt8} {tn tk : Tok} {k : Int} {ok on : Obj}
theorem PIn.length {o : List (Addr × Obj)} : ∀ {vs : List Value} {ps : List (List UInt8 × Int)}, PIn o vs ps → vs.length = ps.length
  | [], [], _ => rfl
  | [], _ :: _, h => (show False from h).elim
  | _ :: _, [], h => (show False from h).elim
  | _ :: _, _ :: _, ⟨_, r⟩ => by rw [List.length_cons, List.length_cons, PIn.length r]
theorem Fr.congr {g h : Heap} {L : Addr} {m m' : Str → Option Value} (F : Fr g L h m) (e : ∀ y, m y = m' y) : Fr g L h m' := (funext e) ▸ F
theorem storeC {M : Model} {A : Around} {E : Value → Shared → Prop} {s : Shared} {h₀ : Heap} {L : Addr} {m : Str → Option Value} {news : List (Addr × Obj)} {name : Str} {scope : Scope} {a : Addr} {cd : Value} {x : Str} {v : Value} {Q : Unit → Shared → Prop} (F : Fr h₀ L s.heap m) (N : News h₀ L s.heap news)
    (h : ∀ h', Fr h₀ L h' (fun y => if y = x then some v else m y) → News h₀ L h' news → Q () { s with heap := h', toks := s.toks + 1 })
    (hk : scope.kind = .function := by rfl) (hl : (envOfC name scope L a cd).kindOf x = some .local := by rfl) :
    wpAny M A (storeName (envOfC name scope L a cd) x v) Q E s :=
  wpAny_storeName_local hl F.ns (fun h' hn hs => h h' (F.set hn hs) (N.set hs))
    (by show (scope.kind == .class || (scope.kind == .module && L != mainGlobals)) = false; rw [hk]; rfl)
theorem news_rot {h₀ h : Heap} {L : Addr} {x a b : Addr × Obj} {r : List (Addr × Obj)} (N : News h₀ L h (x :: a :: b :: r)) : News h₀ L h (a :: b :: x :: r) := News.sub N fun q hq => by
  simp only [List.mem_cons] at hq ⊢
  rcases hq with h | h | h | h <;> simp [h]
set_option maxHeartbeats 1000000 in
theorem dueA {s : Shared} {Q : Flow → Shared → Prop} {mf : Str → Option Value} {vs : List Value} {n : Nat} {all : List (Addr × Obj)} {ps : List (List UInt8 × Int)}
    (B : Below (ktrTop dp un gd cn cs L₀ ea ccd cl outer) base (envX cn cs L₀ ea ccd cl :: outer) g) (X : (hd.heap_39 w.params).In g) (T : Top p loose mean mg mb g)
    (F : Fr g L s.heap (fun y => if y = Str.ofString "found" then some (.ref l) else mf y)) (N : News g L s.heap ((L + 1, ok) :: (L + 1 + 1, on) :: (l, PySem.W.listOf vs.toArray n) :: all))
    (dk : ok.data = .cell (some (.int k tk))) (dn : on.data = .cell (some (.bytes nm.toArray tn))) (hP : PIn all vs ps) (hvs : vs.length ≤ 500) (hkd : cs.kind = .function) (hdp : dp ≤ 360)
    (ret : ∀ l2 ys n2 all' h' tk', Fr g L h' (fun y => if y = Str.ofString "found" then some (.ref l2) else mf y) → News g L h' ((l2, PySem.W.listOf (vs ++ ys).toArray n2) :: (L + 1, ok) :: (L + 1 + 1, on) :: all') → (∀ q ∈ all, q ∈ all') → PIn all' ys ([12, 11, 13, 0].map (stepD k nm)) →
      (∀ q ∈ (L + 1, ok) :: (L + 1 + 1, on) :: all', q.1 < l2) → Q .next { s with heap := h', toks := tk' }) :
    wpAny (model prog w) ((ktrTop dp un gd cn cs L₀ ea ccd cl outer).deeper (envD L)) (exec st_182_1_0 (envD L)) Q NoE s := by
  conv in st_182_1_0 => whnf
  k_steps
  (rename Fr _ _ _ _ => F')
  (rename News _ _ _ _ => N')
  refine ⟨_, [.int 12 _, .int 11 _, .int 13 _, .int 0 _], _, rfl, F', news_rot N', .tail _ (.tail _ (.head _)), by simp, fun s₂ hs₂ => ?_⟩
  obtain ⟨g1, rfl⟩ := hs₂
  refine rest_D (szs := [(12, _), (11, _), (13, _), (0, _)]) B X T dk dn 4 0 rfl [] _ [] (.head _) trivial fun ys all' sub hP' => ?_
  intro D1 h1 tk1 F1 N1 off
  have hl' := sub _ (.tail _ (.head _))
  have N2 := News.sub N1 (b := (D1, lst ys) :: (l, PySem.W.listOf vs.toArray n) :: (L + 1, ok) :: (L + 1 + 1, on) :: all') (fun q hq => by
    simp only [List.mem_cons] at hq ⊢
    rcases hq with h | h | h | h | h <;> first | (simp [h]; done) | (subst h; exact .inr (.inr (.inr hl'))))
  clear N1 N'
  k_steps
  have hlen := PIn.length hP'
  simp only [List.length_append, List.length_map, List.length_cons, List.length_nil, List.drop_zero, List.nil_append] at hlen
  refine add_lists (vs := vs) (ws := ys) F1 N2 ⟨_, N2.get (.tail _ (.head _)), rfl, _, rfl⟩ ⟨_, N2.get (.head _), rfl, _, rfl⟩ (fun h3 F3 N3 => ?_) (by rw [sizeLine_eq]; (first | lia | omega))
  refine storeC F3 N3 (fun h4 F4 N4 => ?_) rfl rfl
  have F5 := Fr.congr F4 (m' := fun y => if y = Str.ofString "found" then some (.ref h1.objs.size) else mf y) (fun y => by
    by_cases h : y = Str.ofString "found"
    · rw [if_pos h, if_pos h]
    · rw [if_neg h, if_neg h, if_neg h])
  refine ret h1.objs.size ys 0 ((D1, lst ys) :: all') h4 _ F5 (News.sub N4 fun q hq => ?_) (fun q hq => .tail _ (sub _ (.tail _ (.tail _ hq)))) (PIn.mono (fun _ _ hm => .tail _ hm) hP') fun q hq => ?_
  · simp only [List.mem_cons] at hq ⊢
    rcases hq with h | h | h | h | h <;> simp [h]
  · have hq' : q ∈ (D1, lst ys) :: (l, PySem.W.listOf vs.toArray n) :: (L + 1, ok) :: (L + 1 + 1, on) :: all' := by
      simp only [List.mem_cons] at hq ⊢
      rcases hq with h | h | h | h <;> simp [h]
    exact Heap.lt_size (N2.get hq')
end
end

theorem lines_C14 : True := by
  w_top off
  k_with_none
  (k_with "sz" => (first | (first | lia | omega) | (simp only [List.length_append, List.length_cons, List.length_nil, List.length_take, List.length_drop, List.length_map, List.length_set, List.length_replicate, toB_length, cutB_length]; (first | lia | omega))))
  (k_with "dp" => ((try simp only [depth_mark, depth_under_make, depth_under_kw, depth_in1, depth_deeper, depth_caller]); (try dsimp only [ktrTop]); (first | lia | omega)))
  (k_with "k_room" => ((try simp only [depth_mark, depth_under_make, depth_under_kw, depth_in1, depth_deeper, depth_caller]); simp only [recursionLimit]; (first | lia | omega)))
  (k_with "cell_enter" => (refine' enterF ?k1 ?k2 ?k3 ?k4 ?k5 ?kA ?kF ?kK ?k6 ?k7 ?k8 ?k9 ?kB ?_ ?c2 ?c3 ?c4 ?c5; (case kA => exact rfl); (case kF => exact rfl); (case kK => assumption); (case k1 => k_asm); (case k2 => k_asm); (case k3 => k_asm); (case k4 => k_asm); (case k5 => k_asm); (case k6 => k_is); (case k7 => k_is); (case k8 => ktr_room); (case k9 => exact BindsTo.of_eq rfl); (case c5 => decide); (case kB => exact locs rfl); (case c2 => exact rfl); (case c3 => exact rfl); (case c4 => exact rfl); k_whole; intro g' L' h' HG' F' N' B' X' T'; (try dsimp only)))
  (k_with "cell_enterP" => (refine' enterP ?k1 ?k2 ?k3 ?k4 ?k5 ?kA ?kF ?kK ?k6 ?k7 ?k8 ?k9 ?kB ?_ ?c2 ?c3 ?c4 ?c5; (case kA => exact rfl); (case kF => exact rfl); (case kK => assumption); (case k1 => k_asm); (case k2 => k_asm); (case k3 => k_asm); (case k4 => k_asm); (case k5 => k_asm); (case k6 => k_is); (case k7 => k_is); (case k8 => ktr_room); (case k9 => exact BindsTo.of_eq rfl); (case c5 => decide); (case kB => exact locs rfl); (case c2 => exact rfl); (case c3 => exact rfl); (case c4 => exact rfl); k_whole; intro g' L' h' HG' F' N' B' X' T'; (try dsimp only)))
  (k_with "binaryOp Add bytes bytes" => (k_here; (with_reducible show wpAny _ _ (binaryOp Operator.Add (Value.bytes (List.toArray _) _) (Value.bytes (List.toArray _) _)) _ _ _); k_dflt (refine' br_add ?z1 ?z2 ?_; (case z1 => walk_at "sz"); (case z2 => walk_at "sz"); k_whole); intro _ _))
  (k_with "call builtin:len" => (k_here; (with_reducible show wpAny _ _ (call (Value.builtin "len") [Value.bytes (List.toArray _) _]) _ _ _); k_dflt (refine' br_len ?z1 ?_; (case z1 => walk_at "sz"); k_whole); intro _ _))
  (k_with "subscriptTail" => (k_here; (with_reducible show wpAny _ _ (subscriptTail _ _ (Value.bytes (List.toArray _) _) (Value.int _ _)) _ _ _); k_dflt (refine' br_item ?z1 ?z2 ?z3 ?_; (case z1 => walk_at "sz"); (case z2 => walk_at "sz"); (case z3 => walk_at "sz"); k_whole); intro _ _))
  (k_with "subscriptTail" => (k_here; (with_reducible show wpAny _ _ (subscriptTail _ (Expr.Slice (some _) (some _) none _) (Value.bytes (List.toArray _) _) (Value.ref _)) _ _ _); (with_reducible rename Fr _ _ _ _ => F'); (with_reducible rename News _ _ _ _ => N'); k_dflt (refine' br_cut (s := ⟨_, _, _, _, _⟩) F' N' ?z1 ?z2 ?z3 ?_; (case z1 => walk_at "sz"); (case z2 => walk_at "sz"); (case z3 => walk_at "sz"); k_whole); intro h' _ _ F' N'; (try k_sweep)))
  (k_with "subscriptTail" => (k_here; (with_reducible show wpAny _ _ (subscriptTail _ (Expr.Slice (some _) none none _) (Value.bytes (List.toArray _) _) (Value.ref _)) _ _ _); (with_reducible rename Fr _ _ _ _ => F'); (with_reducible rename News _ _ _ _ => N'); k_dflt (refine' br_cutFrom (s := ⟨_, _, _, _, _⟩) F' N' ?z1 ?z2 ?_; (case z1 => walk_at "sz"); (case z2 => walk_at "sz"); k_whole); intro h' _ _ F' N'; (try k_sweep)))
  (k_with "subscriptTail" => (k_here; (with_reducible show wpAny _ _ (subscriptTail _ (Expr.Slice none (some _) none _) (Value.bytes (List.toArray _) _) (Value.ref _)) _ _ _); (with_reducible rename Fr _ _ _ _ => F'); (with_reducible rename News _ _ _ _ => N'); k_dflt (refine' br_cutTo (s := ⟨_, _, _, _, _⟩) F' N' ?z1 ?z2 ?_; (case z1 => walk_at "sz"); (case z2 => walk_at "sz"); k_whole); intro h' _ _ F' N'; (try k_sweep)))
  (k_with "subscriptTail" => (k_here; (with_reducible show wpAny _ _ (subscriptTail _ _ (Value.ref _) (Value.int _ _)) _ _ _); k_dflt (refine' bo_tail ?g ?z1 ?z2 ?z3 ?_; (case g => exact News.get (by k_asm) (by k_mem)); (case z1 => walk_at "sz"); (case z2 => walk_at "sz"); (case z3 => walk_at "sz"); k_whole); intro _ _))
  (k_with "subscriptTail" => (k_here; (with_reducible show wpAny _ _ (subscriptTail _ (Expr.Slice none (some _) none _) (Value.ref _) (Value.ref _)) _ _ _); (with_reducible rename Fr _ _ _ _ => F'); (with_reducible rename News _ _ _ _ => N'); k_dflt (refine' bo_cutTo (s := ⟨_, _, _, _, _⟩) F' N' ?m ?z1 ?z2 ?_; (case m => k_mem); (case z1 => walk_at "sz"); (case z2 => walk_at "sz"); k_whole); intro h' x' F' N' l1; (try k_lt l1); (try k_sweep)))
  (k_with "getItem ref int" => (k_here; k_dflt (refine' bo_getItem ?g ?z1 ?z2 ?z3 ?_; (case g => exact News.get (by k_asm) (by k_mem)); (case z1 => walk_at "sz"); (case z2 => walk_at "sz"); (case z3 => walk_at "sz"); k_whole); intro _ _))
  (k_with "setItem ref int" => (k_here; (with_reducible show wpAny _ _ (setItem (Value.ref _) (Value.int _ _) (Value.int _ _)) _ _ _); k_dflt (refine' bo_setItemK ?F ?N ?U ?z1 ?z2 ?z3 ?z4 ?z5 ?_; (case F => k_asm); (case N => k_asm); (case U => k_upd); (case z1 => walk_at "sz"); (case z2 => walk_at "sz"); (case z3 => walk_at "sz"); (case z4 => first | (with_reducible exact bx150 _ _) | (with_reducible exact bx310 _ _) | (with_reducible exact bxu0 _ _) | walk_at "sz"); (case z5 => first | (with_reducible exact bx151 _ _) | (with_reducible exact bx311 _ _) | (with_reducible exact bxu1 _ _) | walk_at "sz"); k_whole); intro h' F' N'; (try k_sweep)))
  (k_with "compareOp Eq bytes bytes" => (k_here; (with_reducible show wpAny _ _ (compareOp CmpOp.Eq (Value.bytes (List.toArray _) _) (Value.bytes (List.toArray _) _)) _ _ _); k_dflt (refine br_eq ?_)))
  (k_with "compareOp NotEq bytes bytes" => (k_here; (with_reducible show wpAny _ _ (compareOp CmpOp.NotEq (Value.bytes (List.toArray _) _) (Value.bytes (List.toArray _) _)) _ _ _); k_dflt (refine br_ne ?_)))
  (k_with "call builtin:int.to_bytes" => (k_here; (with_reducible show wpAny _ _ (call (Value.builtin "int.to_bytes") [Value.int _ _, Value.int _ _, Value.str _ _]) _ _ _); k_dflt (refine' br_to ?z1 ?z2 ?z3 ?z4 ?_; (case z1 => walk_at "sz"); (case z2 => walk_at "sz"); (case z3 => first | assumption | walk_at "sz" | exact Int.fmod_nonneg_of_pos _ (by decide)); (case z4 => first | assumption | walk_at "sz" | exact Int.lt_of_lt_of_le (Int.fmod_lt_of_pos _ (by decide)) (by decide)); k_whole); intro _ _))
  (k_with "call ref" => (k_here; (with_reducible show wpAny _ _ (call (Value.ref _) [Value.bytes (List.toArray _) _, Value.str _ _]) _ _ _); kfb_any; k_dflt (refine br_from (by k_asm) (by k_mem) ?z1 ?_; (case z1 => walk_at "sz")); intro _ _))
  (k_with "call type:bytes" => (k_here; (with_reducible show wpAny _ _ (call (Value.type "bytes") [Value.ref _]) _ _ _); k_dflt (refine' bo_bytes ?g ?z1 ?_; (case g => exact News.get (by k_asm) (by k_mem)); (case z1 => walk_at "sz"); k_whole); intro _ _))
  (k_with "pyIter bytes" => (k_here; (with_reducible show wpAny _ _ (pyIter (Value.bytes (List.toArray _) _)) (CompPost _ _ _ _ _ _ _ _ _) _ _); k_dflt (refine' comp_row ?hh ?F ?N ?hk ?hl ?hd ?hz ?_; (case hh => exact rfl); (case F => k_asm); (case N => k_asm); (case hk => exact rfl); (case hl => intro _; exact rfl); (case hd => decide); (case hz => walk_at "sz"); k_whole); intro D' ys' h' tk' F' N' lI' iI'; (try k_sweep)))
  (k_with "call type:bytes" => (k_here; (with_reducible show wpAny _ _ (call (Value.type "bytes") [Value.ref _]) _ _ _); (with_reducible rename IntsAre _ (rowOf _) => rI); k_dflt (refine' row_bytes ?F ?N ?hh ?hl rI ?hz ?_; (case F => k_asm); (case N => k_asm); (case hh => exact rfl); (case hl => assumption); (case hz => walk_at "sz"); k_whole); intro h' _ _ F' N'; (try k_sweep)))
  (k_with "call type:bytes" => (k_here; (with_reducible show wpAny _ _ (call (Value.type "bytes") [Value.int _ _]) _ _ _); k_dflt (refine' br_zerosX ?z1 ?z2 ?_; (case z1 => first | decide | (first | lia | omega)); (case z2 => first | decide | (first | lia | omega)); k_whole); intro _ _ _ _))
  (k_with "call builtin:list.append" => (k_here; (with_reducible show wpAny _ _ (call (Value.builtin _) [Value.ref _, _]) _ _ _); k_dflt (refine' app_L ?k1 ?k2 ?k3 ?z ?_; (case k1 => k_asm); (case k2 => k_asm); (case k3 => k_upd); (case z => first | assumption | (simp only [List.length_append, List.length_cons, List.length_nil]; (first | lia | omega))); k_whole); intro h' F' N'; (try k_sweep)))
  first | walk1 | trivial
section
section
variable {prog p : Program} {w : World} {loose : List Str} {mean : ExcName → Option Value} {mg mb : Str → Option Value} {base g : Heap} {dp un : Nat} {gd : Option (List Code)} {cn : Str} {cs : Scope} {L₀ L ea l : Addr} {ccd : Value} {cl : List (Str × Addr)} {outer : List Env}
  {nm : List UInt8} {tn tk : Tok} {k : Int} {ok on : Obj}
theorem lines_C14_1 : True := by
  (k_with "ef_go" => (first | exact (if_pos (by simp_all; (first | lia | omega))).symm | exact (if_neg (by simp_all; (first | lia | omega))).symm | (simp_all; done) | (split <;> simp_all <;> (first | lia | omega))))
  trivial
theorem news_k4 {h₀ h : Heap} {L a D : Addr} {o : Obj} {q1 q2 : Addr × Obj} {all olds : List (Addr × Obj)} {v : Value} {t : Tok} {k k' : Int} (N : News h₀ L h all) (h1 : (a, o) ∈ all) (e : k = k') (h2 : (D, tupN [v, .int k t]) ∈ all) (h4 : q1 ∈ all) (h5 : q2 ∈ all) (h3 : ∀ p ∈ olds, p ∈ all) :
    News h₀ L h ((a, o) :: (D, tupN [v, .int k' t]) :: q1 :: q2 :: olds) := fun p hp => by
  subst e
  rcases List.mem_cons.mp hp with rfl | hp
  · exact N _ h1
  rcases List.mem_cons.mp hp with rfl | hp
  · exact N _ h2
  rcases List.mem_cons.mp hp with rfl | hp
  · exact N _ h4
  rcases List.mem_cons.mp hp with rfl | hp
  · exact N _ h5
  · exact N _ (h3 p hp)
set_option maxHeartbeats 1000000 in
theorem dueB {s : Shared} {Q : Flow → Shared → Prop} {mf : Str → Option Value} {ws : List Value} {n : Nat} {all : List (Addr × Obj)}
    (B : Below (ktrTop dp un gd cn cs L₀ ea ccd cl outer) base (envX cn cs L₀ ea ccd cl :: outer) g) (X : (hd.heap_39 w.params).In g) (T : Top p loose mean mg mb g)
    (F : Fr g L s.heap (fun y => if y = Str.ofString "found" then some (.ref l) else mf y)) (N : News g L s.heap ((l, PySem.W.listOf ws.toArray n) :: (L + 1, ok) :: (L + 1 + 1, on) :: all))
    (dk : ok.data = .cell (some (.int k tk))) (dn : on.data = .cell (some (.bytes nm.toArray tn))) (hws : ws.length ≤ 900) (hkd : cs.kind = .function) (hdp : dp ≤ 360)
    (hol : ∀ q ∈ all, q.1 ≠ l) (hl1 : L + 1 < l) (hl2 : L + 1 + 1 < l)
    (ret : ∀ D n' t t' h' tk', Fr g L h' (fun y => if y = Str.ofString "found" then some (.ref l) else mf y) →
      News g L h' ((l, PySem.W.listOf (ws ++ [Value.ref D]).toArray n') :: (D, tupN [Value.bytes nm.toArray t, Value.int (if k = 3 ∨ k = 4 ∨ k = 5 then 99 else -2) t']) :: (L + 1, ok) :: (L + 1 + 1, on) :: all) → D ≠ l → Q .next { s with heap := h', toks := tk' }) :
    wpAny (model prog w) ((ktrTop dp un gd cn cs L₀ ea ccd cl outer).deeper (envD L)) (exec st_182_1_1 (envD L)) Q NoE s := by
  conv in st_182_1_1 => whnf
  have hne1 : L + 1 ≠ l := Nat.ne_of_lt hl1
  have hne2 : L + 1 + 1 ≠ l := Nat.ne_of_lt hl2
  k_steps
  all_goals
    (rename Fr _ _ _ _ => F1)
    (rename News _ _ _ _ => N1)
    (try simp only [List.push_toArray] at N1)
    refine ret _ _ _ _ _ _ F1 (news_k4 N1 (by k_mem) (e := ?ee) (by k_mem) (by k_mem) (by k_mem) (fun p hp => by repeat (first | exact hp | refine List.mem_cons_of_mem _ ?_))) ?ll
    case ll => k_ne
    case ee => walk_at "ef_go"
end
end

theorem lines_C15 : True := by
  w_top off
  k_with_none
  (k_with "sz" => (first | (first | lia | omega) | (simp only [List.length_append, List.length_cons, List.length_nil, List.length_take, List.length_drop, List.length_map, List.length_set, List.length_replicate, toB_length, cutB_length]; (first | lia | omega))))
  (k_with "dp" => ((try simp only [depth_mark, depth_under_make, depth_under_kw, depth_in1, depth_deeper, depth_caller]); (try dsimp only [ktrTop]); (first | lia | omega)))
  (k_with "k_room" => ((try simp only [depth_mark, depth_under_make, depth_under_kw, depth_in1, depth_deeper, depth_caller]); simp only [recursionLimit]; (first | lia | omega)))
  (k_with "cell_enter" => (refine' enterF ?k1 ?k2 ?k3 ?k4 ?k5 ?kA ?kF ?kK ?k6 ?k7 ?k8 ?k9 ?kB ?_ ?c2 ?c3 ?c4 ?c5; (case kA => exact rfl); (case kF => exact rfl); (case kK => assumption); (case k1 => k_asm); (case k2 => k_asm); (case k3 => k_asm); (case k4 => k_asm); (case k5 => k_asm); (case k6 => k_is); (case k7 => k_is); (case k8 => ktr_room); (case k9 => exact BindsTo.of_eq rfl); (case c5 => decide); (case kB => exact locs rfl); (case c2 => exact rfl); (case c3 => exact rfl); (case c4 => exact rfl); k_whole; intro g' L' h' HG' F' N' B' X' T'; (try dsimp only)))
  (k_with "cell_enterP" => (refine' enterP ?k1 ?k2 ?k3 ?k4 ?k5 ?kA ?kF ?kK ?k6 ?k7 ?k8 ?k9 ?kB ?_ ?c2 ?c3 ?c4 ?c5; (case kA => exact rfl); (case kF => exact rfl); (case kK => assumption); (case k1 => k_asm); (case k2 => k_asm); (case k3 => k_asm); (case k4 => k_asm); (case k5 => k_asm); (case k6 => k_is); (case k7 => k_is); (case k8 => ktr_room); (case k9 => exact BindsTo.of_eq rfl); (case c5 => decide); (case kB => exact locs rfl); (case c2 => exact rfl); (case c3 => exact rfl); (case c4 => exact rfl); k_whole; intro g' L' h' HG' F' N' B' X' T'; (try dsimp only)))
  (k_with "binaryOp Add bytes bytes" => (k_here; (with_reducible show wpAny _ _ (binaryOp Operator.Add (Value.bytes (List.toArray _) _) (Value.bytes (List.toArray _) _)) _ _ _); k_dflt (refine' br_add ?z1 ?z2 ?_; (case z1 => walk_at "sz"); (case z2 => walk_at "sz"); k_whole); intro _ _))
  (k_with "call builtin:len" => (k_here; (with_reducible show wpAny _ _ (call (Value.builtin "len") [Value.bytes (List.toArray _) _]) _ _ _); k_dflt (refine' br_len ?z1 ?_; (case z1 => walk_at "sz"); k_whole); intro _ _))
  (k_with "subscriptTail" => (k_here; (with_reducible show wpAny _ _ (subscriptTail _ _ (Value.bytes (List.toArray _) _) (Value.int _ _)) _ _ _); k_dflt (refine' br_item ?z1 ?z2 ?z3 ?_; (case z1 => walk_at "sz"); (case z2 => walk_at "sz"); (case z3 => walk_at "sz"); k_whole); intro _ _))
  (k_with "subscriptTail" => (k_here; (with_reducible show wpAny _ _ (subscriptTail _ (Expr.Slice (some _) (some _) none _) (Value.bytes (List.toArray _) _) (Value.ref _)) _ _ _); (with_reducible rename Fr _ _ _ _ => F'); (with_reducible rename News _ _ _ _ => N'); k_dflt (refine' br_cut (s := ⟨_, _, _, _, _⟩) F' N' ?z1 ?z2 ?z3 ?_; (case z1 => walk_at "sz"); (case z2 => walk_at "sz"); (case z3 => walk_at "sz"); k_whole); intro h' _ _ F' N'; (try k_sweep)))
  (k_with "subscriptTail" => (k_here; (with_reducible show wpAny _ _ (subscriptTail _ (Expr.Slice (some _) none none _) (Value.bytes (List.toArray _) _) (Value.ref _)) _ _ _); (with_reducible rename Fr _ _ _ _ => F'); (with_reducible rename News _ _ _ _ => N'); k_dflt (refine' br_cutFrom (s := ⟨_, _, _, _, _⟩) F' N' ?z1 ?z2 ?_; (case z1 => walk_at "sz"); (case z2 => walk_at "sz"); k_whole); intro h' _ _ F' N'; (try k_sweep)))
  (k_with "subscriptTail" => (k_here; (with_reducible show wpAny _ _ (subscriptTail _ (Expr.Slice none (some _) none _) (Value.bytes (List.toArray _) _) (Value.ref _)) _ _ _); (with_reducible rename Fr _ _ _ _ => F'); (with_reducible rename News _ _ _ _ => N'); k_dflt (refine' br_cutTo (s := ⟨_, _, _, _, _⟩) F' N' ?z1 ?z2 ?_; (case z1 => walk_at "sz"); (case z2 => walk_at "sz"); k_whole); intro h' _ _ F' N'; (try k_sweep)))
  (k_with "subscriptTail" => (k_here; (with_reducible show wpAny _ _ (subscriptTail _ _ (Value.ref _) (Value.int _ _)) _ _ _); k_dflt (refine' bo_tail ?g ?z1 ?z2 ?z3 ?_; (case g => exact News.get (by k_asm) (by k_mem)); (case z1 => walk_at "sz"); (case z2 => walk_at "sz"); (case z3 => walk_at "sz"); k_whole); intro _ _))
  (k_with "subscriptTail" => (k_here; (with_reducible show wpAny _ _ (subscriptTail _ (Expr.Slice none (some _) none _) (Value.ref _) (Value.ref _)) _ _ _); (with_reducible rename Fr _ _ _ _ => F'); (with_reducible rename News _ _ _ _ => N'); k_dflt (refine' bo_cutTo (s := ⟨_, _, _, _, _⟩) F' N' ?m ?z1 ?z2 ?_; (case m => k_mem); (case z1 => walk_at "sz"); (case z2 => walk_at "sz"); k_whole); intro h' x' F' N' l1; (try k_lt l1); (try k_sweep)))
  (k_with "getItem ref int" => (k_here; k_dflt (refine' bo_getItem ?g ?z1 ?z2 ?z3 ?_; (case g => exact News.get (by k_asm) (by k_mem)); (case z1 => walk_at "sz"); (case z2 => walk_at "sz"); (case z3 => walk_at "sz"); k_whole); intro _ _))
  (k_with "setItem ref int" => (k_here; (with_reducible show wpAny _ _ (setItem (Value.ref _) (Value.int _ _) (Value.int _ _)) _ _ _); k_dflt (refine' bo_setItemK ?F ?N ?U ?z1 ?z2 ?z3 ?z4 ?z5 ?_; (case F => k_asm); (case N => k_asm); (case U => k_upd); (case z1 => walk_at "sz"); (case z2 => walk_at "sz"); (case z3 => walk_at "sz"); (case z4 => first | (with_reducible exact bx150 _ _) | (with_reducible exact bx310 _ _) | (with_reducible exact bxu0 _ _) | walk_at "sz"); (case z5 => first | (with_reducible exact bx151 _ _) | (with_reducible exact bx311 _ _) | (with_reducible exact bxu1 _ _) | walk_at "sz"); k_whole); intro h' F' N'; (try k_sweep)))
  (k_with "compareOp Eq bytes bytes" => (k_here; (with_reducible show wpAny _ _ (compareOp CmpOp.Eq (Value.bytes (List.toArray _) _) (Value.bytes (List.toArray _) _)) _ _ _); k_dflt (refine br_eq ?_)))
  (k_with "compareOp NotEq bytes bytes" => (k_here; (with_reducible show wpAny _ _ (compareOp CmpOp.NotEq (Value.bytes (List.toArray _) _) (Value.bytes (List.toArray _) _)) _ _ _); k_dflt (refine br_ne ?_)))
  (k_with "call builtin:int.to_bytes" => (k_here; (with_reducible show wpAny _ _ (call (Value.builtin "int.to_bytes") [Value.int _ _, Value.int _ _, Value.str _ _]) _ _ _); k_dflt (refine' br_to ?z1 ?z2 ?z3 ?z4 ?_; (case z1 => walk_at "sz"); (case z2 => walk_at "sz"); (case z3 => first | assumption | walk_at "sz" | exact Int.fmod_nonneg_of_pos _ (by decide)); (case z4 => first | assumption | walk_at "sz" | exact Int.lt_of_lt_of_le (Int.fmod_lt_of_pos _ (by decide)) (by decide)); k_whole); intro _ _))
  (k_with "call ref" => (k_here; (with_reducible show wpAny _ _ (call (Value.ref _) [Value.bytes (List.toArray _) _, Value.str _ _]) _ _ _); kfb_any; k_dflt (refine br_from (by k_asm) (by k_mem) ?z1 ?_; (case z1 => walk_at "sz")); intro _ _))
  (k_with "call type:bytes" => (k_here; (with_reducible show wpAny _ _ (call (Value.type "bytes") [Value.ref _]) _ _ _); k_dflt (refine' bo_bytes ?g ?z1 ?_; (case g => exact News.get (by k_asm) (by k_mem)); (case z1 => walk_at "sz"); k_whole); intro _ _))
  (k_with "pyIter bytes" => (k_here; (with_reducible show wpAny _ _ (pyIter (Value.bytes (List.toArray _) _)) (CompPost _ _ _ _ _ _ _ _ _) _ _); k_dflt (refine' comp_row ?hh ?F ?N ?hk ?hl ?hd ?hz ?_; (case hh => exact rfl); (case F => k_asm); (case N => k_asm); (case hk => exact rfl); (case hl => intro _; exact rfl); (case hd => decide); (case hz => walk_at "sz"); k_whole); intro D' ys' h' tk' F' N' lI' iI'; (try k_sweep)))
  (k_with "call type:bytes" => (k_here; (with_reducible show wpAny _ _ (call (Value.type "bytes") [Value.ref _]) _ _ _); (with_reducible rename IntsAre _ (rowOf _) => rI); k_dflt (refine' row_bytes ?F ?N ?hh ?hl rI ?hz ?_; (case F => k_asm); (case N => k_asm); (case hh => exact rfl); (case hl => assumption); (case hz => walk_at "sz"); k_whole); intro h' _ _ F' N'; (try k_sweep)))
  (k_with "call type:bytes" => (k_here; (with_reducible show wpAny _ _ (call (Value.type "bytes") [Value.int _ _]) _ _ _); k_dflt (refine' br_zerosX ?z1 ?z2 ?_; (case z1 => first | decide | (first | lia | omega)); (case z2 => first | decide | (first | lia | omega)); k_whole); intro _ _ _ _))
  (k_with "call builtin:list.append" => (k_here; (with_reducible show wpAny _ _ (call (Value.builtin _) [Value.ref _, _]) _ _ _); k_dflt (refine' app_L ?k1 ?k2 ?k3 ?z ?_; (case k1 => k_asm); (case k2 => k_asm); (case k3 => k_upd); (case z => first | assumption | (simp only [List.length_append, List.length_cons, List.length_nil]; (first | lia | omega))); k_whole); intro h' F' N'; (try k_sweep)))
  first | walk1 | trivial
section
theorem lines_C15_1 : True := by
  (k_with "cls_ne" => ((show Value.type _ ≠ Value.type _; intro e; injection e with e; exact absurd e (by decide))))
  trivial
section
variable {prog p : Program} {w : World} {loose : List Str} {mean : ExcName → Option Value} {mg mb : Str → Option Value} {base g : Heap} {dp un : Nat} {gd : Option (List Code)} {cn : Str} {cs : Scope} {L₀ L ea l : Addr} {ccd : Value} {cl : List (Str × Addr)} {outer : List Env}
  {nm : List UInt8} {tn tk : Tok} {k : Int} {ok on : Obj}
set_option maxHeartbeats 1000000 in
theorem due_assign {s : Shared} {Q : Unit → Shared → Prop} {m : Str → Option Value} {T : Addr} {rest : List (Addr × Obj)} {x y : Option Value}
    (B : Below (ktrTop dp un gd cn cs L₀ ea ccd cl outer) base (envX cn cs L₀ ea ccd cl :: outer) g) (X : (hd.heap_39 w.params).In g) (TT : Top p loose mean mg mb g)
    (F : Fr g L s.heap m) (N : News g L s.heap ((T, tupN [.int k tk, .bytes nm.toArray tn]) :: (L + 1, ok) :: (L + 1 + 1, on) :: rest))
    (h1 : ∀ q ∈ rest, q.1 ≠ L + 1) (h2 : ∀ q ∈ rest, q.1 ≠ L + 1 + 1) (hT1 : T ≠ L + 1) (hT2 : T ≠ L + 1 + 1) (c1 : ok.data = .cell x) (c2 : on.data = .cell y)
    (ret : ∀ ok' on' h' tk', Fr g L h' m → News g L h' ((T, tupN [.int k tk, .bytes nm.toArray tn]) :: (L + 1, ok') :: (L + 1 + 1, on') :: rest) → ok'.data = .cell (some (.int k tk)) → on'.data = .cell (some (.bytes nm.toArray tn)) → Q () { s with heap := h', toks := tk' }) :
    wpAny (model prog w) ((ktrTop dp un gd cn cs L₀ ea ccd cl outer).deeper (envD L)) (assign targetD (envD L) (.ref T)) Q NoE s := by
  conv in targetD => whnf
  have hne : L + 1 ≠ L + 1 + 1 := Nat.ne_of_lt (Nat.lt_succ_self _)
  have hne' : L + 1 + 1 ≠ L + 1 := Ne.symm hne
  k_steps
  exact ret _ _ _ _ (by assumption) (by assumption) (by assumption) (by assumption)
theorem ne_of_data {g h : Heap} {L a b : Addr} {all : List (Addr × Obj)} {o o' : Obj} (N : News g L h all) (h1 : (a, o) ∈ all) (h2 : (b, o') ∈ all) (hc : o.data ≠ o'.data) : a ≠ b := fun e => by
  have e1 := (N _ h1).1
  have e2 := (N _ h2).1
  rw [show (a, o).1 = b from e, e2] at e1
  exact hc (congrArg Obj.data (Option.some.inj e1).symm)
theorem PIn.append {o : List (Addr × Obj)} : ∀ {vs vs' : List Value} {ps ps' : List (List UInt8 × Int)}, PIn o vs ps → PIn o vs' ps' → PIn o (vs ++ vs') (ps ++ ps')
  | [], _, [], _, _, h => h
  | [], _, _ :: _, _, h, _ => (show False from h).elim
  | _ :: _, _, [], _, h, _ => (show False from h).elim
  | _ :: _, _, _ :: _, _, ⟨q, r⟩, h => ⟨q, PIn.append r h⟩
def rowD (k : Int) (nm : List UInt8) : List (List UInt8 × Int) := [12, 11, 13, 0].map (stepD k nm) ++ [(nm, if k = 3 ∨ k = 4 ∨ k = 5 then 99 else -2)]
def rowsD : Nat → List (List UInt8) → List (List UInt8 × Int)
  | _, [] => []
  | i, nm :: r => rowD (i : Int) nm ++ rowsD (i + 1) r
theorem due_loop (B : Below (ktrTop dp un gd cn cs L₀ ea ccd cl outer) base (envX cn cs L₀ ea ccd cl :: outer) g) (X : (hd.heap_39 w.params).In g) (T : Top p loose mean mg mb g) (hkd : cs.kind = .function) (hdp : dp ≤ 360) (hh : ((ktrTop dp un gd cn cs L₀ ea ccd cl outer).deeper (envD L)).handled = none)
    {it e D : Addr} {nms : List (List UInt8 × Tok)} (hne : e ≠ it) {mf : Str → Option Value} {kp : List (Addr × Obj)} (hkp : ∀ q ∈ kp, q.1 ≠ e ∧ q.1 ≠ it ∧ q.1 ≠ L + 1 ∧ q.1 ≠ L + 1 + 1) {Q : Flow → Shared → Prop} : ∀ (c i : Nat), i + c = nms.length → ∀ (s : Shared) (ws : List Value) (n : Nat) (l : Addr) (ok on : Obj) (old : Value) (all : List (Addr × Obj)) (ps : List (List UInt8 × Int)) (x y : Option Value),
    Fr g L s.heap (fun y => if y = Str.ofString "found" then some (.ref l) else mf y) → News g L s.heap all → (e, enO it i old) ∈ all → (it, itO D i) ∈ all → (L + 1, ok) ∈ all → (L + 1 + 1, on) ∈ all → ok.data = .cell x → on.data = .cell y →
    (D, tupN (nms.map fun q => Value.bytes q.1.toArray q.2)) ∈ all → (l, PySem.W.listOf ws.toArray n) ∈ all → PIn all ws ps → (∀ q ∈ kp, q ∈ all) → ws.length + 5 * c ≤ 400 →
    (∀ l' ws' n' all' h' tk', Fr g L h' (fun y => if y = Str.ofString "found" then some (.ref l') else mf y) → News g L h' all' → (l', PySem.W.listOf ws'.toArray n') ∈ all' → PIn all' ws' (ps ++ rowsD i ((nms.map (·.1)).drop i)) → (∀ q ∈ kp, q ∈ all') → Q .next { s with heap := h', toks := tk' }) →
    LoopG prog w ((ktrTop dp un gd cn cs L₀ ea ccd cl outer).deeper (envD L)) NoE (envD L) targetD (.ref e) [st_182_1_0, st_182_1_1] Q s := by
  intro c
  induction c with
  | zero =>
    intro i hi s ws n l ok on old all ps x y F N he hit h1 h2 c1 c2 hD hl hP hks hws ret
    have N0 : News g L s.heap ((e, enO it i old) :: (it, itO D i) :: offA e (offA it all)) := fun p hp => by
      rcases List.mem_cons.mp hp with rfl | hp
      · exact N _ he
      rcases List.mem_cons.mp hp with rfl | hp
      · exact N _ hit
      · exact N _ (List.mem_filter.mp (List.mem_filter.mp hp).1).1
    have mv : ∀ (a : Addr) (o : Obj), (a, o) ∈ all → a ≠ e → a ≠ it → (a, o) ∈ offA e (offA it all) := fun a o hm n1 n2 => offA_mem (offA_mem hm n2) n1
    have mt : ∀ (a : Addr) (vs : List Value), (a, tupN vs) ∈ all → (a, tupN vs) ∈ offA e (offA it all) := fun a vs hm => mv _ _ hm (ne_of_obj N hm he (by walk_at "cls_ne")) (ne_of_obj N hm hit (by walk_at "cls_ne"))
    refine enum_done (vs := nms.map fun q => Value.bytes q.1.toArray q.2) hh F N0 (mt _ _ hD) (fun q hq => ⟨offA_ne q hq, offA_ne q (List.mem_filter.mp hq).1⟩) (List.getElem?_eq_none (by rw [List.length_map]; (first | lia | omega))) (fun h' F' N' => ?_) PassesOwn.never
    refine ret l ws n _ h' _ F' N' (mv _ _ hl (ne_of_obj N hl he (by walk_at "cls_ne")) (ne_of_obj N hl hit (by walk_at "cls_ne"))) ?_ (fun q hq => mv _ _ (hks q hq) (hkp q hq).1 (hkp q hq).2.1)
    rw [List.drop_eq_nil_of_le (by rw [List.length_map]; (first | lia | omega))]
    show PIn _ ws (ps ++ [])
    rw [List.append_nil]
    exact hP.mono mt
  | succ c ih =>
    intro i hi s ws n l ok on old all ps x y F N he hit h1 h2 c1 c2 hD hl hP hks hws ret
    have hlt : i < nms.length := by (first | lia | omega)
    have N0 : News g L s.heap ((e, enO it i old) :: (it, itO D i) :: offA e (offA it all)) := fun p hp => by
      rcases List.mem_cons.mp hp with rfl | hp
      · exact N _ he
      rcases List.mem_cons.mp hp with rfl | hp
      · exact N _ hit
      · exact N _ (List.mem_filter.mp (List.mem_filter.mp hp).1).1
    have mv : ∀ (a : Addr) (o : Obj), (a, o) ∈ all → a ≠ e → a ≠ it → (a, o) ∈ offA e (offA it all) := fun a o hm n1 n2 => offA_mem (offA_mem hm n2) n1
    have mt : ∀ (a : Addr) (vs : List Value), (a, tupN vs) ∈ all → (a, tupN vs) ∈ offA e (offA it all) := fun a vs hm => mv _ _ hm (ne_of_obj N hm he (by walk_at "cls_ne")) (ne_of_obj N hm hit (by walk_at "cls_ne"))
    have e1 : L + 1 ≠ e := ne_of_data N h1 he (by rw [c1]; exact fun z => nomatch z)
    have e2 : L + 1 ≠ it := ne_of_data N h1 hit (by rw [c1]; exact fun z => nomatch z)
    have e3 : L + 1 + 1 ≠ e := ne_of_data N h2 he (by rw [c2]; exact fun z => nomatch z)
    have e4 : L + 1 + 1 ≠ it := ne_of_data N h2 hit (by rw [c2]; exact fun z => nomatch z)
    have nc : L + 1 ≠ L + 1 + 1 := Nat.ne_of_lt (Nat.lt_succ_self _)
    refine enum_turn (vs := nms.map fun q => Value.bytes q.1.toArray q.2) (v := .bytes nms[i].1.toArray nms[i].2) F N0 (mt _ _ hD) (fun q hq => ⟨offA_ne q hq, offA_ne q (List.mem_filter.mp hq).1⟩) hne (by rw [List.getElem?_map, List.getElem?_eq_getElem hlt]; rfl) (fun T' tk' h3 F1 N1 lT => ?_) PassesOwn.never
    have k1 := mv _ _ h1 e1 e2
    have k2 := mv _ _ h2 e3 e4
    have N2 : News g L h3 ((T', tupN [.int (i : Int) tk', .bytes nms[i].1.toArray nms[i].2]) :: (L + 1, ok) :: (L + 1 + 1, on) :: offA (L + 1) (offA (L + 1 + 1) ((e, enO it (i + 1) (.bytes nms[i].1.toArray nms[i].2)) :: (it, itO D (i + 1)) :: offA e (offA it all)))) := fun p hp => by
      rcases List.mem_cons.mp hp with rfl | hp
      · exact N1 _ (.head _)
      rcases List.mem_cons.mp hp with rfl | hp
      · exact N1 _ (.tail _ (.tail _ (.tail _ k1)))
      rcases List.mem_cons.mp hp with rfl | hp
      · exact N1 _ (.tail _ (.tail _ (.tail _ k2)))
      · exact N1 _ (.tail _ (List.mem_filter.mp (List.mem_filter.mp hp).1).1)
    refine due_assign B X T F1 N2 offA_ne (fun q hq => offA_ne q (List.mem_filter.mp hq).1) (Ne.symm (Nat.ne_of_lt (lT _ (.tail _ (.tail _ k1))))) (Ne.symm (Nat.ne_of_lt (lT _ (.tail _ (.tail _ k2))))) c1 c2 ?_
    intro ok' on' h4 tk4 F2 N3 d1 d2
    have mw : ∀ (a : Addr) (o : Obj), (a, o) ∈ (e, enO it (i + 1) (.bytes nms[i].1.toArray nms[i].2)) :: (it, itO D (i + 1)) :: offA e (offA it all) → a ≠ L + 1 → a ≠ L + 1 + 1 → (a, o) ∈ offA (L + 1) (offA (L + 1 + 1) ((e, enO it (i + 1) (.bytes nms[i].1.toArray nms[i].2)) :: (it, itO D (i + 1)) :: offA e (offA it all))) :=
      fun a o hm n1 n2 => offA_mem (offA_mem hm n2) n1
    have cellne : ∀ (a : Addr) (o : Obj), (a, o) ∈ all → (∀ z, o.data ≠ .cell z) → a ≠ L + 1 ∧ a ≠ L + 1 + 1 := fun a o hm hz => ⟨ne_of_data N hm h1 (by rw [c1]; exact hz _), ne_of_data N hm h2 (by rw [c2]; exact hz _)⟩
    have mx : ∀ (a : Addr) (o : Obj), (a, o) ∈ all → a ≠ e → a ≠ it → (∀ z, o.data ≠ .cell z) → (a, o) ∈ offA (L + 1) (offA (L + 1 + 1) ((e, enO it (i + 1) (.bytes nms[i].1.toArray nms[i].2)) :: (it, itO D (i + 1)) :: offA e (offA it all))) :=
      fun a o hm n1 n2 hz => mw a o (.tail _ (.tail _ (mv a o hm n1 n2))) (cellne a o hm hz).1 (cellne a o hm hz).2
    have mtt : ∀ (a : Addr) (vs : List Value), (a, tupN vs) ∈ all → (a, tupN vs) ∈ offA (L + 1) (offA (L + 1 + 1) ((e, enO it (i + 1) (.bytes nms[i].1.toArray nms[i].2)) :: (it, itO D (i + 1)) :: offA e (offA it all))) :=
      fun a vs hm => mx _ _ hm (ne_of_obj N hm he (by walk_at "cls_ne")) (ne_of_obj N hm hit (by walk_at "cls_ne")) (fun _ z => nomatch z)
    have hlR := mx _ _ hl (ne_of_obj N hl he (by walk_at "cls_ne")) (ne_of_obj N hl hit (by walk_at "cls_ne")) (fun _ z => nomatch z)
    generalize offA (L + 1) (offA (L + 1 + 1) ((e, enO it (i + 1) (.bytes nms[i].1.toArray nms[i].2)) :: (it, itO D (i + 1)) :: offA e (offA it all))) = R at N3 mw mx mtt hlR
    have N4 : News g L h4 ((L + 1, ok') :: (L + 1 + 1, on') :: (l, PySem.W.listOf ws.toArray n) :: R) := fun p hp => by
      rcases List.mem_cons.mp hp with rfl | hp
      · exact N3 _ (.tail _ (.head _))
      rcases List.mem_cons.mp hp with rfl | hp
      · exact N3 _ (.tail _ (.tail _ (.head _)))
      rcases List.mem_cons.mp hp with rfl | hp
      · exact N3 _ (.tail _ (.tail _ (.tail _ hlR)))
      · exact N3 _ (.tail _ (.tail _ (.tail _ hp)))
    refine wpAny_execs_cons ?_
    refine dueA (s := { s with heap := h4, toks := tk4 }) B X T F2 N4 d1 d2 (hP.mono mtt) (by (first | lia | omega)) hkd hdp ?_
    intro l2 ys n2 all2 h5 tk5 F3 N5 sub2 hPy fresh
    have hylen := hPy.length
    simp only [List.length_map, List.length_cons, List.length_nil] at hylen
    refine wpAny_execs_cons ?_
    refine dueB (s := { s with heap := h5, toks := tk5 }) B X T F3 N5 d1 d2 (by rw [List.length_append]; (first | lia | omega)) hkd hdp (fun q hq => Nat.ne_of_lt (fresh q (.tail _ (.tail _ hq)))) (fresh _ (.head _)) (fresh _ (.tail _ (.head _))) ?_
    intro D' n3 t t' h6 tk6 F4 N6 hne6
    refine wpAny_execs_nil ?_
    have up : ∀ q ∈ R, q ∈ (l2, PySem.W.listOf (ws ++ ys ++ [Value.ref D']).toArray n3) :: (D', tupN [Value.bytes nms[i].1.toArray t, Value.int (if (i : Int) = 3 ∨ (i : Int) = 4 ∨ (i : Int) = 5 then 99 else -2) t']) :: (L + 1, ok') :: (L + 1 + 1, on') :: all2 :=
      fun q hq => .tail _ (.tail _ (.tail _ (.tail _ (sub2 q hq))))
    refine ih (i + 1) (by (first | lia | omega)) _ (ws ++ ys ++ [Value.ref D']) n3 l2 ok' on' _ _ (ps ++ rowD (i : Int) nms[i].1) _ _ F4 N6 (up _ (mw _ _ (.head _) (Ne.symm e1) (Ne.symm e3))) (up _ (mw _ _ (.tail _ (.head _)) (Ne.symm e2) (Ne.symm e4))) (.tail _ (.tail _ (.head _))) (.tail _ (.tail _ (.tail _ (.head _)))) d1 d2 (up _ (mtt _ _ hD)) (.head _) ?_ ?_ ?_ ?_
    · unfold rowD
      rw [← List.append_assoc]
      refine PIn.snoc (.tail _ (.head _)) (PIn.append (hP.mono fun a vs hm => up _ (mtt _ _ hm)) (hPy.mono fun a vs hm => .tail _ (.tail _ (.tail _ (.tail _ hm)))))
    · exact fun q hq => up _ (mw _ _ (.tail _ (.tail _ (mv _ _ (hks q hq) (hkp q hq).1 (hkp q hq).2.1))) (hkp q hq).2.2.1 (hkp q hq).2.2.2)
    · rw [List.length_append, List.length_append, List.length_cons, List.length_nil]; (first | lia | omega)
    · intro l' ws' n' all' h' tk' F' N' hl' hP' hk'
      refine ret l' ws' n' all' h' tk' F' N' hl' ?_ hk'
      have hlt' : i < (nms.map (·.1)).length := by rw [List.length_map]; exact hlt
      rw [List.drop_eq_getElem_cons hlt', List.getElem_map]
      show PIn _ ws' (ps ++ (rowD (i : Int) nms[i].1 ++ rowsD (i + 1) _))
      rw [List.append_assoc] at hP'
      exact hP'
end
end

theorem lines_C16 : True := by
  w_top off
  k_with_none
  (k_with "sz" => (first | (first | lia | omega) | (simp only [List.length_append, List.length_cons, List.length_nil, List.length_take, List.length_drop, List.length_map, List.length_set, List.length_replicate, toB_length, cutB_length]; (first | lia | omega))))
  (k_with "dp" => ((try simp only [depth_mark, depth_under_make, depth_under_kw, depth_in1, depth_deeper, depth_caller]); (try dsimp only [ktrTop]); (first | lia | omega)))
  (k_with "k_room" => ((try simp only [depth_mark, depth_under_make, depth_under_kw, depth_in1, depth_deeper, depth_caller]); simp only [recursionLimit]; (first | lia | omega)))
  (k_with "cell_enter" => (refine' enterF ?k1 ?k2 ?k3 ?k4 ?k5 ?kA ?kF ?kK ?k6 ?k7 ?k8 ?k9 ?kB ?_ ?c2 ?c3 ?c4 ?c5; (case kA => exact rfl); (case kF => exact rfl); (case kK => assumption); (case k1 => k_asm); (case k2 => k_asm); (case k3 => k_asm); (case k4 => k_asm); (case k5 => k_asm); (case k6 => k_is); (case k7 => k_is); (case k8 => ktr_room); (case k9 => exact BindsTo.of_eq rfl); (case c5 => decide); (case kB => exact locs rfl); (case c2 => exact rfl); (case c3 => exact rfl); (case c4 => exact rfl); k_whole; intro g' L' h' HG' F' N' B' X' T'; (try dsimp only)))
  (k_with "cell_enterP" => (refine' enterP ?k1 ?k2 ?k3 ?k4 ?k5 ?kA ?kF ?kK ?k6 ?k7 ?k8 ?k9 ?kB ?_ ?c2 ?c3 ?c4 ?c5; (case kA => exact rfl); (case kF => exact rfl); (case kK => assumption); (case k1 => k_asm); (case k2 => k_asm); (case k3 => k_asm); (case k4 => k_asm); (case k5 => k_asm); (case k6 => k_is); (case k7 => k_is); (case k8 => ktr_room); (case k9 => exact BindsTo.of_eq rfl); (case c5 => decide); (case kB => exact locs rfl); (case c2 => exact rfl); (case c3 => exact rfl); (case c4 => exact rfl); k_whole; intro g' L' h' HG' F' N' B' X' T'; (try dsimp only)))
  (k_with "binaryOp Add bytes bytes" => (k_here; (with_reducible show wpAny _ _ (binaryOp Operator.Add (Value.bytes (List.toArray _) _) (Value.bytes (List.toArray _) _)) _ _ _); k_dflt (refine' br_add ?z1 ?z2 ?_; (case z1 => walk_at "sz"); (case z2 => walk_at "sz"); k_whole); intro _ _))
  (k_with "call builtin:len" => (k_here; (with_reducible show wpAny _ _ (call (Value.builtin "len") [Value.bytes (List.toArray _) _]) _ _ _); k_dflt (refine' br_len ?z1 ?_; (case z1 => walk_at "sz"); k_whole); intro _ _))
  (k_with "subscriptTail" => (k_here; (with_reducible show wpAny _ _ (subscriptTail _ _ (Value.bytes (List.toArray _) _) (Value.int _ _)) _ _ _); k_dflt (refine' br_item ?z1 ?z2 ?z3 ?_; (case z1 => walk_at "sz"); (case z2 => walk_at "sz"); (case z3 => walk_at "sz"); k_whole); intro _ _))
  (k_with "subscriptTail" => (k_here; (with_reducible show wpAny _ _ (subscriptTail _ (Expr.Slice (some _) (some _) none _) (Value.bytes (List.toArray _) _) (Value.ref _)) _ _ _); (with_reducible rename Fr _ _ _ _ => F'); (with_reducible rename News _ _ _ _ => N'); k_dflt (refine' br_cut (s := ⟨_, _, _, _, _⟩) F' N' ?z1 ?z2 ?z3 ?_; (case z1 => walk_at "sz"); (case z2 => walk_at "sz"); (case z3 => walk_at "sz"); k_whole); intro h' _ _ F' N'; (try k_sweep)))
  (k_with "subscriptTail" => (k_here; (with_reducible show wpAny _ _ (subscriptTail _ (Expr.Slice (some _) none none _) (Value.bytes (List.toArray _) _) (Value.ref _)) _ _ _); (with_reducible rename Fr _ _ _ _ => F'); (with_reducible rename News _ _ _ _ => N'); k_dflt (refine' br_cutFrom (s := ⟨_, _, _, _, _⟩) F' N' ?z1 ?z2 ?_; (case z1 => walk_at "sz"); (case z2 => walk_at "sz"); k_whole); intro h' _ _ F' N'; (try k_sweep)))
  (k_with "subscriptTail" => (k_here; (with_reducible show wpAny _ _ (subscriptTail _ (Expr.Slice none (some _) none _) (Value.bytes (List.toArray _) _) (Value.ref _)) _ _ _); (with_reducible rename Fr _ _ _ _ => F'); (with_reducible rename News _ _ _ _ => N'); k_dflt (refine' br_cutTo (s := ⟨_, _, _, _, _⟩) F' N' ?z1 ?z2 ?_; (case z1 => walk_at "sz"); (case z2 => walk_at "sz"); k_whole); intro h' _ _ F' N'; (try k_sweep)))
  (k_with "subscriptTail" => (k_here; (with_reducible show wpAny _ _ (subscriptTail _ _ (Value.ref _) (Value.int _ _)) _ _ _); k_dflt (refine' bo_tail ?g ?z1 ?z2 ?z3 ?_; (case g => exact News.get (by k_asm) (by k_mem)); (case z1 => walk_at "sz"); (case z2 => walk_at "sz"); (case z3 => walk_at "sz"); k_whole); intro _ _))
  (k_with "subscriptTail" => (k_here; (with_reducible show wpAny _ _ (subscriptTail _ (Expr.Slice none (some _) none _) (Value.ref _) (Value.ref _)) _ _ _); (with_reducible rename Fr _ _ _ _ => F'); (with_reducible rename News _ _ _ _ => N'); k_dflt (refine' bo_cutTo (s := ⟨_, _, _, _, _⟩) F' N' ?m ?z1 ?z2 ?_; (case m => k_mem); (case z1 => walk_at "sz"); (case z2 => walk_at "sz"); k_whole); intro h' x' F' N' l1; (try k_lt l1); (try k_sweep)))
  (k_with "getItem ref int" => (k_here; k_dflt (refine' bo_getItem ?g ?z1 ?z2 ?z3 ?_; (case g => exact News.get (by k_asm) (by k_mem)); (case z1 => walk_at "sz"); (case z2 => walk_at "sz"); (case z3 => walk_at "sz"); k_whole); intro _ _))
  (k_with "setItem ref int" => (k_here; (with_reducible show wpAny _ _ (setItem (Value.ref _) (Value.int _ _) (Value.int _ _)) _ _ _); k_dflt (refine' bo_setItemK ?F ?N ?U ?z1 ?z2 ?z3 ?z4 ?z5 ?_; (case F => k_asm); (case N => k_asm); (case U => k_upd); (case z1 => walk_at "sz"); (case z2 => walk_at "sz"); (case z3 => walk_at "sz"); (case z4 => first | (with_reducible exact bx150 _ _) | (with_reducible exact bx310 _ _) | (with_reducible exact bxu0 _ _) | walk_at "sz"); (case z5 => first | (with_reducible exact bx151 _ _) | (with_reducible exact bx311 _ _) | (with_reducible exact bxu1 _ _) | walk_at "sz"); k_whole); intro h' F' N'; (try k_sweep)))
  (k_with "compareOp Eq bytes bytes" => (k_here; (with_reducible show wpAny _ _ (compareOp CmpOp.Eq (Value.bytes (List.toArray _) _) (Value.bytes (List.toArray _) _)) _ _ _); k_dflt (refine br_eq ?_)))
  (k_with "compareOp NotEq bytes bytes" => (k_here; (with_reducible show wpAny _ _ (compareOp CmpOp.NotEq (Value.bytes (List.toArray _) _) (Value.bytes (List.toArray _) _)) _ _ _); k_dflt (refine br_ne ?_)))
  (k_with "call builtin:int.to_bytes" => (k_here; (with_reducible show wpAny _ _ (call (Value.builtin "int.to_bytes") [Value.int _ _, Value.int _ _, Value.str _ _]) _ _ _); k_dflt (refine' br_to ?z1 ?z2 ?z3 ?z4 ?_; (case z1 => walk_at "sz"); (case z2 => walk_at "sz"); (case z3 => first | assumption | walk_at "sz" | exact Int.fmod_nonneg_of_pos _ (by decide)); (case z4 => first | assumption | walk_at "sz" | exact Int.lt_of_lt_of_le (Int.fmod_lt_of_pos _ (by decide)) (by decide)); k_whole); intro _ _))
  (k_with "call ref" => (k_here; (with_reducible show wpAny _ _ (call (Value.ref _) [Value.bytes (List.toArray _) _, Value.str _ _]) _ _ _); kfb_any; k_dflt (refine br_from (by k_asm) (by k_mem) ?z1 ?_; (case z1 => walk_at "sz")); intro _ _))
  (k_with "call type:bytes" => (k_here; (with_reducible show wpAny _ _ (call (Value.type "bytes") [Value.ref _]) _ _ _); k_dflt (refine' bo_bytes ?g ?z1 ?_; (case g => exact News.get (by k_asm) (by k_mem)); (case z1 => walk_at "sz"); k_whole); intro _ _))
  (k_with "pyIter bytes" => (k_here; (with_reducible show wpAny _ _ (pyIter (Value.bytes (List.toArray _) _)) (CompPost _ _ _ _ _ _ _ _ _) _ _); k_dflt (refine' comp_row ?hh ?F ?N ?hk ?hl ?hd ?hz ?_; (case hh => exact rfl); (case F => k_asm); (case N => k_asm); (case hk => exact rfl); (case hl => intro _; exact rfl); (case hd => decide); (case hz => walk_at "sz"); k_whole); intro D' ys' h' tk' F' N' lI' iI'; (try k_sweep)))
  (k_with "call type:bytes" => (k_here; (with_reducible show wpAny _ _ (call (Value.type "bytes") [Value.ref _]) _ _ _); (with_reducible rename IntsAre _ (rowOf _) => rI); k_dflt (refine' row_bytes ?F ?N ?hh ?hl rI ?hz ?_; (case F => k_asm); (case N => k_asm); (case hh => exact rfl); (case hl => assumption); (case hz => walk_at "sz"); k_whole); intro h' _ _ F' N'; (try k_sweep)))
  (k_with "call type:bytes" => (k_here; (with_reducible show wpAny _ _ (call (Value.type "bytes") [Value.int _ _]) _ _ _); k_dflt (refine' br_zerosX ?z1 ?z2 ?_; (case z1 => first | decide | (first | lia | omega)); (case z2 => first | decide | (first | lia | omega)); k_whole); intro _ _ _ _))
  (k_with "call builtin:list.append" => (k_here; (with_reducible show wpAny _ _ (call (Value.builtin _) [Value.ref _, _]) _ _ _); k_dflt (refine' app_L ?k1 ?k2 ?k3 ?z ?_; (case k1 => k_asm); (case k2 => k_asm); (case k3 => k_upd); (case z => first | assumption | (simp only [List.length_append, List.length_cons, List.length_nil]; (first | lia | omega))); k_whole); intro h' F' N'; (try k_sweep)))
  first | walk1 | trivial
section
set_option maxHeartbeats 2000000 in
theorem due_spec {prog p : Program} {w : World} {loose : List Str} {mean : ExcName → Option Value} {mg mb : Str → Option Value} {A₀ : Around} {base h₀ : Heap} {outer : List Env} {dp un : Nat} {gd : Option (List Code)} {cn : Str} {cs : Scope} {L ea : Addr} {ccd : Value} {cl : List (Str × Addr)}
    {m : Str → Option Value} {s : Shared} {Q E : Value → Shared → Prop} {olds : List (Addr × Obj)}
    (B : Below A₀ base outer h₀) (F : Fr h₀ L s.heap m) (X : (hd.heap_39 w.params).In h₀) (N : News h₀ L s.heap olds) (T : Top p loose mean mg mb h₀)
    (hkd : cs.kind = .function) (hdp : dp ≤ 360)
    (ret : ∀ D vs n all h' tk', Fr h₀ L h' m → News h₀ L h' all → (D, PySem.W.listOf vs.toArray n) ∈ all → PIn all vs (rowsD 0 nmsL) → (∀ q ∈ olds, q ∈ all) → Q (.ref D) { s with heap := h', toks := tk' }) :
    wpAny (model prog w) (ktrTop dp un gd cn cs L ea ccd cl outer) (call (.ref 182) []) Q E s := by
  refine wpAny_call ?_
  k_dflt (refine' code_defC ?k1 ?k2 ?k3 ?k4 ?k5 ?kA ?kF ?kK ?k6 ?k7 ?k8 ?k9 ?kB ?kD ?_ ?c2 ?c3 ?c4; (case kA => exact rfl); (case kF => exact rfl); (case kK => assumption); (case k1 => k_asm); (case k2 => k_asm); (case k3 => k_asm); (case k4 => k_asm); (case k5 => k_asm); (case k6 => k_is); (case k7 => k_is); (case k8 => ktr_room); (case k9 => first | exact BindsTo.of_eq rfl | exact binds_K (by k_in) rfl (by k_is) rfl rfl rfl | fail "k_enter: no rule for these arguments"); (case kB => exact rfl); (case kD => decide +kernel); (case c2 => exact rfl); (case c3 => exact rfl); (case c4 => exact rfl); k_whole; intro g' L' h' tk' cells' FG' F' N' Y' B' X' T' l1; obtain ⟨o1, o2, hE', d1', d2'⟩ := PyProof.Rows.CellsAre.two Y'; subst hE'; (try simp only [List.cons_append, List.nil_append] at N'); (try dsimp only); (try k_lift B'); (try k_fold))
  refine wpAny_mono (E := NoE) ?_ (fun _ _ q => q) (fun _ _ q => q.elim)
  refine cons_any ?_
  k_steps
  (try dsimp only [Then])
  refine cons_any ?_
  refine For_G ?_
  k_steps
  (rename Fr _ _ _ _ => F')
  (rename News _ _ _ _ => N')
  refine call_enum F' N' (.head _) ?_
  intro h1 e it F1 N1 l2 l3
  refine wpAny_pyIter_enum (N1 _ (.head _)).1 ?_
  have hsub : ∀ q ∈ olds, q.1 < L' := fun q hq => l1 q hq
  refine due_loop B' X' T' hkd hdp rfl (nms := [([97, 101, 115, 45, 49, 50, 56, 45, 103, 99, 109], _), ([97, 101, 115, 45, 50, 53, 54, 45, 103, 99, 109], _), ([99, 104, 97, 99, 104, 97, 50, 48, 45, 112, 111, 108, 121, 49, 51, 48, 53], _), ([97, 101, 115, 45, 49, 50, 56, 45, 101, 99, 98], _), ([97, 101, 115, 45, 50, 53, 54, 45, 101, 99, 98], _), ([99, 104, 97, 99, 104, 97, 50, 48], _), ([], _), ([97, 101, 115, 45, 49, 57, 50, 45, 103, 99, 109], _)]) (Ne.symm (Nat.ne_of_lt l3)) (kp := olds) ?_ 8 0 rfl _ [] 0 _ o2 o1 .none _ [] _ _ F1 N1 (.head _) (.tail _ (.head _)) ?m1 ?m2 d2' d1' (.tail _ (.tail _ (.head _))) ?m3 trivial ?m4 (by decide) ?_
  case m1 => exact .tail _ (.tail _ (.tail _ (.tail _ (.tail _ (.head _)))))
  case m2 => exact .tail _ (.tail _ (.tail _ (.tail _ (.head _))))
  case m3 => exact .tail _ (.tail _ (.tail _ (.head _)))
  case m4 => exact fun q hq => .tail _ (.tail _ (.tail _ (.tail _ (.tail _ (.tail _ hq)))))
  · intro q hq
    have q1 := l2 q (.tail _ (.tail _ (.tail _ (.tail _ hq))))
    have q2 := hsub q hq
    exact ⟨Nat.ne_of_lt (Nat.lt_trans q1 l3), Nat.ne_of_lt q1, Nat.ne_of_lt (Nat.lt_succ_of_lt q2), Nat.ne_of_lt (Nat.lt_succ_of_lt (Nat.lt_succ_of_lt q2))⟩
  intro l' ws' n' all' h2 tk2 F2 N2 hl2 hP2 hk2
  (try dsimp only [Then])
  k_steps
  (rename Fr _ _ _ _ => kF)
  (rename News _ _ _ _ => kN)
  exact ret _ ws' n' all' h2 tk2 kF kN hl2 hP2 hk2
theorem names_eq : nmsL.flatMap rowN = rowsD 0 nmsL := by decide +kernel
end

theorem lines_C18 : True := by
  w_top off
  k_with_none
  (k_with "sz" => (first | (first | lia | omega) | (simp only [List.length_append, List.length_cons, List.length_nil, List.length_take, List.length_drop, List.length_map, List.length_set, List.length_replicate, toB_length, cutB_length]; (first | lia | omega))))
  (k_with "dp" => ((try simp only [depth_mark, depth_under_make, depth_under_kw, depth_in1, depth_deeper, depth_caller]); (try dsimp only [ktrTop]); (first | lia | omega)))
  (k_with "k_room" => ((try simp only [depth_mark, depth_under_make, depth_under_kw, depth_in1, depth_deeper, depth_caller]); simp only [recursionLimit]; (first | lia | omega)))
  (k_with "cell_enter" => (refine' enterF ?k1 ?k2 ?k3 ?k4 ?k5 ?kA ?kF ?kK ?k6 ?k7 ?k8 ?k9 ?kB ?_ ?c2 ?c3 ?c4 ?c5; (case kA => exact rfl); (case kF => exact rfl); (case kK => assumption); (case k1 => k_asm); (case k2 => k_asm); (case k3 => k_asm); (case k4 => k_asm); (case k5 => k_asm); (case k6 => k_is); (case k7 => k_is); (case k8 => ktr_room); (case k9 => exact BindsTo.of_eq rfl); (case c5 => decide); (case kB => exact locs rfl); (case c2 => exact rfl); (case c3 => exact rfl); (case c4 => exact rfl); k_whole; intro g' L' h' HG' F' N' B' X' T'; (try dsimp only)))
  (k_with "cell_enterP" => (refine' enterP ?k1 ?k2 ?k3 ?k4 ?k5 ?kA ?kF ?kK ?k6 ?k7 ?k8 ?k9 ?kB ?_ ?c2 ?c3 ?c4 ?c5; (case kA => exact rfl); (case kF => exact rfl); (case kK => assumption); (case k1 => k_asm); (case k2 => k_asm); (case k3 => k_asm); (case k4 => k_asm); (case k5 => k_asm); (case k6 => k_is); (case k7 => k_is); (case k8 => ktr_room); (case k9 => exact BindsTo.of_eq rfl); (case c5 => decide); (case kB => exact locs rfl); (case c2 => exact rfl); (case c3 => exact rfl); (case c4 => exact rfl); k_whole; intro g' L' h' HG' F' N' B' X' T'; (try dsimp only)))
  (k_with "binaryOp Add bytes bytes" => (k_here; (with_reducible show wpAny _ _ (binaryOp Operator.Add (Value.bytes (List.toArray _) _) (Value.bytes (List.toArray _) _)) _ _ _); k_dflt (refine' br_add ?z1 ?z2 ?_; (case z1 => walk_at "sz"); (case z2 => walk_at "sz"); k_whole); intro _ _))
  (k_with "call builtin:len" => (k_here; (with_reducible show wpAny _ _ (call (Value.builtin "len") [Value.bytes (List.toArray _) _]) _ _ _); k_dflt (refine' br_len ?z1 ?_; (case z1 => walk_at "sz"); k_whole); intro _ _))
  (k_with "subscriptTail" => (k_here; (with_reducible show wpAny _ _ (subscriptTail _ _ (Value.bytes (List.toArray _) _) (Value.int _ _)) _ _ _); k_dflt (refine' br_item ?z1 ?z2 ?z3 ?_; (case z1 => walk_at "sz"); (case z2 => walk_at "sz"); (case z3 => walk_at "sz"); k_whole); intro _ _))
  (k_with "subscriptTail" => (k_here; (with_reducible show wpAny _ _ (subscriptTail _ (Expr.Slice (some _) (some _) none _) (Value.bytes (List.toArray _) _) (Value.ref _)) _ _ _); (with_reducible rename Fr _ _ _ _ => F'); (with_reducible rename News _ _ _ _ => N'); k_dflt (refine' br_cut (s := ⟨_, _, _, _, _⟩) F' N' ?z1 ?z2 ?z3 ?_; (case z1 => walk_at "sz"); (case z2 => walk_at "sz"); (case z3 => walk_at "sz"); k_whole); intro h' _ _ F' N'; (try k_sweep)))
  (k_with "subscriptTail" => (k_here; (with_reducible show wpAny _ _ (subscriptTail _ (Expr.Slice (some _) none none _) (Value.bytes (List.toArray _) _) (Value.ref _)) _ _ _); (with_reducible rename Fr _ _ _ _ => F'); (with_reducible rename News _ _ _ _ => N'); k_dflt (refine' br_cutFrom (s := ⟨_, _, _, _, _⟩) F' N' ?z1 ?z2 ?_; (case z1 => walk_at "sz"); (case z2 => walk_at "sz"); k_whole); intro h' _ _ F' N'; (try k_sweep)))
  (k_with "subscriptTail" => (k_here; (with_reducible show wpAny _ _ (subscriptTail _ (Expr.Slice none (some _) none _) (Value.bytes (List.toArray _) _) (Value.ref _)) _ _ _); (with_reducible rename Fr _ _ _ _ => F'); (with_reducible rename News _ _ _ _ => N'); k_dflt (refine' br_cutTo (s := ⟨_, _, _, _, _⟩) F' N' ?z1 ?z2 ?_; (case z1 => walk_at "sz"); (case z2 => walk_at "sz"); k_whole); intro h' _ _ F' N'; (try k_sweep)))
  (k_with "subscriptTail" => (k_here; (with_reducible show wpAny _ _ (subscriptTail _ _ (Value.ref _) (Value.int _ _)) _ _ _); k_dflt (refine' bo_tail ?g ?z1 ?z2 ?z3 ?_; (case g => exact News.get (by k_asm) (by k_mem)); (case z1 => walk_at "sz"); (case z2 => walk_at "sz"); (case z3 => walk_at "sz"); k_whole); intro _ _))
  (k_with "subscriptTail" => (k_here; (with_reducible show wpAny _ _ (subscriptTail _ (Expr.Slice none (some _) none _) (Value.ref _) (Value.ref _)) _ _ _); (with_reducible rename Fr _ _ _ _ => F'); (with_reducible rename News _ _ _ _ => N'); k_dflt (refine' bo_cutTo (s := ⟨_, _, _, _, _⟩) F' N' ?m ?z1 ?z2 ?_; (case m => k_mem); (case z1 => walk_at "sz"); (case z2 => walk_at "sz"); k_whole); intro h' x' F' N' l1; (try k_lt l1); (try k_sweep)))
  (k_with "getItem ref int" => (k_here; k_dflt (refine' bo_getItem ?g ?z1 ?z2 ?z3 ?_; (case g => exact News.get (by k_asm) (by k_mem)); (case z1 => walk_at "sz"); (case z2 => walk_at "sz"); (case z3 => walk_at "sz"); k_whole); intro _ _))
  (k_with "setItem ref int" => (k_here; (with_reducible show wpAny _ _ (setItem (Value.ref _) (Value.int _ _) (Value.int _ _)) _ _ _); k_dflt (refine' bo_setItemK ?F ?N ?U ?z1 ?z2 ?z3 ?z4 ?z5 ?_; (case F => k_asm); (case N => k_asm); (case U => k_upd); (case z1 => walk_at "sz"); (case z2 => walk_at "sz"); (case z3 => walk_at "sz"); (case z4 => first | (with_reducible exact bx150 _ _) | (with_reducible exact bx310 _ _) | (with_reducible exact bxu0 _ _) | walk_at "sz"); (case z5 => first | (with_reducible exact bx151 _ _) | (with_reducible exact bx311 _ _) | (with_reducible exact bxu1 _ _) | walk_at "sz"); k_whole); intro h' F' N'; (try k_sweep)))
  (k_with "compareOp Eq bytes bytes" => (k_here; (with_reducible show wpAny _ _ (compareOp CmpOp.Eq (Value.bytes (List.toArray _) _) (Value.bytes (List.toArray _) _)) _ _ _); k_dflt (refine br_eq ?_)))
  (k_with "compareOp NotEq bytes bytes" => (k_here; (with_reducible show wpAny _ _ (compareOp CmpOp.NotEq (Value.bytes (List.toArray _) _) (Value.bytes (List.toArray _) _)) _ _ _); k_dflt (refine br_ne ?_)))
  (k_with "call builtin:int.to_bytes" => (k_here; (with_reducible show wpAny _ _ (call (Value.builtin "int.to_bytes") [Value.int _ _, Value.int _ _, Value.str _ _]) _ _ _); k_dflt (refine' br_to ?z1 ?z2 ?z3 ?z4 ?_; (case z1 => walk_at "sz"); (case z2 => walk_at "sz"); (case z3 => first | assumption | walk_at "sz" | exact Int.fmod_nonneg_of_pos _ (by decide)); (case z4 => first | assumption | walk_at "sz" | exact Int.lt_of_lt_of_le (Int.fmod_lt_of_pos _ (by decide)) (by decide)); k_whole); intro _ _))
  (k_with "call ref" => (k_here; (with_reducible show wpAny _ _ (call (Value.ref _) [Value.bytes (List.toArray _) _, Value.str _ _]) _ _ _); kfb_any; k_dflt (refine br_from (by k_asm) (by k_mem) ?z1 ?_; (case z1 => walk_at "sz")); intro _ _))
  (k_with "call type:bytes" => (k_here; (with_reducible show wpAny _ _ (call (Value.type "bytes") [Value.ref _]) _ _ _); k_dflt (refine' bo_bytes ?g ?z1 ?_; (case g => exact News.get (by k_asm) (by k_mem)); (case z1 => walk_at "sz"); k_whole); intro _ _))
  (k_with "pyIter bytes" => (k_here; (with_reducible show wpAny _ _ (pyIter (Value.bytes (List.toArray _) _)) (CompPost _ _ _ _ _ _ _ _ _) _ _); k_dflt (refine' comp_row ?hh ?F ?N ?hk ?hl ?hd ?hz ?_; (case hh => exact rfl); (case F => k_asm); (case N => k_asm); (case hk => exact rfl); (case hl => intro _; exact rfl); (case hd => decide); (case hz => walk_at "sz"); k_whole); intro D' ys' h' tk' F' N' lI' iI'; (try k_sweep)))
  (k_with "call type:bytes" => (k_here; (with_reducible show wpAny _ _ (call (Value.type "bytes") [Value.ref _]) _ _ _); (with_reducible rename IntsAre _ (rowOf _) => rI); k_dflt (refine' row_bytes ?F ?N ?hh ?hl rI ?hz ?_; (case F => k_asm); (case N => k_asm); (case hh => exact rfl); (case hl => assumption); (case hz => walk_at "sz"); k_whole); intro h' _ _ F' N'; (try k_sweep)))
  (k_with "call ref" => (k_here; (with_reducible show wpAny _ _ (call (Value.ref 125) [Value.ref _, Value.int _ _]) _ _ _); k_dflt (refine' take_spec ?B ?F ?X ?N ?T ?kd ?dp ?hc ?ne ?hi ?l0 ?l1 ?k0 ?k1 ?most ?_; (case F => k_asm); (case B => k_asm); (case X => k_asm); (case T => k_asm); (case N => exact news_one (by k_asm) (by k_mem)); (case kd => first | exact rfl | assumption); (case dp => walk_at "dp"); (case hc => is_list); (case ne => first | assumption | (first | lia | omega)); (case hi => l_ints); (case l0 => (first | lia | omega)); (case l1 => (first | lia | omega)); (case k0 => (first | lia | omega)); (case k1 => (first | lia | omega)); (case most => first | (first | lia | omega) | decide | exact Int.pow_pos (by decide)); k_whole); intro _ _ _ _ _ _ _ tkK tkG; k_dflt (refine' kept_step tkK tkG ?F ?N ?U ?_; (case F => k_asm); (case N => k_asm); (case U => k_upd)); clear tkK tkG; intro F' N'; (try k_sweep)))
  (k_with "call ref" => (k_here; (try dsimp only [List.getElem_cons_zero, List.getElem_cons_succ]); (with_reducible show wpAny _ _ (call (Value.ref 139) [Value.ref _, Value.int _ _]) _ _ _); k_dflt (refine' octets_spec ?B ?F ?X ?N ?T ?kd ?dp ?hc ?ne ?hi ?l0 ?l1 ?k0 ?k1 ?s0 ?s1 ?_; (case F => k_asm); (case B => k_asm); (case X => k_asm); (case T => k_asm); (case N => exact news_one (by k_asm) (by k_mem)); (case kd => first | exact rfl | assumption); (case dp => first | walk_at "dp" | decide); (case hc => is_list); (case ne => first | assumption | (first | lia | omega)); (case hi => l_ints); (case l0 => (first | lia | omega)); (case l1 => (first | lia | omega)); (case k0 => (first | lia | omega)); (case k1 => (first | lia | omega)); (case s0 => first | (first | lia | omega) | decide | exact four_lo (by (first | lia | omega)) (by (first | lia | omega)) _); (case s1 => first | (first | lia | omega) | decide | exact four_hi (by (first | lia | omega)) (by (first | lia | omega)) _); k_whole); intro _ _ _ _ _ _ _ _ _ tkK tkG; k_dflt (refine' kept_step tkK tkG ?F ?N ?U ?_; (case F => k_asm); (case N => k_asm); (case U => k_upd)); clear tkK tkG; intro F' N'; (try k_sweep)))
  first | walk1 | trivial
section
theorem notin_b3T {prog : Program} {w : World} {A : Around} {E : Value → Shared → Prop} {s : Shared} {xs : List UInt8} {t : Tok} {D : Addr} {a b c : List UInt8} {t1 t2 t3 : Tok} {Q : Value → Shared → Prop} (hD : s.heap.IsTuple D #[.bytes a.toArray t1, .bytes b.toArray t2, .bytes c.toArray t3]) (hb : (decide (a = xs) || decide (b = xs) || decide (c = xs)) = true) (q : Q (.bool false) s) :
    wpAny (model prog w) A (compareOp .NotIn (.bytes xs.toArray t) (.ref D)) Q E s := notin_b3 hD (by rw [hb]; exact q)
section
variable {prog p : Program} {w : World} {loose : List Str} {mean : ExcName → Option Value} {mg mb : Str → Option Value} {G : Heap} {L a c : Addr}
set_option maxHeartbeats 2000000 in
theorem law_name {s : Shared} {Q : Flow → Shared → Prop} {mf : Str → Option Value} {k : Int} {tk : Tok} {n n' : Nat} {vs : List Value} {ns : List Int}
    (X : (hd.heap_39 w.params).In G) (T : Top p loose mean mg mb G) (B : Below callerA G [] G) (F : Fr G L s.heap (fun y => if y = Str.ofString "state" then some (.ref a) else mf y))
    (N : News G L s.heap [(a, PySem.W.listOf [.int k tk, .ref c].toArray n), (c, PySem.W.listOf vs.toArray n')]) (hca : c ≠ a) (hi : IntsAre vs ns) (hl0 : 0 < vs.length) (hl1 : vs.length ≤ 63) (hk0 : 0 ≤ k) (hk1 : k < 900)
    (ret : ∀ (nm : List UInt8) t t' h' tk', inB nm = true → nm.length ≤ 100 → Fr G L h' (fun y => if y = Str.ofString "name" then some (.bytes nm.toArray t) else if y = Str.ofString "state" then some (.ref a) else mf y) →
      News G L h' [(a, PySem.W.listOf [.int (k + 1) t', .ref c].toArray n), (c, PySem.W.listOf vs.toArray n')] → Q .next { s with heap := h', toks := tk' }) :
    wpAny (model prog w) (callerA.deeper (envL L)) (exec st_189_1 (envL L)) Q NoE s := by
  conv in st_189_1 => whnf
  have hlen : ns.length = vs.length := hi.length.symm
  k_steps
  all_goals
    (rename Fr _ _ _ _ => F1)
    (rename News _ _ _ _ => N1)
    refine ret _ _ _ _ _ ?d1 ?d2 F1 (news_two N1 (by k_mem) (by k_mem))
    case d1 => decide
    case d2 => decide
set_option maxHeartbeats 2000000 in
theorem law_wide {s : Shared} {Q : Flow → Shared → Prop} {mf : Str → Option Value} {k : Int} {tk : Tok} {n n' : Nat} {vs : List Value} {ns : List Int} {nm : Option Value}
    (X : (hd.heap_39 w.params).In G) (T : Top p loose mean mg mb G) (B : Below callerA G [] G) (F : Fr G L s.heap (fun y => if y = Str.ofString "name" then nm else if y = Str.ofString "state" then some (.ref a) else mf y))
    (N : News G L s.heap [(a, PySem.W.listOf [.int k tk, .ref c].toArray n), (c, PySem.W.listOf vs.toArray n')]) (hca : c ≠ a) (hi : IntsAre vs ns) (hl0 : 0 < vs.length) (hl1 : vs.length ≤ 63) (hk0 : 0 ≤ k) (hk1 : k < 900)
    (ret : ∀ (b : Bool) t' h' tk', Fr G L h' (fun y => if y = Str.ofString "wide" then some (.bool b) else if y = Str.ofString "name" then nm else if y = Str.ofString "state" then some (.ref a) else mf y) →
      News G L h' [(a, PySem.W.listOf [.int (k + 1) t', .ref c].toArray n), (c, PySem.W.listOf vs.toArray n')] → Q .next { s with heap := h', toks := tk' }) :
    wpAny (model prog w) (callerA.deeper (envL L)) (exec st_189_2 (envL L)) Q NoE s := by
  conv in st_189_2 => whnf
  have hlen : ns.length = vs.length := hi.length.symm
  k_steps
  all_goals
    (rename Fr _ _ _ _ => F1)
    (rename News _ _ _ _ => N1)
    exact ret _ _ _ _ F1 (news_two N1 (by k_mem) (by k_mem))
set_option maxHeartbeats 2000000 in
theorem law_key {s : Shared} {Q : Flow → Shared → Prop} {mf : Str → Option Value} {k : Int} {tk : Tok} {n n' : Nat} {vs : List Value} {ns : List Int} {nm : Option Value} {b : Bool}
    (X : (hd.heap_39 w.params).In G) (T : Top p loose mean mg mb G) (B : Below callerA G [] G) (F : Fr G L s.heap (fun y => if y = Str.ofString "wide" then some (.bool b) else if y = Str.ofString "name" then nm else if y = Str.ofString "state" then some (.ref a) else mf y))
    (N : News G L s.heap [(a, PySem.W.listOf [.int k tk, .ref c].toArray n), (c, PySem.W.listOf vs.toArray n')]) (hca : c ≠ a) (hi : IntsAre vs ns) (hl0 : 0 < vs.length) (hl1 : vs.length ≤ 63) (hk0 : 0 ≤ k) (hk1 : k < 900)
    (ret : ∀ (ky : List UInt8) k' t t' h' tk', ky.length = 16 → k ≤ k' → k' ≤ k + 1 → Fr G L h' (fun y => if y = Str.ofString "key" then some (.bytes ky.toArray t) else if y = Str.ofString "wide" then some (.bool b) else if y = Str.ofString "name" then nm else if y = Str.ofString "state" then some (.ref a) else mf y) →
      News G L h' [(a, PySem.W.listOf [.int k' t', .ref c].toArray n), (c, PySem.W.listOf vs.toArray n')] → Q .next { s with heap := h', toks := tk' }) :
    wpAny (model prog w) (callerA.deeper (envL L)) (exec st_189_3 (envL L)) Q NoE s := by
  conv in st_189_3 => whnf
  have hlen : ns.length = vs.length := hi.length.symm
  k_steps
  all_goals
    (rename Fr _ _ _ _ => F1)
    (rename News _ _ _ _ => N1)
    exact ret _ _ _ _ _ _ (by first | (rw [toB_length]; done) | (rw [toB_length]; rfl) | (first | lia | omega)) (by (first | lia | omega)) (by (first | lia | omega)) F1 (news_two N1 (by k_mem) (by k_mem))
end
end

theorem lines_C19 : True := by
  w_top off
  k_with_none
  (k_with "sz" => (first | (first | lia | omega) | (simp only [List.length_append, List.length_cons, List.length_nil, List.length_take, List.length_drop, List.length_map, List.length_set, List.length_replicate, toB_length, cutB_length]; (first | lia | omega))))
  (k_with "dp" => ((try simp only [depth_mark, depth_under_make, depth_under_kw, depth_in1, depth_deeper, depth_caller]); (try dsimp only [ktrTop]); (first | lia | omega)))
  (k_with "k_room" => ((try simp only [depth_mark, depth_under_make, depth_under_kw, depth_in1, depth_deeper, depth_caller]); simp only [recursionLimit]; (first | lia | omega)))
  (k_with "cell_enter" => (refine' enterF ?k1 ?k2 ?k3 ?k4 ?k5 ?kA ?kF ?kK ?k6 ?k7 ?k8 ?k9 ?kB ?_ ?c2 ?c3 ?c4 ?c5; (case kA => exact rfl); (case kF => exact rfl); (case kK => assumption); (case k1 => k_asm); (case k2 => k_asm); (case k3 => k_asm); (case k4 => k_asm); (case k5 => k_asm); (case k6 => k_is); (case k7 => k_is); (case k8 => ktr_room); (case k9 => exact BindsTo.of_eq rfl); (case c5 => decide); (case kB => exact locs rfl); (case c2 => exact rfl); (case c3 => exact rfl); (case c4 => exact rfl); k_whole; intro g' L' h' HG' F' N' B' X' T'; (try dsimp only)))
  (k_with "cell_enterP" => (refine' enterP ?k1 ?k2 ?k3 ?k4 ?k5 ?kA ?kF ?kK ?k6 ?k7 ?k8 ?k9 ?kB ?_ ?c2 ?c3 ?c4 ?c5; (case kA => exact rfl); (case kF => exact rfl); (case kK => assumption); (case k1 => k_asm); (case k2 => k_asm); (case k3 => k_asm); (case k4 => k_asm); (case k5 => k_asm); (case k6 => k_is); (case k7 => k_is); (case k8 => ktr_room); (case k9 => exact BindsTo.of_eq rfl); (case c5 => decide); (case kB => exact locs rfl); (case c2 => exact rfl); (case c3 => exact rfl); (case c4 => exact rfl); k_whole; intro g' L' h' HG' F' N' B' X' T'; (try dsimp only)))
  (k_with "binaryOp Add bytes bytes" => (k_here; (with_reducible show wpAny _ _ (binaryOp Operator.Add (Value.bytes (List.toArray _) _) (Value.bytes (List.toArray _) _)) _ _ _); k_dflt (refine' br_add ?z1 ?z2 ?_; (case z1 => walk_at "sz"); (case z2 => walk_at "sz"); k_whole); intro _ _))
  (k_with "call builtin:len" => (k_here; (with_reducible show wpAny _ _ (call (Value.builtin "len") [Value.bytes (List.toArray _) _]) _ _ _); k_dflt (refine' br_len ?z1 ?_; (case z1 => walk_at "sz"); k_whole); intro _ _))
  (k_with "subscriptTail" => (k_here; (with_reducible show wpAny _ _ (subscriptTail _ _ (Value.bytes (List.toArray _) _) (Value.int _ _)) _ _ _); k_dflt (refine' br_item ?z1 ?z2 ?z3 ?_; (case z1 => walk_at "sz"); (case z2 => walk_at "sz"); (case z3 => walk_at "sz"); k_whole); intro _ _))
  (k_with "subscriptTail" => (k_here; (with_reducible show wpAny _ _ (subscriptTail _ (Expr.Slice (some _) (some _) none _) (Value.bytes (List.toArray _) _) (Value.ref _)) _ _ _); (with_reducible rename Fr _ _ _ _ => F'); (with_reducible rename News _ _ _ _ => N'); k_dflt (refine' br_cut (s := ⟨_, _, _, _, _⟩) F' N' ?z1 ?z2 ?z3 ?_; (case z1 => walk_at "sz"); (case z2 => walk_at "sz"); (case z3 => walk_at "sz"); k_whole); intro h' _ _ F' N'; (try k_sweep)))
  (k_with "subscriptTail" => (k_here; (with_reducible show wpAny _ _ (subscriptTail _ (Expr.Slice (some _) none none _) (Value.bytes (List.toArray _) _) (Value.ref _)) _ _ _); (with_reducible rename Fr _ _ _ _ => F'); (with_reducible rename News _ _ _ _ => N'); k_dflt (refine' br_cutFrom (s := ⟨_, _, _, _, _⟩) F' N' ?z1 ?z2 ?_; (case z1 => walk_at "sz"); (case z2 => walk_at "sz"); k_whole); intro h' _ _ F' N'; (try k_sweep)))
  (k_with "subscriptTail" => (k_here; (with_reducible show wpAny _ _ (subscriptTail _ (Expr.Slice none (some _) none _) (Value.bytes (List.toArray _) _) (Value.ref _)) _ _ _); (with_reducible rename Fr _ _ _ _ => F'); (with_reducible rename News _ _ _ _ => N'); k_dflt (refine' br_cutTo (s := ⟨_, _, _, _, _⟩) F' N' ?z1 ?z2 ?_; (case z1 => walk_at "sz"); (case z2 => walk_at "sz"); k_whole); intro h' _ _ F' N'; (try k_sweep)))
  (k_with "subscriptTail" => (k_here; (with_reducible show wpAny _ _ (subscriptTail _ _ (Value.ref _) (Value.int _ _)) _ _ _); k_dflt (refine' bo_tail ?g ?z1 ?z2 ?z3 ?_; (case g => exact News.get (by k_asm) (by k_mem)); (case z1 => walk_at "sz"); (case z2 => walk_at "sz"); (case z3 => walk_at "sz"); k_whole); intro _ _))
  (k_with "subscriptTail" => (k_here; (with_reducible show wpAny _ _ (subscriptTail _ (Expr.Slice none (some _) none _) (Value.ref _) (Value.ref _)) _ _ _); (with_reducible rename Fr _ _ _ _ => F'); (with_reducible rename News _ _ _ _ => N'); k_dflt (refine' bo_cutTo (s := ⟨_, _, _, _, _⟩) F' N' ?m ?z1 ?z2 ?_; (case m => k_mem); (case z1 => walk_at "sz"); (case z2 => walk_at "sz"); k_whole); intro h' x' F' N' l1; (try k_lt l1); (try k_sweep)))
  (k_with "getItem ref int" => (k_here; k_dflt (refine' bo_getItem ?g ?z1 ?z2 ?z3 ?_; (case g => exact News.get (by k_asm) (by k_mem)); (case z1 => walk_at "sz"); (case z2 => walk_at "sz"); (case z3 => walk_at "sz"); k_whole); intro _ _))
  (k_with "setItem ref int" => (k_here; (with_reducible show wpAny _ _ (setItem (Value.ref _) (Value.int _ _) (Value.int _ _)) _ _ _); k_dflt (refine' bo_setItemK ?F ?N ?U ?z1 ?z2 ?z3 ?z4 ?z5 ?_; (case F => k_asm); (case N => k_asm); (case U => k_upd); (case z1 => walk_at "sz"); (case z2 => walk_at "sz"); (case z3 => walk_at "sz"); (case z4 => first | (with_reducible exact bx150 _ _) | (with_reducible exact bx310 _ _) | (with_reducible exact bxu0 _ _) | walk_at "sz"); (case z5 => first | (with_reducible exact bx151 _ _) | (with_reducible exact bx311 _ _) | (with_reducible exact bxu1 _ _) | walk_at "sz"); k_whole); intro h' F' N'; (try k_sweep)))
  (k_with "compareOp Eq bytes bytes" => (k_here; (with_reducible show wpAny _ _ (compareOp CmpOp.Eq (Value.bytes (List.toArray _) _) (Value.bytes (List.toArray _) _)) _ _ _); k_dflt (refine br_eq ?_)))
  (k_with "compareOp NotEq bytes bytes" => (k_here; (with_reducible show wpAny _ _ (compareOp CmpOp.NotEq (Value.bytes (List.toArray _) _) (Value.bytes (List.toArray _) _)) _ _ _); k_dflt (refine br_ne ?_)))
  (k_with "call builtin:int.to_bytes" => (k_here; (with_reducible show wpAny _ _ (call (Value.builtin "int.to_bytes") [Value.int _ _, Value.int _ _, Value.str _ _]) _ _ _); k_dflt (refine' br_to ?z1 ?z2 ?z3 ?z4 ?_; (case z1 => walk_at "sz"); (case z2 => walk_at "sz"); (case z3 => first | assumption | walk_at "sz" | exact Int.fmod_nonneg_of_pos _ (by decide)); (case z4 => first | assumption | walk_at "sz" | exact Int.lt_of_lt_of_le (Int.fmod_lt_of_pos _ (by decide)) (by decide)); k_whole); intro _ _))
  (k_with "call ref" => (k_here; (with_reducible show wpAny _ _ (call (Value.ref _) [Value.bytes (List.toArray _) _, Value.str _ _]) _ _ _); kfb_any; k_dflt (refine br_from (by k_asm) (by k_mem) ?z1 ?_; (case z1 => walk_at "sz")); intro _ _))
  (k_with "call type:bytes" => (k_here; (with_reducible show wpAny _ _ (call (Value.type "bytes") [Value.ref _]) _ _ _); k_dflt (refine' bo_bytes ?g ?z1 ?_; (case g => exact News.get (by k_asm) (by k_mem)); (case z1 => walk_at "sz"); k_whole); intro _ _))
  (k_with "pyIter bytes" => (k_here; (with_reducible show wpAny _ _ (pyIter (Value.bytes (List.toArray _) _)) (CompPost _ _ _ _ _ _ _ _ _) _ _); k_dflt (refine' comp_row ?hh ?F ?N ?hk ?hl ?hd ?hz ?_; (case hh => exact rfl); (case F => k_asm); (case N => k_asm); (case hk => exact rfl); (case hl => intro _; exact rfl); (case hd => decide); (case hz => walk_at "sz"); k_whole); intro D' ys' h' tk' F' N' lI' iI'; (try k_sweep)))
  (k_with "call type:bytes" => (k_here; (with_reducible show wpAny _ _ (call (Value.type "bytes") [Value.ref _]) _ _ _); (with_reducible rename IntsAre _ (rowOf _) => rI); k_dflt (refine' row_bytes ?F ?N ?hh ?hl rI ?hz ?_; (case F => k_asm); (case N => k_asm); (case hh => exact rfl); (case hl => assumption); (case hz => walk_at "sz"); k_whole); intro h' _ _ F' N'; (try k_sweep)))
  (k_with "compareOp NotIn bytes ref" => (k_here; (with_reducible show wpAny _ _ (compareOp CmpOp.NotIn (Value.bytes _ _) (Value.ref _)) _ _ _); k_dflt (refine' notin_b3T ?D ?hb ?_; (case D => exact News.isTup (by k_asm) (by k_mem)); (case hb => assumption); k_whole)))
  first | walk1 | trivial
section
theorem news_four {h₀ h : Heap} {L : Addr} {q1 q2 q3 q4 : Addr × Obj} {all : List (Addr × Obj)} (N : News h₀ L h all) (h1 : q1 ∈ all) (h2 : q2 ∈ all) (h3 : q3 ∈ all) (h4 : q4 ∈ all) : News h₀ L h [q1, q2, q3, q4] := fun p hp => by
  simp only [List.mem_cons, List.not_mem_nil, or_false] at hp
  rcases hp with rfl | rfl | rfl | rfl
  · exact N _ h1
  · exact N _ h2
  · exact N _ h3
  · exact N _ h4
section
variable {prog p : Program} {w : World} {loose : List Str} {mean : ExcName → Option Value} {mg mb : Str → Option Value} {G : Heap} {L a c : Addr}
set_option maxHeartbeats 2000000 in
theorem law_hp {s : Shared} {Q : Flow → Shared → Prop} {mf : Str → Option Value} {k : Int} {tk tn ty : Tok} {n n' : Nat} {vs : List Value} {nm ky : List UInt8} {b : Bool}
    (X : (hd.heap_39 w.params).In G) (T : Top p loose mean mg mb G) (B : Below callerA G [] G) (F : Fr G L s.heap (fun y => if y = Str.ofString "key" then some (.bytes ky.toArray ty) else if y = Str.ofString "wide" then some (.bool b) else if y = Str.ofString "name" then some (.bytes nm.toArray tn) else if y = Str.ofString "state" then some (.ref a) else mf y))
    (N : News G L s.heap [(a, PySem.W.listOf [.int k tk, .ref c].toArray n), (c, PySem.W.listOf vs.toArray n')]) (hnm : inB nm = true) (hn1 : nm.length ≤ 100) (hk1 : ky.length ≤ 100)
    (ret : ∀ x dx n2 t1 t2 t3 tn' ty' h' tk', Fr G L h' (fun y => if y = Str.ofString "hp" then some (.ref x) else if y = Str.ofString "key" then some (.bytes ky.toArray ty) else if y = Str.ofString "wide" then some (.bool b) else if y = Str.ofString "name" then some (.bytes nm.toArray tn) else if y = Str.ofString "state" then some (.ref a) else mf y) →
      News G L h' [(x, instObj 114 dx), (dx, dictOf (hpDict w.params t1 t2 t3 tn' ty' nm ky (handAt b)) n2), (a, PySem.W.listOf [.int k tk, .ref c].toArray n), (c, PySem.W.listOf vs.toArray n')] →
      x ≠ dx → x ≠ a → x ≠ c → dx ≠ a → dx ≠ c → Q .next { s with heap := h', toks := tk' }) :
    wpAny (model prog w) (callerA.deeper (envL L)) (exec st_189_4 (envL L)) Q NoE s := by
  conv in st_189_4 => whnf
  cases b
  · k_steps
    (rename Fr _ _ _ _ => F1)
    (rename News _ _ _ _ => N1)
    refine ret _ _ _ _ _ _ _ _ _ _ F1 (news_four N1 (by k_mem) (by k_mem) (by k_mem) (by k_mem)) ?_ ?_ ?_ ?_ ?_
    all_goals k_ne
  · k_steps
    (rename Fr _ _ _ _ => F1)
    (rename News _ _ _ _ => N1)
    refine ret _ _ _ _ _ _ _ _ _ _ F1 (news_four N1 (by k_mem) (by k_mem) (by k_mem) (by k_mem)) ?_ ?_ ?_ ?_ ?_
    all_goals k_ne
end
end

theorem lines_C20 : True := by
  w_top off
  k_with_none
  (k_with "sz" => (first | (first | lia | omega) | (simp only [List.length_append, List.length_cons, List.length_nil, List.length_take, List.length_drop, List.length_map, List.length_set, List.length_replicate, toB_length, cutB_length]; (first | lia | omega))))
  (k_with "dp" => ((try simp only [depth_mark, depth_under_make, depth_under_kw, depth_in1, depth_deeper, depth_caller]); (try dsimp only [ktrTop]); (first | lia | omega)))
  (k_with "k_room" => ((try simp only [depth_mark, depth_under_make, depth_under_kw, depth_in1, depth_deeper, depth_caller]); simp only [recursionLimit]; (first | lia | omega)))
  (k_with "cell_enter" => (refine' enterF ?k1 ?k2 ?k3 ?k4 ?k5 ?kA ?kF ?kK ?k6 ?k7 ?k8 ?k9 ?kB ?_ ?c2 ?c3 ?c4 ?c5; (case kA => exact rfl); (case kF => exact rfl); (case kK => assumption); (case k1 => k_asm); (case k2 => k_asm); (case k3 => k_asm); (case k4 => k_asm); (case k5 => k_asm); (case k6 => k_is); (case k7 => k_is); (case k8 => ktr_room); (case k9 => exact BindsTo.of_eq rfl); (case c5 => decide); (case kB => exact locs rfl); (case c2 => exact rfl); (case c3 => exact rfl); (case c4 => exact rfl); k_whole; intro g' L' h' HG' F' N' B' X' T'; (try dsimp only)))
  (k_with "cell_enterP" => (refine' enterP ?k1 ?k2 ?k3 ?k4 ?k5 ?kA ?kF ?kK ?k6 ?k7 ?k8 ?k9 ?kB ?_ ?c2 ?c3 ?c4 ?c5; (case kA => exact rfl); (case kF => exact rfl); (case kK => assumption); (case k1 => k_asm); (case k2 => k_asm); (case k3 => k_asm); (case k4 => k_asm); (case k5 => k_asm); (case k6 => k_is); (case k7 => k_is); (case k8 => ktr_room); (case k9 => exact BindsTo.of_eq rfl); (case c5 => decide); (case kB => exact locs rfl); (case c2 => exact rfl); (case c3 => exact rfl); (case c4 => exact rfl); k_whole; intro g' L' h' HG' F' N' B' X' T'; (try dsimp only)))
  (k_with "binaryOp Add bytes bytes" => (k_here; (with_reducible show wpAny _ _ (binaryOp Operator.Add (Value.bytes (List.toArray _) _) (Value.bytes (List.toArray _) _)) _ _ _); k_dflt (refine' br_add ?z1 ?z2 ?_; (case z1 => walk_at "sz"); (case z2 => walk_at "sz"); k_whole); intro _ _))
  (k_with "call builtin:len" => (k_here; (with_reducible show wpAny _ _ (call (Value.builtin "len") [Value.bytes (List.toArray _) _]) _ _ _); k_dflt (refine' br_len ?z1 ?_; (case z1 => walk_at "sz"); k_whole); intro _ _))
  (k_with "subscriptTail" => (k_here; (with_reducible show wpAny _ _ (subscriptTail _ _ (Value.bytes (List.toArray _) _) (Value.int _ _)) _ _ _); k_dflt (refine' br_item ?z1 ?z2 ?z3 ?_; (case z1 => walk_at "sz"); (case z2 => walk_at "sz"); (case z3 => walk_at "sz"); k_whole); intro _ _))
  (k_with "subscriptTail" => (k_here; (with_reducible show wpAny _ _ (subscriptTail _ (Expr.Slice (some _) (some _) none _) (Value.bytes (List.toArray _) _) (Value.ref _)) _ _ _); (with_reducible rename Fr _ _ _ _ => F'); (with_reducible rename News _ _ _ _ => N'); k_dflt (refine' br_cut (s := ⟨_, _, _, _, _⟩) F' N' ?z1 ?z2 ?z3 ?_; (case z1 => walk_at "sz"); (case z2 => walk_at "sz"); (case z3 => walk_at "sz"); k_whole); intro h' _ _ F' N'; (try k_sweep)))
  (k_with "subscriptTail" => (k_here; (with_reducible show wpAny _ _ (subscriptTail _ (Expr.Slice (some _) none none _) (Value.bytes (List.toArray _) _) (Value.ref _)) _ _ _); (with_reducible rename Fr _ _ _ _ => F'); (with_reducible rename News _ _ _ _ => N'); k_dflt (refine' br_cutFrom (s := ⟨_, _, _, _, _⟩) F' N' ?z1 ?z2 ?_; (case z1 => walk_at "sz"); (case z2 => walk_at "sz"); k_whole); intro h' _ _ F' N'; (try k_sweep)))
  (k_with "subscriptTail" => (k_here; (with_reducible show wpAny _ _ (subscriptTail _ (Expr.Slice none (some _) none _) (Value.bytes (List.toArray _) _) (Value.ref _)) _ _ _); (with_reducible rename Fr _ _ _ _ => F'); (with_reducible rename News _ _ _ _ => N'); k_dflt (refine' br_cutTo (s := ⟨_, _, _, _, _⟩) F' N' ?z1 ?z2 ?_; (case z1 => walk_at "sz"); (case z2 => walk_at "sz"); k_whole); intro h' _ _ F' N'; (try k_sweep)))
  (k_with "subscriptTail" => (k_here; (with_reducible show wpAny _ _ (subscriptTail _ _ (Value.ref _) (Value.int _ _)) _ _ _); k_dflt (refine' bo_tail ?g ?z1 ?z2 ?z3 ?_; (case g => exact News.get (by k_asm) (by k_mem)); (case z1 => walk_at "sz"); (case z2 => walk_at "sz"); (case z3 => walk_at "sz"); k_whole); intro _ _))
  (k_with "subscriptTail" => (k_here; (with_reducible show wpAny _ _ (subscriptTail _ (Expr.Slice none (some _) none _) (Value.ref _) (Value.ref _)) _ _ _); (with_reducible rename Fr _ _ _ _ => F'); (with_reducible rename News _ _ _ _ => N'); k_dflt (refine' bo_cutTo (s := ⟨_, _, _, _, _⟩) F' N' ?m ?z1 ?z2 ?_; (case m => k_mem); (case z1 => walk_at "sz"); (case z2 => walk_at "sz"); k_whole); intro h' x' F' N' l1; (try k_lt l1); (try k_sweep)))
  (k_with "getItem ref int" => (k_here; k_dflt (refine' bo_getItem ?g ?z1 ?z2 ?z3 ?_; (case g => exact News.get (by k_asm) (by k_mem)); (case z1 => walk_at "sz"); (case z2 => walk_at "sz"); (case z3 => walk_at "sz"); k_whole); intro _ _))
  (k_with "setItem ref int" => (k_here; (with_reducible show wpAny _ _ (setItem (Value.ref _) (Value.int _ _) (Value.int _ _)) _ _ _); k_dflt (refine' bo_setItemK ?F ?N ?U ?z1 ?z2 ?z3 ?z4 ?z5 ?_; (case F => k_asm); (case N => k_asm); (case U => k_upd); (case z1 => walk_at "sz"); (case z2 => walk_at "sz"); (case z3 => walk_at "sz"); (case z4 => first | (with_reducible exact bx150 _ _) | (with_reducible exact bx310 _ _) | (with_reducible exact bxu0 _ _) | walk_at "sz"); (case z5 => first | (with_reducible exact bx151 _ _) | (with_reducible exact bx311 _ _) | (with_reducible exact bxu1 _ _) | walk_at "sz"); k_whole); intro h' F' N'; (try k_sweep)))
  (k_with "compareOp Eq bytes bytes" => (k_here; (with_reducible show wpAny _ _ (compareOp CmpOp.Eq (Value.bytes (List.toArray _) _) (Value.bytes (List.toArray _) _)) _ _ _); k_dflt (refine br_eq ?_)))
  (k_with "compareOp NotEq bytes bytes" => (k_here; (with_reducible show wpAny _ _ (compareOp CmpOp.NotEq (Value.bytes (List.toArray _) _) (Value.bytes (List.toArray _) _)) _ _ _); k_dflt (refine br_ne ?_)))
  (k_with "call builtin:int.to_bytes" => (k_here; (with_reducible show wpAny _ _ (call (Value.builtin "int.to_bytes") [Value.int _ _, Value.int _ _, Value.str _ _]) _ _ _); k_dflt (refine' br_to ?z1 ?z2 ?z3 ?z4 ?_; (case z1 => walk_at "sz"); (case z2 => walk_at "sz"); (case z3 => first | assumption | walk_at "sz" | exact Int.fmod_nonneg_of_pos _ (by decide)); (case z4 => first | assumption | walk_at "sz" | exact Int.lt_of_lt_of_le (Int.fmod_lt_of_pos _ (by decide)) (by decide)); k_whole); intro _ _))
  (k_with "call ref" => (k_here; (with_reducible show wpAny _ _ (call (Value.ref _) [Value.bytes (List.toArray _) _, Value.str _ _]) _ _ _); kfb_any; k_dflt (refine br_from (by k_asm) (by k_mem) ?z1 ?_; (case z1 => walk_at "sz")); intro _ _))
  (k_with "call type:bytes" => (k_here; (with_reducible show wpAny _ _ (call (Value.type "bytes") [Value.ref _]) _ _ _); k_dflt (refine' bo_bytes ?g ?z1 ?_; (case g => exact News.get (by k_asm) (by k_mem)); (case z1 => walk_at "sz"); k_whole); intro _ _))
  (k_with "pyIter bytes" => (k_here; (with_reducible show wpAny _ _ (pyIter (Value.bytes (List.toArray _) _)) (CompPost _ _ _ _ _ _ _ _ _) _ _); k_dflt (refine' comp_row ?hh ?F ?N ?hk ?hl ?hd ?hz ?_; (case hh => exact rfl); (case F => k_asm); (case N => k_asm); (case hk => exact rfl); (case hl => intro _; exact rfl); (case hd => decide); (case hz => walk_at "sz"); k_whole); intro D' ys' h' tk' F' N' lI' iI'; (try k_sweep)))
  (k_with "call type:bytes" => (k_here; (with_reducible show wpAny _ _ (call (Value.type "bytes") [Value.ref _]) _ _ _); (with_reducible rename IntsAre _ (rowOf _) => rI); k_dflt (refine' row_bytes ?F ?N ?hh ?hl rI ?hz ?_; (case F => k_asm); (case N => k_asm); (case hh => exact rfl); (case hl => assumption); (case hz => walk_at "sz"); k_whole); intro h' _ _ F' N'; (try k_sweep)))
  (k_with "call ref" => (k_here; (with_reducible show wpAny _ _ (call (Value.ref 125) [Value.ref _, Value.int _ _]) _ _ _); k_dflt (refine' take_spec ?B ?F ?X ?N ?T ?kd ?dp ?hc ?ne ?hi ?l0 ?l1 ?k0 ?k1 ?most ?_; (case F => k_asm); (case B => k_asm); (case X => k_asm); (case T => k_asm); (case N => exact news_one (by k_asm) (by k_mem)); (case kd => first | exact rfl | assumption); (case dp => walk_at "dp"); (case hc => is_list); (case ne => first | assumption | (first | lia | omega)); (case hi => l_ints); (case l0 => (first | lia | omega)); (case l1 => (first | lia | omega)); (case k0 => (first | lia | omega)); (case k1 => (first | lia | omega)); (case most => first | (first | lia | omega) | decide | exact Int.pow_pos (by decide)); k_whole); intro _ _ _ _ _ _ _ tkK tkG; k_dflt (refine' kept_step tkK tkG ?F ?N ?U ?_; (case F => k_asm); (case N => k_asm); (case U => k_upd)); clear tkK tkG; intro F' N'; (try k_sweep)))
  (k_with "call ref" => (k_here; (try dsimp only [List.getElem_cons_zero, List.getElem_cons_succ]); (with_reducible show wpAny _ _ (call (Value.ref 139) [Value.ref _, Value.int _ _]) _ _ _); k_dflt (refine' octets_spec ?B ?F ?X ?N ?T ?kd ?dp ?hc ?ne ?hi ?l0 ?l1 ?k0 ?k1 ?s0 ?s1 ?_; (case F => k_asm); (case B => k_asm); (case X => k_asm); (case T => k_asm); (case N => exact news_one (by k_asm) (by k_mem)); (case kd => first | exact rfl | assumption); (case dp => first | walk_at "dp" | decide); (case hc => is_list); (case ne => first | assumption | (first | lia | omega)); (case hi => l_ints); (case l0 => (first | lia | omega)); (case l1 => (first | lia | omega)); (case k0 => (first | lia | omega)); (case k1 => (first | lia | omega)); (case s0 => first | (first | lia | omega) | decide | exact four_lo (by (first | lia | omega)) (by (first | lia | omega)) _); (case s1 => first | (first | lia | omega) | decide | exact four_hi (by (first | lia | omega)) (by (first | lia | omega)) _); k_whole); intro _ _ _ _ _ _ _ _ _ tkK tkG; k_dflt (refine' kept_step tkK tkG ?F ?N ?U ?_; (case F => k_asm); (case N => k_asm); (case U => k_upd)); clear tkK tkG; intro F' N'; (try k_sweep)))
  (k_with "eval Name" => (k_here; (with_reducible show wpAny _ _ (eval (Expr.Name _ _) _) _ _ _); k_dflt (refine' PyProof.Rows.ld ?k1 ?k2 ?_; (case k1 => k_asm); (case k2 => assumption); k_whole)))
  first | walk1 | trivial
section
theorem int_u8 {v : Int} (h0 : 0 ≤ v) (h1 : v < 256) : ∃ f : UInt8, v = (f.toNat : Int) := ⟨v.toNat.toUInt8, by
  have : v.toNat.toUInt8.toNat = v.toNat % 256 := UInt8.toNat_ofNat'
  rw [this]; (first | lia | omega)⟩
theorem one_byte {prog : Program} {w : World} {A : Around} {E : Value → Shared → Prop} {s : Shared} {h₀ : Heap} {L D : Addr} {m : Str → Option Value} {news : List (Addr × Obj)} {f : UInt8} {t : Tok} {n : Nat} {Q : Value → Shared → Prop} (F : Fr h₀ L s.heap m) (N : News h₀ L s.heap news) (hm : (D, PySem.W.listOf [Value.int (f.toNat : Int) t].toArray n) ∈ news) (hh : A.handled = none)
    (h : ∀ h' t k, Fr h₀ L h' m → News h₀ L h' news → Q (.bytes [f].toArray t) { s with heap := h', toks := k }) : wpAny (model prog w) A (call (.type "bytes") [.ref D]) Q E s := by
  refine call_bytes_ints (ns := [(f.toNat : Int)]) ⟨_, N.get hm, rfl, _, rfl⟩ (.cons _ _ .nil) (fun x hx => by rw [List.mem_singleton.mp hx]; have := f.toNat_lt; (first | lia | omega)) (by rw [List.length_singleton, sizeLine_eq]; (first | lia | omega)) hh fun h' t' k hk => ?_
  have e : byteArr [(f.toNat : Int)] = [f].toArray := by
    show [((f.toNat : Int).toNat).toUInt8].toArray = _
    rw [u8b]
  rw [e]
  exact h h' t' k (F.keeps hk) fun q hq => ⟨hk _ _ (N q hq).1, (N q hq).2⟩
theorem lines_C20_1 : True := by
  (k_with "call type:bytes" => (k_here; (with_reducible show wpAny _ _ (call (Value.type "bytes") [Value.ref _]) _ _ _); (with_reducible rename Fr _ _ _ _ => lF'); (with_reducible rename News _ _ _ _ => lN'); k_dflt (refine' one_byte lF' lN' ?m ?hh ?_; (case m => k_mem); (case hh => exact rfl); k_whole); intro h' _ _ F' N'))
  trivial
section
variable {prog p : Program} {w : World} {loose : List Str} {mean : ExcName → Option Value} {mg mb : Str → Option Value} {G : Heap} {L a c : Addr} {m : Str → Option Value} {rest : List (Addr × Obj)}
  {s : Shared} {Q : Flow → Shared → Prop} {k : Int} {tk : Tok} {n n' : Nat} {vs : List Value} {ns : List Int}
set_option maxHeartbeats 2000000 in
theorem law_first (X : (hd.heap_39 w.params).In G) (T : Top p loose mean mg mb G) (B : Below callerA G [] G) (F : Fr G L s.heap m) (hs : m (Str.ofString "state") = some (.ref a))
    (N : News G L s.heap ((a, PySem.W.listOf [.int k tk, .ref c].toArray n) :: (c, PySem.W.listOf vs.toArray n') :: rest)) (hr : ∀ q ∈ rest, q.1 ≠ a) (hca : c ≠ a) (hi : IntsAre vs ns) (hl0 : 0 < vs.length) (hl1 : vs.length ≤ 63) (hk0 : 0 ≤ k) (hk1 : k < 900)
    (ret : ∀ (f : UInt8) t t' h' tk', Fr G L h' (fun y => if y = Str.ofString "first" then some (.int (f.toNat : Int) t) else m y) →
      News G L h' ((a, PySem.W.listOf [.int (k + 1) t', .ref c].toArray n) :: (c, PySem.W.listOf vs.toArray n') :: rest) → Q .next { s with heap := h', toks := tk' }) :
    wpAny (model prog w) (callerA.deeper (envL L)) (exec st_189_5_0 (envL L)) Q NoE s := by
  conv in st_189_5_0 => whnf
  have hlen : ns.length = vs.length := hi.length.symm
  k_steps
  (rename Fr _ _ _ _ => F1)
  (rename News _ _ _ _ => N1)
  (rename Int => v0)
  obtain ⟨f, rfl⟩ := int_u8 (v := v0) (by assumption) (by assumption)
  exact ret f _ _ _ _ F1 N1
set_option maxHeartbeats 2000000 in
theorem law_count {f : UInt8} {t : Tok} (X : (hd.heap_39 w.params).In G) (T : Top p loose mean mg mb G) (B : Below callerA G [] G) (F : Fr G L s.heap m) (hs : m (Str.ofString "first") = some (.int (f.toNat : Int) t)) (N : News G L s.heap rest)
    (ret : ∀ t h' tk', Fr G L h' (fun y => if y = Str.ofString "count" then some (.int (pnN f : Int) t) else m y) → News G L h' rest → Q .next { s with heap := h', toks := tk' }) :
    wpAny (model prog w) (callerA.deeper (envL L)) (exec st_189_5_1 (envL L)) Q NoE s := by
  conv in st_189_5_1 => whnf
  k_steps
  (rename Fr _ _ _ _ => F1)
  (rename News _ _ _ _ => N1)
  rw [fm4] at F1
  exact ret _ _ _ F1 N1
set_option maxHeartbeats 2000000 in
theorem law_header {f : UInt8} {t tc : Tok} (X : (hd.heap_39 w.params).In G) (T : Top p loose mean mg mb G) (B : Below callerA G [] G) (F : Fr G L s.heap m) (hs : m (Str.ofString "state") = some (.ref a))
    (N : News G L s.heap ((a, PySem.W.listOf [.int k tk, .ref c].toArray n) :: (c, PySem.W.listOf vs.toArray n') :: rest)) (hr : ∀ q ∈ rest, q.1 ≠ a) (hca : c ≠ a) (hi : IntsAre vs ns) (hl0 : 0 < vs.length) (hl1 : vs.length ≤ 63) (hk0 : 0 ≤ k) (hk1 : k < 900)
    (hf : m (Str.ofString "first") = some (.int (f.toNat : Int) t)) (hc : m (Str.ofString "count") = some (.int (pnN f : Int) tc))
    (ret : ∀ (xs ys : List UInt8) k' t t' h' tk', xs.length ≤ 25 → ys.length = pnN f → k ≤ k' → k' ≤ k + 3 → Fr G L h' (fun y => if y = Str.ofString "header" then some (.bytes ([f] ++ xs ++ ys).toArray t) else m y) →
      News G L h' ((a, PySem.W.listOf [.int k' t', .ref c].toArray n) :: (c, PySem.W.listOf vs.toArray n') :: rest) → Q .next { s with heap := h', toks := tk' }) :
    wpAny (model prog w) (callerA.deeper (envL L)) (exec st_189_5_2 (envL L)) Q NoE s := by
  conv in st_189_5_2 => whnf
  have hlen : ns.length = vs.length := hi.length.symm
  have hpn := pnN_le f
  k_steps
  (rename Fr _ _ _ _ => F1)
  (rename News _ _ _ _ => N1)
  exact ret _ _ _ _ _ _ _ (by (first | lia | omega)) (by (first | lia | omega)) (by (first | lia | omega)) (by (first | lia | omega)) F1 fun q hq => N1 q (.tail _ hq)
set_option maxHeartbeats 2000000 in
theorem law_text {f : UInt8} {tc : Tok} (X : (hd.heap_39 w.params).In G) (T : Top p loose mean mg mb G) (B : Below callerA G [] G) (F : Fr G L s.heap m) (hs : m (Str.ofString "state") = some (.ref a))
    (N : News G L s.heap ((a, PySem.W.listOf [.int k tk, .ref c].toArray n) :: (c, PySem.W.listOf vs.toArray n') :: rest)) (hr : ∀ q ∈ rest, q.1 ≠ a) (hca : c ≠ a) (hi : IntsAre vs ns) (hl0 : 0 < vs.length) (hl1 : vs.length ≤ 63) (hk0 : 0 ≤ k) (hk1 : k < 900)
    (hc : m (Str.ofString "count") = some (.int (pnN f : Int) tc))
    (ret : ∀ (ts : List UInt8) k' t t' h' tk', 20 ≤ ts.length + pnN f → ts.length ≤ 60 → k ≤ k' → k' ≤ k + 2 → Fr G L h' (fun y => if y = Str.ofString "text" then some (.bytes ts.toArray t) else m y) →
      News G L h' ((a, PySem.W.listOf [.int k' t', .ref c].toArray n) :: (c, PySem.W.listOf vs.toArray n') :: rest) → Q .next { s with heap := h', toks := tk' }) :
    wpAny (model prog w) (callerA.deeper (envL L)) (exec st_189_5_3 (envL L)) Q NoE s := by
  conv in st_189_5_3 => whnf
  have hlen : ns.length = vs.length := hi.length.symm
  have hpn := pnN_le f
  k_steps
  all_goals
    (rename Fr _ _ _ _ => F1)
    (rename News _ _ _ _ => N1)
    (rename _ = List.getD _ _ _ => hl)
    have h20 := four_of hl (by (first | lia | omega)) (by (first | lia | omega)) (by (first | lia | omega))
    exact ret _ _ _ _ _ _ (by (first | lia | omega)) (by (first | lia | omega)) (by (first | lia | omega)) (by (first | lia | omega)) F1 fun q hq => N1 q (.tail _ hq)
end
end

theorem lines_C21 : True := by
  w_top off
  k_with_none
  (k_with "sz" => (first | (first | lia | omega) | (simp only [List.length_append, List.length_cons, List.length_nil, List.length_take, List.length_drop, List.length_map, List.length_set, List.length_replicate, toB_length, cutB_length]; (first | lia | omega))))
  (k_with "dp" => ((try simp only [depth_mark, depth_under_make, depth_under_kw, depth_in1, depth_deeper, depth_caller]); (try dsimp only [ktrTop]); (first | lia | omega)))
  (k_with "k_room" => ((try simp only [depth_mark, depth_under_make, depth_under_kw, depth_in1, depth_deeper, depth_caller]); simp only [recursionLimit]; (first | lia | omega)))
  (k_with "cell_enter" => (refine' enterF ?k1 ?k2 ?k3 ?k4 ?k5 ?kA ?kF ?kK ?k6 ?k7 ?k8 ?k9 ?kB ?_ ?c2 ?c3 ?c4 ?c5; (case kA => exact rfl); (case kF => exact rfl); (case kK => assumption); (case k1 => k_asm); (case k2 => k_asm); (case k3 => k_asm); (case k4 => k_asm); (case k5 => k_asm); (case k6 => k_is); (case k7 => k_is); (case k8 => ktr_room); (case k9 => exact BindsTo.of_eq rfl); (case c5 => decide); (case kB => exact locs rfl); (case c2 => exact rfl); (case c3 => exact rfl); (case c4 => exact rfl); k_whole; intro g' L' h' HG' F' N' B' X' T'; (try dsimp only)))
  (k_with "cell_enterP" => (refine' enterP ?k1 ?k2 ?k3 ?k4 ?k5 ?kA ?kF ?kK ?k6 ?k7 ?k8 ?k9 ?kB ?_ ?c2 ?c3 ?c4 ?c5; (case kA => exact rfl); (case kF => exact rfl); (case kK => assumption); (case k1 => k_asm); (case k2 => k_asm); (case k3 => k_asm); (case k4 => k_asm); (case k5 => k_asm); (case k6 => k_is); (case k7 => k_is); (case k8 => ktr_room); (case k9 => exact BindsTo.of_eq rfl); (case c5 => decide); (case kB => exact locs rfl); (case c2 => exact rfl); (case c3 => exact rfl); (case c4 => exact rfl); k_whole; intro g' L' h' HG' F' N' B' X' T'; (try dsimp only)))
  (k_with "binaryOp Add bytes bytes" => (k_here; (with_reducible show wpAny _ _ (binaryOp Operator.Add (Value.bytes (List.toArray _) _) (Value.bytes (List.toArray _) _)) _ _ _); k_dflt (refine' br_add ?z1 ?z2 ?_; (case z1 => walk_at "sz"); (case z2 => walk_at "sz"); k_whole); intro _ _))
  (k_with "call builtin:len" => (k_here; (with_reducible show wpAny _ _ (call (Value.builtin "len") [Value.bytes (List.toArray _) _]) _ _ _); k_dflt (refine' br_len ?z1 ?_; (case z1 => walk_at "sz"); k_whole); intro _ _))
  (k_with "subscriptTail" => (k_here; (with_reducible show wpAny _ _ (subscriptTail _ _ (Value.bytes (List.toArray _) _) (Value.int _ _)) _ _ _); k_dflt (refine' br_item ?z1 ?z2 ?z3 ?_; (case z1 => walk_at "sz"); (case z2 => walk_at "sz"); (case z3 => walk_at "sz"); k_whole); intro _ _))
  (k_with "subscriptTail" => (k_here; (with_reducible show wpAny _ _ (subscriptTail _ (Expr.Slice (some _) (some _) none _) (Value.bytes (List.toArray _) _) (Value.ref _)) _ _ _); (with_reducible rename Fr _ _ _ _ => F'); (with_reducible rename News _ _ _ _ => N'); k_dflt (refine' br_cut (s := ⟨_, _, _, _, _⟩) F' N' ?z1 ?z2 ?z3 ?_; (case z1 => walk_at "sz"); (case z2 => walk_at "sz"); (case z3 => walk_at "sz"); k_whole); intro h' _ _ F' N'; (try k_sweep)))
  (k_with "subscriptTail" => (k_here; (with_reducible show wpAny _ _ (subscriptTail _ (Expr.Slice (some _) none none _) (Value.bytes (List.toArray _) _) (Value.ref _)) _ _ _); (with_reducible rename Fr _ _ _ _ => F'); (with_reducible rename News _ _ _ _ => N'); k_dflt (refine' br_cutFrom (s := ⟨_, _, _, _, _⟩) F' N' ?z1 ?z2 ?_; (case z1 => walk_at "sz"); (case z2 => walk_at "sz"); k_whole); intro h' _ _ F' N'; (try k_sweep)))
  (k_with "subscriptTail" => (k_here; (with_reducible show wpAny _ _ (subscriptTail _ (Expr.Slice none (some _) none _) (Value.bytes (List.toArray _) _) (Value.ref _)) _ _ _); (with_reducible rename Fr _ _ _ _ => F'); (with_reducible rename News _ _ _ _ => N'); k_dflt (refine' br_cutTo (s := ⟨_, _, _, _, _⟩) F' N' ?z1 ?z2 ?_; (case z1 => walk_at "sz"); (case z2 => walk_at "sz"); k_whole); intro h' _ _ F' N'; (try k_sweep)))
  (k_with "subscriptTail" => (k_here; (with_reducible show wpAny _ _ (subscriptTail _ _ (Value.ref _) (Value.int _ _)) _ _ _); k_dflt (refine' bo_tail ?g ?z1 ?z2 ?z3 ?_; (case g => exact News.get (by k_asm) (by k_mem)); (case z1 => walk_at "sz"); (case z2 => walk_at "sz"); (case z3 => walk_at "sz"); k_whole); intro _ _))
  (k_with "subscriptTail" => (k_here; (with_reducible show wpAny _ _ (subscriptTail _ (Expr.Slice none (some _) none _) (Value.ref _) (Value.ref _)) _ _ _); (with_reducible rename Fr _ _ _ _ => F'); (with_reducible rename News _ _ _ _ => N'); k_dflt (refine' bo_cutTo (s := ⟨_, _, _, _, _⟩) F' N' ?m ?z1 ?z2 ?_; (case m => k_mem); (case z1 => walk_at "sz"); (case z2 => walk_at "sz"); k_whole); intro h' x' F' N' l1; (try k_lt l1); (try k_sweep)))
  (k_with "getItem ref int" => (k_here; k_dflt (refine' bo_getItem ?g ?z1 ?z2 ?z3 ?_; (case g => exact News.get (by k_asm) (by k_mem)); (case z1 => walk_at "sz"); (case z2 => walk_at "sz"); (case z3 => walk_at "sz"); k_whole); intro _ _))
  (k_with "setItem ref int" => (k_here; (with_reducible show wpAny _ _ (setItem (Value.ref _) (Value.int _ _) (Value.int _ _)) _ _ _); k_dflt (refine' bo_setItemK ?F ?N ?U ?z1 ?z2 ?z3 ?z4 ?z5 ?_; (case F => k_asm); (case N => k_asm); (case U => k_upd); (case z1 => walk_at "sz"); (case z2 => walk_at "sz"); (case z3 => walk_at "sz"); (case z4 => first | (with_reducible exact bx150 _ _) | (with_reducible exact bx310 _ _) | (with_reducible exact bxu0 _ _) | walk_at "sz"); (case z5 => first | (with_reducible exact bx151 _ _) | (with_reducible exact bx311 _ _) | (with_reducible exact bxu1 _ _) | walk_at "sz"); k_whole); intro h' F' N'; (try k_sweep)))
  (k_with "compareOp Eq bytes bytes" => (k_here; (with_reducible show wpAny _ _ (compareOp CmpOp.Eq (Value.bytes (List.toArray _) _) (Value.bytes (List.toArray _) _)) _ _ _); k_dflt (refine br_eq ?_)))
  (k_with "compareOp NotEq bytes bytes" => (k_here; (with_reducible show wpAny _ _ (compareOp CmpOp.NotEq (Value.bytes (List.toArray _) _) (Value.bytes (List.toArray _) _)) _ _ _); k_dflt (refine br_ne ?_)))
  (k_with "call builtin:int.to_bytes" => (k_here; (with_reducible show wpAny _ _ (call (Value.builtin "int.to_bytes") [Value.int _ _, Value.int _ _, Value.str _ _]) _ _ _); k_dflt (refine' br_to ?z1 ?z2 ?z3 ?z4 ?_; (case z1 => walk_at "sz"); (case z2 => walk_at "sz"); (case z3 => first | assumption | walk_at "sz" | exact Int.fmod_nonneg_of_pos _ (by decide)); (case z4 => first | assumption | walk_at "sz" | exact Int.lt_of_lt_of_le (Int.fmod_lt_of_pos _ (by decide)) (by decide)); k_whole); intro _ _))
  (k_with "call ref" => (k_here; (with_reducible show wpAny _ _ (call (Value.ref _) [Value.bytes (List.toArray _) _, Value.str _ _]) _ _ _); kfb_any; k_dflt (refine br_from (by k_asm) (by k_mem) ?z1 ?_; (case z1 => walk_at "sz")); intro _ _))
  (k_with "call type:bytes" => (k_here; (with_reducible show wpAny _ _ (call (Value.type "bytes") [Value.ref _]) _ _ _); k_dflt (refine' bo_bytes ?g ?z1 ?_; (case g => exact News.get (by k_asm) (by k_mem)); (case z1 => walk_at "sz"); k_whole); intro _ _))
  (k_with "pyIter bytes" => (k_here; (with_reducible show wpAny _ _ (pyIter (Value.bytes (List.toArray _) _)) (CompPost _ _ _ _ _ _ _ _ _) _ _); k_dflt (refine' comp_row ?hh ?F ?N ?hk ?hl ?hd ?hz ?_; (case hh => exact rfl); (case F => k_asm); (case N => k_asm); (case hk => exact rfl); (case hl => intro _; exact rfl); (case hd => decide); (case hz => walk_at "sz"); k_whole); intro D' ys' h' tk' F' N' lI' iI'; (try k_sweep)))
  (k_with "call type:bytes" => (k_here; (with_reducible show wpAny _ _ (call (Value.type "bytes") [Value.ref _]) _ _ _); (with_reducible rename IntsAre _ (rowOf _) => rI); k_dflt (refine' row_bytes ?F ?N ?hh ?hl rI ?hz ?_; (case F => k_asm); (case N => k_asm); (case hh => exact rfl); (case hl => assumption); (case hz => walk_at "sz"); k_whole); intro h' _ _ F' N'; (try k_sweep)))
  (k_with "call ref" => (k_here; (with_reducible show wpAny _ _ (call (Value.ref 144) [Value.bytes _ _, Value.bytes _ _, Value.bytes _ _]) _ _ _); k_dflt (refine' mask5_spec ?B ?F ?X ?N ?T ?kd ?dp ?z1 ?z2 ?z3 ?_; (case F => k_asm); (case B => k_asm); (case X => k_asm); (case T => k_asm); (case N => exact news_nil (by k_asm)); (case kd => first | exact rfl | assumption); (case dp => walk_at "dp"); (case z1 => walk_at "sz"); (case z2 => walk_at "sz"); (case z3 => walk_at "sz"); k_whole); intro _ _ _ mkK; k_dflt (refine' kept_step0 mkK ?F ?N ?_; (case F => k_asm); (case N => k_asm)); clear mkK; intro F' N'; (try k_sweep)))
  (k_with "call ref" => (k_here; (with_reducible show wpAny _ _ (call (Value.ref 149) [Value.bytes _ _, Value.bytes _ _, Value.bytes _ _]) _ _ _); k_dflt (refine' mask16_spec ?B ?F ?X ?N ?T ?kd ?dp ?z1 ?z2 ?z3 ?_; (case F => k_asm); (case B => k_asm); (case X => k_asm); (case T => k_asm); (case N => exact news_nil (by k_asm)); (case kd => first | exact rfl | assumption); (case dp => walk_at "dp"); (case z1 => walk_at "sz"); (case z2 => walk_at "sz"); (case z3 => walk_at "sz"); k_whole); intro _ _ _ mkK; k_dflt (refine' kept_step0 mkK ?F ?N ?_; (case F => k_asm); (case N => k_asm)); clear mkK; intro F' N'; (try k_sweep)))
  (k_with "eval Name" => (k_here; (with_reducible show wpAny _ _ (eval (Expr.Name _ _) _) _ _ _); k_dflt (refine' PyProof.Rows.ld ?k1 ?k2 ?_; (case k1 => k_asm); (case k2 => assumption); k_whole)))
  first | walk1 | trivial
section
section
variable {prog p : Program} {w : World} {loose : List Str} {mean : ExcName → Option Value} {mg mb : Str → Option Value} {G : Heap} {L a c : Addr} {m : Str → Option Value} {rest : List (Addr × Obj)}
  {s : Shared} {Q : Flow → Shared → Prop} {f : UInt8} {hs ts M nm ky : List UInt8} {t t2 t3 t4 : Tok} {pl cn : Nat} {wide : Bool}
set_option maxHeartbeats 2000000 in
theorem law_place (X : (hd.heap_39 w.params).In G) (T : Top p loose mean mg mb G) (B : Below callerA G [] G) (F : Fr G L s.heap m) (N : News G L s.heap rest)
    (h1 : m (Str.ofString "header") = some (.bytes hs.toArray t)) (h2 : m (Str.ofString "count") = some (.int (cn : Int) t2)) (hz : hs.length ≤ 100) (hc : cn ≤ hs.length)
    (ret : ∀ t h' tk', Fr G L h' (fun y => if y = Str.ofString "place" then some (.int ((hs.length - cn : Nat) : Int) t) else m y) → News G L h' rest → Q .next { s with heap := h', toks := tk' }) :
    wpAny (model prog w) (callerA.deeper (envL L)) (exec st_189_5_4 (envL L)) Q NoE s := by
  conv in st_189_5_4 => whnf
  k_steps
  (rename Fr _ _ _ _ => F1)
  (rename News _ _ _ _ => N1)
  rw [show ((hs.length : Int) - (cn : Int)) = ((hs.length - cn : Nat) : Int) by (first | lia | omega)] at F1
  exact ret _ _ _ F1 N1
set_option maxHeartbeats 2000000 in
theorem law_plain (X : (hd.heap_39 w.params).In G) (T : Top p loose mean mg mb G) (B : Below callerA G [] G) (F : Fr G L s.heap m) (N : News G L s.heap rest)
    (h1 : m (Str.ofString "header") = some (.bytes hs.toArray t)) (h2 : m (Str.ofString "text") = some (.bytes ts.toArray t2)) (hz : hs.length ≤ 100) (hz2 : ts.length ≤ 100)
    (ret : ∀ t h' tk', Fr G L h' (fun y => if y = Str.ofString "plain" then some (.bytes (hs ++ ts).toArray t) else m y) → News G L h' rest → Q .next { s with heap := h', toks := tk' }) :
    wpAny (model prog w) (callerA.deeper (envL L)) (exec st_189_5_5 (envL L)) Q NoE s := by
  conv in st_189_5_5 => whnf
  k_steps
  (rename Fr _ _ _ _ => F1)
  (rename News _ _ _ _ => N1)
  exact ret _ _ _ F1 N1
set_option maxHeartbeats 2000000 in
theorem law_mask (X : (hd.heap_39 w.params).In G) (T : Top p loose mean mg mb G) (B : Below callerA G [] G) (F : Fr G L s.heap m) (N : News G L s.heap rest)
    (h1 : m (Str.ofString "plain") = some (.bytes hs.toArray t)) (h2 : m (Str.ofString "place") = some (.int (pl : Int) t2)) (h3 : m (Str.ofString "wide") = some (.bool wide)) (h4 : m (Str.ofString "name") = some (.bytes nm.toArray t3)) (h5 : m (Str.ofString "key") = some (.bytes ky.toArray t4))
    (hz : hs.length ≤ 200) (hn : nm.length ≤ 100) (hk : ky.length ≤ 100)
    (ret : ∀ t h' tk', Fr G L h' (fun y => if y = Str.ofString "mask" then some (.bytes (maskV wide nm ky ((hs.drop (pl + 4)).take 16)).toArray t) else m y) → News G L h' rest → Q .next { s with heap := h', toks := tk' }) :
    wpAny (model prog w) (callerA.deeper (envL L)) (exec st_189_5_6 (envL L)) Q NoE s := by
  conv in st_189_5_6 => whnf
  have e : cutB hs ((pl : Int) + 4) ((pl : Int) + 20) = (hs.drop (pl + 4)).take 16 := by
    unfold cutB
    rw [show ((pl : Int) + 20).toNat - ((pl : Int) + 4).toNat = 16 by (first | lia | omega), show ((pl : Int) + 4).toNat = pl + 4 by (first | lia | omega)]
  have hcz : (cutB hs ((pl : Int) + 4) ((pl : Int) + 20)).length ≤ 100 := by rw [cutB_length]; (first | lia | omega)
  cases wide
  · k_steps
    (rename Fr _ _ _ _ => F1)
    (rename News _ _ _ _ => N1)
    rw [e] at F1
    exact ret _ _ _ F1 fun q hq => N1 q (by repeat (first | exact hq | refine List.mem_cons_of_mem _ ?_))
  · k_steps
    (rename Fr _ _ _ _ => F1)
    (rename News _ _ _ _ => N1)
    rw [e] at F1
    exact ret _ _ _ F1 fun q hq => N1 q (by repeat (first | exact hq | refine List.mem_cons_of_mem _ ?_))
set_option maxHeartbeats 2000000 in
theorem law_low (X : (hd.heap_39 w.params).In G) (T : Top p loose mean mg mb G) (B : Below callerA G [] G) (F : Fr G L s.heap m) (N : News G L s.heap rest)
    (h1 : m (Str.ofString "mask") = some (.bytes M.toArray t)) (h2 : m (Str.ofString "first") = some (.int (f.toNat : Int) t2)) (hM0 : 5 ≤ M.length) (hM1 : M.length ≤ 16)
    (ret : ∀ t h' tk', Fr G L h' (fun y => if y = Str.ofString "low" then some (.int ((lowOf f (M.getD 0 0)).toNat : Int) t) else m y) → News G L h' rest → Q .next { s with heap := h', toks := tk' }) :
    wpAny (model prog w) (callerA.deeper (envL L)) (exec st_189_5_7 (envL L)) Q NoE s := by
  conv in st_189_5_7 => whnf
  k_steps
  all_goals
    (rename Fr _ _ _ _ => F1)
    (rename News _ _ _ _ => N1)
    have e0 : Int.toNat 0 = 0 := rfl
    rw [e0] at F1
    first
    | rw [low16 (x := f) (by assumption)] at F1
    | rw [low32 (x := f) (by assumption)] at F1
    exact ret _ _ _ F1 N1
end
end

theorem lines_C22 : True := by
  w_top off
  k_with_none
  (k_with "sz" => (first | (first | lia | omega) | (simp only [List.length_append, List.length_cons, List.length_nil, List.length_take, List.length_drop, List.length_map, List.length_set, List.length_replicate, toB_length, cutB_length]; (first | lia | omega))))
  (k_with "dp" => ((try simp only [depth_mark, depth_under_make, depth_under_kw, depth_in1, depth_deeper, depth_caller]); (try dsimp only [ktrTop]); (first | lia | omega)))
  (k_with "k_room" => ((try simp only [depth_mark, depth_under_make, depth_under_kw, depth_in1, depth_deeper, depth_caller]); simp only [recursionLimit]; (first | lia | omega)))
  (k_with "cell_enter" => (refine' enterF ?k1 ?k2 ?k3 ?k4 ?k5 ?kA ?kF ?kK ?k6 ?k7 ?k8 ?k9 ?kB ?_ ?c2 ?c3 ?c4 ?c5; (case kA => exact rfl); (case kF => exact rfl); (case kK => assumption); (case k1 => k_asm); (case k2 => k_asm); (case k3 => k_asm); (case k4 => k_asm); (case k5 => k_asm); (case k6 => k_is); (case k7 => k_is); (case k8 => ktr_room); (case k9 => exact BindsTo.of_eq rfl); (case c5 => decide); (case kB => exact locs rfl); (case c2 => exact rfl); (case c3 => exact rfl); (case c4 => exact rfl); k_whole; intro g' L' h' HG' F' N' B' X' T'; (try dsimp only)))
  (k_with "cell_enterP" => (refine' enterP ?k1 ?k2 ?k3 ?k4 ?k5 ?kA ?kF ?kK ?k6 ?k7 ?k8 ?k9 ?kB ?_ ?c2 ?c3 ?c4 ?c5; (case kA => exact rfl); (case kF => exact rfl); (case kK => assumption); (case k1 => k_asm); (case k2 => k_asm); (case k3 => k_asm); (case k4 => k_asm); (case k5 => k_asm); (case k6 => k_is); (case k7 => k_is); (case k8 => ktr_room); (case k9 => exact BindsTo.of_eq rfl); (case c5 => decide); (case kB => exact locs rfl); (case c2 => exact rfl); (case c3 => exact rfl); (case c4 => exact rfl); k_whole; intro g' L' h' HG' F' N' B' X' T'; (try dsimp only)))
  (k_with "binaryOp Add bytes bytes" => (k_here; (with_reducible show wpAny _ _ (binaryOp Operator.Add (Value.bytes (List.toArray _) _) (Value.bytes (List.toArray _) _)) _ _ _); k_dflt (refine' br_add ?z1 ?z2 ?_; (case z1 => walk_at "sz"); (case z2 => walk_at "sz"); k_whole); intro _ _))
  (k_with "call builtin:len" => (k_here; (with_reducible show wpAny _ _ (call (Value.builtin "len") [Value.bytes (List.toArray _) _]) _ _ _); k_dflt (refine' br_len ?z1 ?_; (case z1 => walk_at "sz"); k_whole); intro _ _))
  (k_with "subscriptTail" => (k_here; (with_reducible show wpAny _ _ (subscriptTail _ _ (Value.bytes (List.toArray _) _) (Value.int _ _)) _ _ _); k_dflt (refine' br_item ?z1 ?z2 ?z3 ?_; (case z1 => walk_at "sz"); (case z2 => walk_at "sz"); (case z3 => walk_at "sz"); k_whole); intro _ _))
  (k_with "subscriptTail" => (k_here; (with_reducible show wpAny _ _ (subscriptTail _ (Expr.Slice (some _) (some _) none _) (Value.bytes (List.toArray _) _) (Value.ref _)) _ _ _); (with_reducible rename Fr _ _ _ _ => F'); (with_reducible rename News _ _ _ _ => N'); k_dflt (refine' br_cut (s := ⟨_, _, _, _, _⟩) F' N' ?z1 ?z2 ?z3 ?_; (case z1 => walk_at "sz"); (case z2 => walk_at "sz"); (case z3 => walk_at "sz"); k_whole); intro h' _ _ F' N'; (try k_sweep)))
  (k_with "subscriptTail" => (k_here; (with_reducible show wpAny _ _ (subscriptTail _ (Expr.Slice (some _) none none _) (Value.bytes (List.toArray _) _) (Value.ref _)) _ _ _); (with_reducible rename Fr _ _ _ _ => F'); (with_reducible rename News _ _ _ _ => N'); k_dflt (refine' br_cutFrom (s := ⟨_, _, _, _, _⟩) F' N' ?z1 ?z2 ?_; (case z1 => walk_at "sz"); (case z2 => walk_at "sz"); k_whole); intro h' _ _ F' N'; (try k_sweep)))
  (k_with "subscriptTail" => (k_here; (with_reducible show wpAny _ _ (subscriptTail _ (Expr.Slice none (some _) none _) (Value.bytes (List.toArray _) _) (Value.ref _)) _ _ _); (with_reducible rename Fr _ _ _ _ => F'); (with_reducible rename News _ _ _ _ => N'); k_dflt (refine' br_cutTo (s := ⟨_, _, _, _, _⟩) F' N' ?z1 ?z2 ?_; (case z1 => walk_at "sz"); (case z2 => walk_at "sz"); k_whole); intro h' _ _ F' N'; (try k_sweep)))
  (k_with "subscriptTail" => (k_here; (with_reducible show wpAny _ _ (subscriptTail _ _ (Value.ref _) (Value.int _ _)) _ _ _); k_dflt (refine' bo_tail ?g ?z1 ?z2 ?z3 ?_; (case g => exact News.get (by k_asm) (by k_mem)); (case z1 => walk_at "sz"); (case z2 => walk_at "sz"); (case z3 => walk_at "sz"); k_whole); intro _ _))
  (k_with "subscriptTail" => (k_here; (with_reducible show wpAny _ _ (subscriptTail _ (Expr.Slice none (some _) none _) (Value.ref _) (Value.ref _)) _ _ _); (with_reducible rename Fr _ _ _ _ => F'); (with_reducible rename News _ _ _ _ => N'); k_dflt (refine' bo_cutTo (s := ⟨_, _, _, _, _⟩) F' N' ?m ?z1 ?z2 ?_; (case m => k_mem); (case z1 => walk_at "sz"); (case z2 => walk_at "sz"); k_whole); intro h' x' F' N' l1; (try k_lt l1); (try k_sweep)))
  (k_with "getItem ref int" => (k_here; k_dflt (refine' bo_getItem ?g ?z1 ?z2 ?z3 ?_; (case g => exact News.get (by k_asm) (by k_mem)); (case z1 => walk_at "sz"); (case z2 => walk_at "sz"); (case z3 => walk_at "sz"); k_whole); intro _ _))
  (k_with "setItem ref int" => (k_here; (with_reducible show wpAny _ _ (setItem (Value.ref _) (Value.int _ _) (Value.int _ _)) _ _ _); k_dflt (refine' bo_setItemK ?F ?N ?U ?z1 ?z2 ?z3 ?z4 ?z5 ?_; (case F => k_asm); (case N => k_asm); (case U => k_upd); (case z1 => walk_at "sz"); (case z2 => walk_at "sz"); (case z3 => walk_at "sz"); (case z4 => first | (with_reducible exact bx150 _ _) | (with_reducible exact bx310 _ _) | (with_reducible exact bxu0 _ _) | walk_at "sz"); (case z5 => first | (with_reducible exact bx151 _ _) | (with_reducible exact bx311 _ _) | (with_reducible exact bxu1 _ _) | walk_at "sz"); k_whole); intro h' F' N'; (try k_sweep)))
  (k_with "compareOp Eq bytes bytes" => (k_here; (with_reducible show wpAny _ _ (compareOp CmpOp.Eq (Value.bytes (List.toArray _) _) (Value.bytes (List.toArray _) _)) _ _ _); k_dflt (refine br_eq ?_)))
  (k_with "compareOp NotEq bytes bytes" => (k_here; (with_reducible show wpAny _ _ (compareOp CmpOp.NotEq (Value.bytes (List.toArray _) _) (Value.bytes (List.toArray _) _)) _ _ _); k_dflt (refine br_ne ?_)))
  (k_with "call builtin:int.to_bytes" => (k_here; (with_reducible show wpAny _ _ (call (Value.builtin "int.to_bytes") [Value.int _ _, Value.int _ _, Value.str _ _]) _ _ _); k_dflt (refine' br_to ?z1 ?z2 ?z3 ?z4 ?_; (case z1 => walk_at "sz"); (case z2 => walk_at "sz"); (case z3 => first | assumption | walk_at "sz" | exact Int.fmod_nonneg_of_pos _ (by decide)); (case z4 => first | assumption | walk_at "sz" | exact Int.lt_of_lt_of_le (Int.fmod_lt_of_pos _ (by decide)) (by decide)); k_whole); intro _ _))
  (k_with "call ref" => (k_here; (with_reducible show wpAny _ _ (call (Value.ref _) [Value.bytes (List.toArray _) _, Value.str _ _]) _ _ _); kfb_any; k_dflt (refine br_from (by k_asm) (by k_mem) ?z1 ?_; (case z1 => walk_at "sz")); intro _ _))
  (k_with "call type:bytes" => (k_here; (with_reducible show wpAny _ _ (call (Value.type "bytes") [Value.ref _]) _ _ _); k_dflt (refine' bo_bytes ?g ?z1 ?_; (case g => exact News.get (by k_asm) (by k_mem)); (case z1 => walk_at "sz"); k_whole); intro _ _))
  (k_with "pyIter bytes" => (k_here; (with_reducible show wpAny _ _ (pyIter (Value.bytes (List.toArray _) _)) (CompPost _ _ _ _ _ _ _ _ _) _ _); k_dflt (refine' comp_row ?hh ?F ?N ?hk ?hl ?hd ?hz ?_; (case hh => exact rfl); (case F => k_asm); (case N => k_asm); (case hk => exact rfl); (case hl => intro _; exact rfl); (case hd => decide); (case hz => walk_at "sz"); k_whole); intro D' ys' h' tk' F' N' lI' iI'; (try k_sweep)))
  (k_with "call type:bytes" => (k_here; (with_reducible show wpAny _ _ (call (Value.type "bytes") [Value.ref _]) _ _ _); (with_reducible rename IntsAre _ (rowOf _) => rI); k_dflt (refine' row_bytes ?F ?N ?hh ?hl rI ?hz ?_; (case F => k_asm); (case N => k_asm); (case hh => exact rfl); (case hl => assumption); (case hz => walk_at "sz"); k_whole); intro h' _ _ F' N'; (try k_sweep)))
  (k_with "eval Name" => (k_here; (with_reducible show wpAny _ _ (eval (Expr.Name _ _) _) _ _ _); k_dflt (refine' PyProof.Rows.ld ?k1 ?k2 ?_; (case k1 => k_asm); (case k2 => assumption); k_whole)))
  first | walk1 | trivial
section
theorem one_byteX {prog : Program} {w : World} {A : Around} {E : Value → Shared → Prop} {s : Shared} {h₀ : Heap} {L D : Addr} {m : Str → Option Value} {news : List (Addr × Obj)} {x y : UInt8} {t : Tok} {n : Nat} {Q : Value → Shared → Prop} (F : Fr h₀ L s.heap m) (N : News h₀ L s.heap news) (hm : (D, PySem.W.listOf [Value.int (Builtin.bitXor (x.toNat : Int) (y.toNat : Int)) t].toArray n) ∈ news) (hh : A.handled = none)
    (h : ∀ h' t k, Fr h₀ L h' m → News h₀ L h' news → Q (.bytes [x ^^^ y].toArray t) { s with heap := h', toks := k }) : wpAny (model prog w) A (call (.type "bytes") [.ref D]) Q E s := by
  rw [bx_u] at hm
  exact one_byte F N hm hh h
theorem lines_C22_1 : True := by
  (k_with "call type:bytes" => (k_here; (with_reducible show wpAny _ _ (call (Value.type "bytes") [Value.ref _]) _ _ _); (with_reducible rename Fr _ _ _ _ => lF'); (with_reducible rename News _ _ _ _ => lN'); k_dflt (refine' one_byteX lF' lN' ?m ?hh ?_; (case m => k_mem); (case hh => exact rfl); k_whole); intro h' _ _ F' N'))
  trivial
section
variable {prog p : Program} {w : World} {loose : List Str} {mean : ExcName → Option Value} {mg mb : Str → Option Value} {G : Heap} {L a c : Addr} {m : Str → Option Value} {rest : List (Addr × Obj)}
  {s : Shared} {Q : Flow → Shared → Prop} {f lw : UInt8} {hs ts M nm ky : List UInt8} {t1 t2 t3 t4 t5 t6 t7 : Tok} {pl cn : Nat}
/-- what the law says that the packet must be -/
def dueL (f lw : UInt8) (hs M ts : List UInt8) (pl cn : Nat) : List UInt8 := [f ^^^ lw] ++ (hs.drop 1).take (pl - 1) ++ toB cn (valB (hs.drop pl) ^^^ valB ((M.drop 1).take cn)) ++ ts
set_option maxHeartbeats 2000000 in
theorem law_due (X : (hd.heap_39 w.params).In G) (T : Top p loose mean mg mb G) (B : Below callerA G [] G) (F : Fr G L s.heap m) (N : News G L s.heap rest)
    (h1 : m (Str.ofString "first") = some (.int (f.toNat : Int) t1)) (h2 : m (Str.ofString "low") = some (.int (lw.toNat : Int) t2)) (h3 : m (Str.ofString "header") = some (.bytes hs.toArray t3)) (h4 : m (Str.ofString "place") = some (.int (pl : Int) t4))
    (h5 : m (Str.ofString "mask") = some (.bytes M.toArray t5)) (h6 : m (Str.ofString "count") = some (.int (cn : Int) t6)) (h7 : m (Str.ofString "text") = some (.bytes ts.toArray t7))
    (hM0 : 5 ≤ M.length) (hM1 : M.length ≤ 16) (hz : hs.length ≤ 100) (hz2 : ts.length ≤ 100) (hc0 : 1 ≤ cn) (hc1 : cn ≤ 4) (hpl : pl + cn = hs.length) (hpl1 : 1 ≤ pl)
    (ret : ∀ t h' tk', Fr G L h' (fun y => if y = Str.ofString "due" then some (.bytes (dueL f lw hs M ts pl cn).toArray t) else m y) → News G L h' rest → Q .next { s with heap := h', toks := tk' }) :
    wpAny (model prog w) (callerA.deeper (envL L)) (exec st_189_5_8 (envL L)) Q NoE s := by
  conv in st_189_5_8 => whnf
  have e1 : hs.drop (pl : Int).toNat = hs.drop pl := by rw [Int.toNat_natCast]
  have e2 : cutB M 1 (1 + (cn : Int)) = (M.drop 1).take cn := by
    unfold cutB
    rw [show (1 + (cn : Int)).toNat - (1 : Int).toNat = cn by (first | lia | omega)]
    rfl
  have b1 : valB (hs.drop pl) < 256 ^ cn := by
    have := valB_lt (hs.drop pl)
    rwa [List.length_drop, show hs.length - pl = cn by (first | lia | omega)] at this
  have b2 : valB ((M.drop 1).take cn) < 256 ^ cn := by
    have := valB_lt ((M.drop 1).take cn)
    exact Nat.lt_of_lt_of_le this (Nat.pow_le_pow_right (by decide) (List.length_take_le _ _))
  have ex : Builtin.bitXor ((valB (hs.drop (pl : Int).toNat) : Nat) : Int) ((valB (cutB M 1 (1 + (cn : Int))) : Nat) : Int) = ((valB (hs.drop pl) ^^^ valB ((M.drop 1).take cn) : Nat) : Int) := by
    rw [b_xor, e1, e2]
  have hx0 : 0 ≤ Builtin.bitXor ((valB (hs.drop (pl : Int).toNat) : Nat) : Int) ((valB (cutB M 1 (1 + (cn : Int))) : Nat) : Int) := by rw [ex]; exact Int.natCast_nonneg _
  have hx1 : Builtin.bitXor ((valB (hs.drop (pl : Int).toNat) : Nat) : Int) ((valB (cutB M 1 (1 + (cn : Int))) : Nat) : Int) < 256 ^ (cn : Int).toNat := by
    rw [ex, Int.toNat_natCast]
    exact_mod_cast xor_lt256 b1 b2
  clear b1 b2
  k_steps
  (rename Fr _ _ _ _ => F1)
  (rename News _ _ _ _ => N1)
  rw [ex] at F1
  have e3 : cutB hs 1 (pl : Int) = (hs.drop 1).take (pl - 1) := by
    unfold cutB
    rw [show (pl : Int).toNat - (1 : Int).toNat = pl - 1 by (first | lia | omega)]
    rfl
  rw [e3] at F1
  exact ret _ _ _ F1 fun q hq => N1 q (by repeat (first | exact hq | refine List.mem_cons_of_mem _ ?_))
end
end

theorem lines_C23 : True := by
  w_top off
  k_with_none
  (k_with "sz" => (first | (first | lia | omega) | (simp only [List.length_append, List.length_cons, List.length_nil, List.length_take, List.length_drop, List.length_map, List.length_set, List.length_replicate, toB_length, cutB_length]; (first | lia | omega))))
  (k_with "dp" => ((try simp only [depth_mark, depth_under_make, depth_under_kw, depth_in1, depth_deeper, depth_caller]); (try dsimp only [ktrTop]); (first | lia | omega)))
  (k_with "k_room" => ((try simp only [depth_mark, depth_under_make, depth_under_kw, depth_in1, depth_deeper, depth_caller]); simp only [recursionLimit]; (first | lia | omega)))
  (k_with "cell_enter" => (refine' enterF ?k1 ?k2 ?k3 ?k4 ?k5 ?kA ?kF ?kK ?k6 ?k7 ?k8 ?k9 ?kB ?_ ?c2 ?c3 ?c4 ?c5; (case kA => exact rfl); (case kF => exact rfl); (case kK => assumption); (case k1 => k_asm); (case k2 => k_asm); (case k3 => k_asm); (case k4 => k_asm); (case k5 => k_asm); (case k6 => k_is); (case k7 => k_is); (case k8 => ktr_room); (case k9 => exact BindsTo.of_eq rfl); (case c5 => decide); (case kB => exact locs rfl); (case c2 => exact rfl); (case c3 => exact rfl); (case c4 => exact rfl); k_whole; intro g' L' h' HG' F' N' B' X' T'; (try dsimp only)))
  (k_with "cell_enterP" => (refine' enterP ?k1 ?k2 ?k3 ?k4 ?k5 ?kA ?kF ?kK ?k6 ?k7 ?k8 ?k9 ?kB ?_ ?c2 ?c3 ?c4 ?c5; (case kA => exact rfl); (case kF => exact rfl); (case kK => assumption); (case k1 => k_asm); (case k2 => k_asm); (case k3 => k_asm); (case k4 => k_asm); (case k5 => k_asm); (case k6 => k_is); (case k7 => k_is); (case k8 => ktr_room); (case k9 => exact BindsTo.of_eq rfl); (case c5 => decide); (case kB => exact locs rfl); (case c2 => exact rfl); (case c3 => exact rfl); (case c4 => exact rfl); k_whole; intro g' L' h' HG' F' N' B' X' T'; (try dsimp only)))
  (k_with "binaryOp Add bytes bytes" => (k_here; (with_reducible show wpAny _ _ (binaryOp Operator.Add (Value.bytes (List.toArray _) _) (Value.bytes (List.toArray _) _)) _ _ _); k_dflt (refine' br_add ?z1 ?z2 ?_; (case z1 => walk_at "sz"); (case z2 => walk_at "sz"); k_whole); intro _ _))
  (k_with "call builtin:len" => (k_here; (with_reducible show wpAny _ _ (call (Value.builtin "len") [Value.bytes (List.toArray _) _]) _ _ _); k_dflt (refine' br_len ?z1 ?_; (case z1 => walk_at "sz"); k_whole); intro _ _))
  (k_with "subscriptTail" => (k_here; (with_reducible show wpAny _ _ (subscriptTail _ _ (Value.bytes (List.toArray _) _) (Value.int _ _)) _ _ _); k_dflt (refine' br_item ?z1 ?z2 ?z3 ?_; (case z1 => walk_at "sz"); (case z2 => walk_at "sz"); (case z3 => walk_at "sz"); k_whole); intro _ _))
  (k_with "subscriptTail" => (k_here; (with_reducible show wpAny _ _ (subscriptTail _ (Expr.Slice (some _) (some _) none _) (Value.bytes (List.toArray _) _) (Value.ref _)) _ _ _); (with_reducible rename Fr _ _ _ _ => F'); (with_reducible rename News _ _ _ _ => N'); k_dflt (refine' br_cut (s := ⟨_, _, _, _, _⟩) F' N' ?z1 ?z2 ?z3 ?_; (case z1 => walk_at "sz"); (case z2 => walk_at "sz"); (case z3 => walk_at "sz"); k_whole); intro h' _ _ F' N'; (try k_sweep)))
  (k_with "subscriptTail" => (k_here; (with_reducible show wpAny _ _ (subscriptTail _ (Expr.Slice (some _) none none _) (Value.bytes (List.toArray _) _) (Value.ref _)) _ _ _); (with_reducible rename Fr _ _ _ _ => F'); (with_reducible rename News _ _ _ _ => N'); k_dflt (refine' br_cutFrom (s := ⟨_, _, _, _, _⟩) F' N' ?z1 ?z2 ?_; (case z1 => walk_at "sz"); (case z2 => walk_at "sz"); k_whole); intro h' _ _ F' N'; (try k_sweep)))
  (k_with "subscriptTail" => (k_here; (with_reducible show wpAny _ _ (subscriptTail _ (Expr.Slice none (some _) none _) (Value.bytes (List.toArray _) _) (Value.ref _)) _ _ _); (with_reducible rename Fr _ _ _ _ => F'); (with_reducible rename News _ _ _ _ => N'); k_dflt (refine' br_cutTo (s := ⟨_, _, _, _, _⟩) F' N' ?z1 ?z2 ?_; (case z1 => walk_at "sz"); (case z2 => walk_at "sz"); k_whole); intro h' _ _ F' N'; (try k_sweep)))
  (k_with "subscriptTail" => (k_here; (with_reducible show wpAny _ _ (subscriptTail _ _ (Value.ref _) (Value.int _ _)) _ _ _); k_dflt (refine' bo_tail ?g ?z1 ?z2 ?z3 ?_; (case g => exact News.get (by k_asm) (by k_mem)); (case z1 => walk_at "sz"); (case z2 => walk_at "sz"); (case z3 => walk_at "sz"); k_whole); intro _ _))
  (k_with "subscriptTail" => (k_here; (with_reducible show wpAny _ _ (subscriptTail _ (Expr.Slice none (some _) none _) (Value.ref _) (Value.ref _)) _ _ _); (with_reducible rename Fr _ _ _ _ => F'); (with_reducible rename News _ _ _ _ => N'); k_dflt (refine' bo_cutTo (s := ⟨_, _, _, _, _⟩) F' N' ?m ?z1 ?z2 ?_; (case m => k_mem); (case z1 => walk_at "sz"); (case z2 => walk_at "sz"); k_whole); intro h' x' F' N' l1; (try k_lt l1); (try k_sweep)))
  (k_with "getItem ref int" => (k_here; k_dflt (refine' bo_getItem ?g ?z1 ?z2 ?z3 ?_; (case g => exact News.get (by k_asm) (by k_mem)); (case z1 => walk_at "sz"); (case z2 => walk_at "sz"); (case z3 => walk_at "sz"); k_whole); intro _ _))
  (k_with "setItem ref int" => (k_here; (with_reducible show wpAny _ _ (setItem (Value.ref _) (Value.int _ _) (Value.int _ _)) _ _ _); k_dflt (refine' bo_setItemK ?F ?N ?U ?z1 ?z2 ?z3 ?z4 ?z5 ?_; (case F => k_asm); (case N => k_asm); (case U => k_upd); (case z1 => walk_at "sz"); (case z2 => walk_at "sz"); (case z3 => walk_at "sz"); (case z4 => first | (with_reducible exact bx150 _ _) | (with_reducible exact bx310 _ _) | (with_reducible exact bxu0 _ _) | walk_at "sz"); (case z5 => first | (with_reducible exact bx151 _ _) | (with_reducible exact bx311 _ _) | (with_reducible exact bxu1 _ _) | walk_at "sz"); k_whole); intro h' F' N'; (try k_sweep)))
  (k_with "compareOp Eq bytes bytes" => (k_here; (with_reducible show wpAny _ _ (compareOp CmpOp.Eq (Value.bytes (List.toArray _) _) (Value.bytes (List.toArray _) _)) _ _ _); k_dflt (refine br_eq ?_)))
  (k_with "compareOp NotEq bytes bytes" => (k_here; (with_reducible show wpAny _ _ (compareOp CmpOp.NotEq (Value.bytes (List.toArray _) _) (Value.bytes (List.toArray _) _)) _ _ _); k_dflt (refine br_ne ?_)))
  (k_with "call builtin:int.to_bytes" => (k_here; (with_reducible show wpAny _ _ (call (Value.builtin "int.to_bytes") [Value.int _ _, Value.int _ _, Value.str _ _]) _ _ _); k_dflt (refine' br_to ?z1 ?z2 ?z3 ?z4 ?_; (case z1 => walk_at "sz"); (case z2 => walk_at "sz"); (case z3 => first | assumption | walk_at "sz" | exact Int.fmod_nonneg_of_pos _ (by decide)); (case z4 => first | assumption | walk_at "sz" | exact Int.lt_of_lt_of_le (Int.fmod_lt_of_pos _ (by decide)) (by decide)); k_whole); intro _ _))
  (k_with "call ref" => (k_here; (with_reducible show wpAny _ _ (call (Value.ref _) [Value.bytes (List.toArray _) _, Value.str _ _]) _ _ _); kfb_any; k_dflt (refine br_from (by k_asm) (by k_mem) ?z1 ?_; (case z1 => walk_at "sz")); intro _ _))
  (k_with "call type:bytes" => (k_here; (with_reducible show wpAny _ _ (call (Value.type "bytes") [Value.ref _]) _ _ _); k_dflt (refine' bo_bytes ?g ?z1 ?_; (case g => exact News.get (by k_asm) (by k_mem)); (case z1 => walk_at "sz"); k_whole); intro _ _))
  (k_with "pyIter bytes" => (k_here; (with_reducible show wpAny _ _ (pyIter (Value.bytes (List.toArray _) _)) (CompPost _ _ _ _ _ _ _ _ _) _ _); k_dflt (refine' comp_row ?hh ?F ?N ?hk ?hl ?hd ?hz ?_; (case hh => exact rfl); (case F => k_asm); (case N => k_asm); (case hk => exact rfl); (case hl => intro _; exact rfl); (case hd => decide); (case hz => walk_at "sz"); k_whole); intro D' ys' h' tk' F' N' lI' iI'; (try k_sweep)))
  (k_with "call type:bytes" => (k_here; (with_reducible show wpAny _ _ (call (Value.type "bytes") [Value.ref _]) _ _ _); (with_reducible rename IntsAre _ (rowOf _) => rI); k_dflt (refine' row_bytes ?F ?N ?hh ?hl rI ?hz ?_; (case F => k_asm); (case N => k_asm); (case hh => exact rfl); (case hl => assumption); (case hz => walk_at "sz"); k_whole); intro h' _ _ F' N'; (try k_sweep)))
  (k_with "eval Name" => (k_here; (with_reducible show wpAny _ _ (eval (Expr.Name _ _) _) _ _ _); k_dflt (refine' PyProof.Rows.ld ?k1 ?k2 ?_; (case k1 => k_asm); (case k2 => assumption); k_whole)))
  first | walk1 | trivial
section
section
variable {prog p : Program} {w : World} {loose : List Str} {mean : ExcName → Option Value} {mg mb : Str → Option Value} {G : Heap} {L a c : Addr} {m : Str → Option Value} {rest : List (Addr × Obj)}
  {s : Shared} {Q : Flow → Shared → Prop} {hs ts nm ky : List UInt8} {t1 t2 t3 tn tk u1 u2 u3 : Tok} {n : Nat} {x dx : Addr} {wide : Bool}
set_option maxHeartbeats 2000000 in
theorem law_packet (X : (hd.heap_39 w.params).In G) (T : Top p loose mean mg mb G) (B : Below callerA G [] G) (F : Fr G L s.heap m) (N : News G L s.heap ((x, instObj 114 dx) :: (dx, dictOf (hpDict w.params t1 t2 t3 tn tk nm ky (handAt wide)) n) :: rest))
    (h1 : m (Str.ofString "hp") = some (.ref x)) (h2 : m (Str.ofString "header") = some (.bytes hs.toArray u1)) (h3 : m (Str.ofString "text") = some (.bytes ts.toArray u2))
    (hx : nm.length ≤ 100) (hy : ky.length ≤ 100) (hh0 : pnN (hs.getD 0 0) < hs.length) (hh : hs.length ≤ 100) (ht : ts.length ≤ 100)
    (ret : ∀ r t h' tk', r = applyL (maskV wide nm ky ((ts.drop (4 - pnN (hs.getD 0 0))).take 16)) (hs ++ ts) (hs.length - pnN (hs.getD 0 0)) (pnN (hs.getD 0 0)) → Fr G L h' (fun y => if y = Str.ofString "packet" then some (.bytes r.toArray t) else m y) →
      News G L h' ((x, instObj 114 dx) :: (dx, dictOf (hpDict w.params t1 t2 t3 tn tk nm ky (handAt wide)) n) :: rest) → Q .next { s with heap := h', toks := tk' }) :
    wpP (model prog w) (callerA.deeper (envL L)) (exec st_189_5_9 (envL L)) Q NoE s := by
  conv in st_189_5_9 => whnf
  refine assign_P (callMeth_P ?_)
  k_steps
  refine callWith_KP X (by k_is) ?_
  k_steps
  (rename Fr _ _ _ _ => F1)
  (rename News _ _ _ _ => N1)
  (try dsimp only [List.cons_append, List.nil_append])
  refine apply_spec (un := _) (wide := wide) B F1 X (news_two N1 (.head _) (.tail _ (.head _))) T rfl (by first | decide | ((try simp only [depth_mark, depth_under_make, depth_under_kw, depth_in1, depth_deeper, depth_caller]); (first | lia | omega))) hx hy hh0 hh ht ?_
  intro r t h' tk' hr K
  refine kept_step0 K F1 N1 fun F2 N2 => ?_
  k_steps
  (rename Fr _ _ _ _ => F3)
  (rename News _ _ _ _ => N3)
  exact ret r _ _ _ hr F3 N3
end
end

theorem lines_C24 : True := by
  w_top off
  k_with_none
  (k_with "sz" => (first | (first | lia | omega) | (simp only [List.length_append, List.length_cons, List.length_nil, List.length_take, List.length_drop, List.length_map, List.length_set, List.length_replicate, toB_length, cutB_length]; (first | lia | omega))))
  (k_with "dp" => ((try simp only [depth_mark, depth_under_make, depth_under_kw, depth_in1, depth_deeper, depth_caller]); (try dsimp only [ktrTop]); (first | lia | omega)))
  (k_with "k_room" => ((try simp only [depth_mark, depth_under_make, depth_under_kw, depth_in1, depth_deeper, depth_caller]); simp only [recursionLimit]; (first | lia | omega)))
  (k_with "cell_enter" => (refine' enterF ?k1 ?k2 ?k3 ?k4 ?k5 ?kA ?kF ?kK ?k6 ?k7 ?k8 ?k9 ?kB ?_ ?c2 ?c3 ?c4 ?c5; (case kA => exact rfl); (case kF => exact rfl); (case kK => assumption); (case k1 => k_asm); (case k2 => k_asm); (case k3 => k_asm); (case k4 => k_asm); (case k5 => k_asm); (case k6 => k_is); (case k7 => k_is); (case k8 => ktr_room); (case k9 => exact BindsTo.of_eq rfl); (case c5 => decide); (case kB => exact locs rfl); (case c2 => exact rfl); (case c3 => exact rfl); (case c4 => exact rfl); k_whole; intro g' L' h' HG' F' N' B' X' T'; (try dsimp only)))
  (k_with "cell_enterP" => (refine' enterP ?k1 ?k2 ?k3 ?k4 ?k5 ?kA ?kF ?kK ?k6 ?k7 ?k8 ?k9 ?kB ?_ ?c2 ?c3 ?c4 ?c5; (case kA => exact rfl); (case kF => exact rfl); (case kK => assumption); (case k1 => k_asm); (case k2 => k_asm); (case k3 => k_asm); (case k4 => k_asm); (case k5 => k_asm); (case k6 => k_is); (case k7 => k_is); (case k8 => ktr_room); (case k9 => exact BindsTo.of_eq rfl); (case c5 => decide); (case kB => exact locs rfl); (case c2 => exact rfl); (case c3 => exact rfl); (case c4 => exact rfl); k_whole; intro g' L' h' HG' F' N' B' X' T'; (try dsimp only)))
  (k_with "binaryOp Add bytes bytes" => (k_here; (with_reducible show wpAny _ _ (binaryOp Operator.Add (Value.bytes (List.toArray _) _) (Value.bytes (List.toArray _) _)) _ _ _); k_dflt (refine' br_add ?z1 ?z2 ?_; (case z1 => walk_at "sz"); (case z2 => walk_at "sz"); k_whole); intro _ _))
  (k_with "call builtin:len" => (k_here; (with_reducible show wpAny _ _ (call (Value.builtin "len") [Value.bytes (List.toArray _) _]) _ _ _); k_dflt (refine' br_len ?z1 ?_; (case z1 => walk_at "sz"); k_whole); intro _ _))
  (k_with "subscriptTail" => (k_here; (with_reducible show wpAny _ _ (subscriptTail _ _ (Value.bytes (List.toArray _) _) (Value.int _ _)) _ _ _); k_dflt (refine' br_item ?z1 ?z2 ?z3 ?_; (case z1 => walk_at "sz"); (case z2 => walk_at "sz"); (case z3 => walk_at "sz"); k_whole); intro _ _))
  (k_with "subscriptTail" => (k_here; (with_reducible show wpAny _ _ (subscriptTail _ (Expr.Slice (some _) (some _) none _) (Value.bytes (List.toArray _) _) (Value.ref _)) _ _ _); (with_reducible rename Fr _ _ _ _ => F'); (with_reducible rename News _ _ _ _ => N'); k_dflt (refine' br_cut (s := ⟨_, _, _, _, _⟩) F' N' ?z1 ?z2 ?z3 ?_; (case z1 => walk_at "sz"); (case z2 => walk_at "sz"); (case z3 => walk_at "sz"); k_whole); intro h' _ _ F' N'; (try k_sweep)))
  (k_with "subscriptTail" => (k_here; (with_reducible show wpAny _ _ (subscriptTail _ (Expr.Slice (some _) none none _) (Value.bytes (List.toArray _) _) (Value.ref _)) _ _ _); (with_reducible rename Fr _ _ _ _ => F'); (with_reducible rename News _ _ _ _ => N'); k_dflt (refine' br_cutFrom (s := ⟨_, _, _, _, _⟩) F' N' ?z1 ?z2 ?_; (case z1 => walk_at "sz"); (case z2 => walk_at "sz"); k_whole); intro h' _ _ F' N'; (try k_sweep)))
  (k_with "subscriptTail" => (k_here; (with_reducible show wpAny _ _ (subscriptTail _ (Expr.Slice none (some _) none _) (Value.bytes (List.toArray _) _) (Value.ref _)) _ _ _); (with_reducible rename Fr _ _ _ _ => F'); (with_reducible rename News _ _ _ _ => N'); k_dflt (refine' br_cutTo (s := ⟨_, _, _, _, _⟩) F' N' ?z1 ?z2 ?_; (case z1 => walk_at "sz"); (case z2 => walk_at "sz"); k_whole); intro h' _ _ F' N'; (try k_sweep)))
  (k_with "subscriptTail" => (k_here; (with_reducible show wpAny _ _ (subscriptTail _ _ (Value.ref _) (Value.int _ _)) _ _ _); k_dflt (refine' bo_tail ?g ?z1 ?z2 ?z3 ?_; (case g => exact News.get (by k_asm) (by k_mem)); (case z1 => walk_at "sz"); (case z2 => walk_at "sz"); (case z3 => walk_at "sz"); k_whole); intro _ _))
  (k_with "subscriptTail" => (k_here; (with_reducible show wpAny _ _ (subscriptTail _ (Expr.Slice none (some _) none _) (Value.ref _) (Value.ref _)) _ _ _); (with_reducible rename Fr _ _ _ _ => F'); (with_reducible rename News _ _ _ _ => N'); k_dflt (refine' bo_cutTo (s := ⟨_, _, _, _, _⟩) F' N' ?m ?z1 ?z2 ?_; (case m => k_mem); (case z1 => walk_at "sz"); (case z2 => walk_at "sz"); k_whole); intro h' x' F' N' l1; (try k_lt l1); (try k_sweep)))
  (k_with "getItem ref int" => (k_here; k_dflt (refine' bo_getItem ?g ?z1 ?z2 ?z3 ?_; (case g => exact News.get (by k_asm) (by k_mem)); (case z1 => walk_at "sz"); (case z2 => walk_at "sz"); (case z3 => walk_at "sz"); k_whole); intro _ _))
  (k_with "setItem ref int" => (k_here; (with_reducible show wpAny _ _ (setItem (Value.ref _) (Value.int _ _) (Value.int _ _)) _ _ _); k_dflt (refine' bo_setItemK ?F ?N ?U ?z1 ?z2 ?z3 ?z4 ?z5 ?_; (case F => k_asm); (case N => k_asm); (case U => k_upd); (case z1 => walk_at "sz"); (case z2 => walk_at "sz"); (case z3 => walk_at "sz"); (case z4 => first | (with_reducible exact bx150 _ _) | (with_reducible exact bx310 _ _) | (with_reducible exact bxu0 _ _) | walk_at "sz"); (case z5 => first | (with_reducible exact bx151 _ _) | (with_reducible exact bx311 _ _) | (with_reducible exact bxu1 _ _) | walk_at "sz"); k_whole); intro h' F' N'; (try k_sweep)))
  (k_with "compareOp Eq bytes bytes" => (k_here; (with_reducible show wpAny _ _ (compareOp CmpOp.Eq (Value.bytes (List.toArray _) _) (Value.bytes (List.toArray _) _)) _ _ _); k_dflt (refine br_eq ?_)))
  (k_with "compareOp NotEq bytes bytes" => (k_here; (with_reducible show wpAny _ _ (compareOp CmpOp.NotEq (Value.bytes (List.toArray _) _) (Value.bytes (List.toArray _) _)) _ _ _); k_dflt (refine br_ne ?_)))
  (k_with "call builtin:int.to_bytes" => (k_here; (with_reducible show wpAny _ _ (call (Value.builtin "int.to_bytes") [Value.int _ _, Value.int _ _, Value.str _ _]) _ _ _); k_dflt (refine' br_to ?z1 ?z2 ?z3 ?z4 ?_; (case z1 => walk_at "sz"); (case z2 => walk_at "sz"); (case z3 => first | assumption | walk_at "sz" | exact Int.fmod_nonneg_of_pos _ (by decide)); (case z4 => first | assumption | walk_at "sz" | exact Int.lt_of_lt_of_le (Int.fmod_lt_of_pos _ (by decide)) (by decide)); k_whole); intro _ _))
  (k_with "call ref" => (k_here; (with_reducible show wpAny _ _ (call (Value.ref _) [Value.bytes (List.toArray _) _, Value.str _ _]) _ _ _); kfb_any; k_dflt (refine br_from (by k_asm) (by k_mem) ?z1 ?_; (case z1 => walk_at "sz")); intro _ _))
  (k_with "call type:bytes" => (k_here; (with_reducible show wpAny _ _ (call (Value.type "bytes") [Value.ref _]) _ _ _); k_dflt (refine' bo_bytes ?g ?z1 ?_; (case g => exact News.get (by k_asm) (by k_mem)); (case z1 => walk_at "sz"); k_whole); intro _ _))
  (k_with "pyIter bytes" => (k_here; (with_reducible show wpAny _ _ (pyIter (Value.bytes (List.toArray _) _)) (CompPost _ _ _ _ _ _ _ _ _) _ _); k_dflt (refine' comp_row ?hh ?F ?N ?hk ?hl ?hd ?hz ?_; (case hh => exact rfl); (case F => k_asm); (case N => k_asm); (case hk => exact rfl); (case hl => intro _; exact rfl); (case hd => decide); (case hz => walk_at "sz"); k_whole); intro D' ys' h' tk' F' N' lI' iI'; (try k_sweep)))
  (k_with "call type:bytes" => (k_here; (with_reducible show wpAny _ _ (call (Value.type "bytes") [Value.ref _]) _ _ _); (with_reducible rename IntsAre _ (rowOf _) => rI); k_dflt (refine' row_bytes ?F ?N ?hh ?hl rI ?hz ?_; (case F => k_asm); (case N => k_asm); (case hh => exact rfl); (case hl => assumption); (case hz => walk_at "sz"); k_whole); intro h' _ _ F' N'; (try k_sweep)))
  (k_with "eval Name" => (k_here; (with_reducible show wpAny _ _ (eval (Expr.Name _ _) _) _ _ _); k_dflt (refine' PyProof.Rows.ld ?k1 ?k2 ?_; (case k1 => k_asm); (case k2 => assumption); k_whole)))
  first | walk1 | trivial
section
theorem units_law {L : Addr} : (callerA.deeper (envL L)).units < cLine := by
  first | decide | (show 5 < cLine; decide) | (show 6 < cLine; decide) | (show 7 < cLine; decide) | (show 8 < cLine; decide)
theorem ne_two {prog : Program} {w : World} {A : Around} {E : Value → Shared → Prop} {s : Shared} {G : Heap} {L a b : Addr} {news : List (Addr × Obj)} {xs ys : List UInt8} {i j : Int} {t1 t2 t3 t4 : Tok} {Q : Value → Shared → Prop} (N : News G L s.heap news)
    (ha : (a, tupN [.bytes xs.toArray t1, .int i t2]) ∈ news) (hb : (b, tupN [.bytes ys.toArray t3, .int j t4]) ∈ news) (hu : A.units < cLine) (q : Q (.bool (!decide ((xs, i) = (ys, j)))) s) : wpAny (model prog w) A (compareOp .NotEq (.ref a) (.ref b)) Q E s :=
  ne_pair (p := (xs, i)) (p' := (ys, j)) ⟨a, t1, t2, rfl, ⟨_, N.get ha, rfl, _, rfl⟩⟩ ⟨b, t3, t4, rfl, ⟨_, N.get hb, rfl, _, rfl⟩⟩ hu q
theorem lines_C24_1 : True := by
  (k_with "compareOp NotEq ref ref" => (k_here; (with_reducible show wpAny _ _ (compareOp CmpOp.NotEq (Value.ref _) (Value.ref _)) _ _ _); k_dflt (refine' ne_two ?N ?a ?b ?u ?_; (case N => k_asm); (case a => k_mem); (case b => k_mem); (case u => exact units_law); k_whole)))
  trivial
section
variable {prog p : Program} {w : World} {loose : List Str} {mean : ExcName → Option Value} {mg mb : Str → Option Value} {G : Heap} {L a c : Addr} {m : Str → Option Value} {rest : List (Addr × Obj)}
  {s : Shared} {Q : Flow → Shared → Prop} {pk hs nm ky : List UInt8} {t1 t2 t3 tn tk u1 u2 u3 u4 : Tok} {n pl : Nat} {x dx : Addr} {wide : Bool}
set_option maxHeartbeats 2000000 in
theorem law_if (X : (hd.heap_39 w.params).In G) (T : Top p loose mean mg mb G) (B : Below callerA G [] G) (F : Fr G L s.heap m) (N : News G L s.heap ((x, instObj 114 dx) :: (dx, dictOf (hpDict w.params t1 t2 t3 tn tk nm ky (handAt wide)) n) :: rest))
    (h1 : m (Str.ofString "packet") = some (.bytes pk.toArray u1)) (h2 : m (Str.ofString "due") = some (.bytes pk.toArray u2)) (h3 : m (Str.ofString "hp") = some (.ref x)) (h4 : m (Str.ofString "place") = some (.int (pl : Int) u3)) (h5 : m (Str.ofString "header") = some (.bytes hs.toArray u4))
    (hx : nm.length ≤ 100) (hy : ky.length ≤ 100) (hl : pk.length ≤ 200) (hp0 : 1 ≤ pl) (hp1 : pl + 20 ≤ pk.length) (hh : hs.length ≤ 100)
    (back : ∀ M c k, M = maskV wide nm ky ((pk.drop (pl + 4)).take 16) → c = headL M pk → k = pnN (c.getD 0 0) → (turnN M pl k c).take (pl + k) = hs ∧ truncN M pl c k = ((valB (hs.drop pl) : Nat) : Int))
    (ret : ∀ h' tk', Fr G L h' m → News G L h' ((x, instObj 114 dx) :: (dx, dictOf (hpDict w.params t1 t2 t3 tn tk nm ky (handAt wide)) n) :: rest) → Q .next { s with heap := h', toks := tk' }) :
    wpP (model prog w) (callerA.deeper (envL L)) (exec st_189_5_10 (envL L)) Q NoE s := by
  conv in st_189_5_10 => whnf
  refine if_P (or_P ?_)
  k_steps
  · first | exact absurd rfl ‹pk ≠ pk› | exact absurd (show decide (pk ≠ pk) = true by assumption) (by decide) | (rename_i hh9; exact absurd hh9 (by simp))
  refine cmp_P (callMeth_P ?_)
  k_steps
  refine callWith_KP X (by k_is) ?_
  k_steps
  (rename Fr _ _ _ _ => F1)
  (rename News _ _ _ _ => N1)
  (try dsimp only [List.cons_append, List.nil_append])
  refine remove_spec (un := _) (wide := wide) B F1 X (news_two N1 (.head _) (.tail _ (.head _))) T rfl (by first | decide | ((try simp only [depth_mark, depth_under_make, depth_under_kw, depth_in1, depth_deeper, depth_caller]); (first | lia | omega))) hx hy hl (by (first | lia | omega)) (by (first | lia | omega)) ?_
  intro M cc kk r v t t' D h' tk' hM hc hk hr hv K ND
  refine kept_step0 K F1 N1 fun F2 N2 => ?_
  have N3 := News.app ND N2
  have eM : cutB pk ((pl : Int) + 4) ((pl : Int) + 4 + 16) = (pk.drop (pl + 4)).take 16 := by
    unfold cutB
    rw [show ((pl : Int) + 4 + 16).toNat - ((pl : Int) + 4).toNat = 16 by (first | lia | omega), show ((pl : Int) + 4).toNat = pl + 4 by (first | lia | omega)]
  rw [eM] at hM
  have bk := back M cc kk hM hc hk
  rw [Int.toNat_natCast] at hr hv N3
  rw [← hr, ← hv] at bk
  rw [bk.1, bk.2] at N3
  simp only [List.cons_append, List.nil_append] at N3
  k_steps
  · (rename Fr _ _ _ _ => F9)
    (rename News _ _ _ _ => N9)
    exact wpP_of (wpAny_execs_nil (ret _ _ F9 fun q hq => N9 q (by repeat (first | exact hq | refine List.mem_cons_of_mem _ ?_))))
  · rename_i hh9
    exfalso
    simp at hh9
end
end

theorem lines_C25 : True := by
  w_top off
  k_with_none
  (k_with "sz" => (first | (first | lia | omega) | (simp only [List.length_append, List.length_cons, List.length_nil, List.length_take, List.length_drop, List.length_map, List.length_set, List.length_replicate, toB_length, cutB_length]; (first | lia | omega))))
  (k_with "dp" => ((try simp only [depth_mark, depth_under_make, depth_under_kw, depth_in1, depth_deeper, depth_caller]); (try dsimp only [ktrTop]); (first | lia | omega)))
  (k_with "k_room" => ((try simp only [depth_mark, depth_under_make, depth_under_kw, depth_in1, depth_deeper, depth_caller]); simp only [recursionLimit]; (first | lia | omega)))
  (k_with "cell_enter" => (refine' enterF ?k1 ?k2 ?k3 ?k4 ?k5 ?kA ?kF ?kK ?k6 ?k7 ?k8 ?k9 ?kB ?_ ?c2 ?c3 ?c4 ?c5; (case kA => exact rfl); (case kF => exact rfl); (case kK => assumption); (case k1 => k_asm); (case k2 => k_asm); (case k3 => k_asm); (case k4 => k_asm); (case k5 => k_asm); (case k6 => k_is); (case k7 => k_is); (case k8 => ktr_room); (case k9 => exact BindsTo.of_eq rfl); (case c5 => decide); (case kB => exact locs rfl); (case c2 => exact rfl); (case c3 => exact rfl); (case c4 => exact rfl); k_whole; intro g' L' h' HG' F' N' B' X' T'; (try dsimp only)))
  (k_with "cell_enterP" => (refine' enterP ?k1 ?k2 ?k3 ?k4 ?k5 ?kA ?kF ?kK ?k6 ?k7 ?k8 ?k9 ?kB ?_ ?c2 ?c3 ?c4 ?c5; (case kA => exact rfl); (case kF => exact rfl); (case kK => assumption); (case k1 => k_asm); (case k2 => k_asm); (case k3 => k_asm); (case k4 => k_asm); (case k5 => k_asm); (case k6 => k_is); (case k7 => k_is); (case k8 => ktr_room); (case k9 => exact BindsTo.of_eq rfl); (case c5 => decide); (case kB => exact locs rfl); (case c2 => exact rfl); (case c3 => exact rfl); (case c4 => exact rfl); k_whole; intro g' L' h' HG' F' N' B' X' T'; (try dsimp only)))
  (k_with "binaryOp Add bytes bytes" => (k_here; (with_reducible show wpAny _ _ (binaryOp Operator.Add (Value.bytes (List.toArray _) _) (Value.bytes (List.toArray _) _)) _ _ _); k_dflt (refine' br_add ?z1 ?z2 ?_; (case z1 => walk_at "sz"); (case z2 => walk_at "sz"); k_whole); intro _ _))
  (k_with "call builtin:len" => (k_here; (with_reducible show wpAny _ _ (call (Value.builtin "len") [Value.bytes (List.toArray _) _]) _ _ _); k_dflt (refine' br_len ?z1 ?_; (case z1 => walk_at "sz"); k_whole); intro _ _))
  (k_with "subscriptTail" => (k_here; (with_reducible show wpAny _ _ (subscriptTail _ _ (Value.bytes (List.toArray _) _) (Value.int _ _)) _ _ _); k_dflt (refine' br_item ?z1 ?z2 ?z3 ?_; (case z1 => walk_at "sz"); (case z2 => walk_at "sz"); (case z3 => walk_at "sz"); k_whole); intro _ _))
  (k_with "subscriptTail" => (k_here; (with_reducible show wpAny _ _ (subscriptTail _ (Expr.Slice (some _) (some _) none _) (Value.bytes (List.toArray _) _) (Value.ref _)) _ _ _); (with_reducible rename Fr _ _ _ _ => F'); (with_reducible rename News _ _ _ _ => N'); k_dflt (refine' br_cut (s := ⟨_, _, _, _, _⟩) F' N' ?z1 ?z2 ?z3 ?_; (case z1 => walk_at "sz"); (case z2 => walk_at "sz"); (case z3 => walk_at "sz"); k_whole); intro h' _ _ F' N'; (try k_sweep)))
  (k_with "subscriptTail" => (k_here; (with_reducible show wpAny _ _ (subscriptTail _ (Expr.Slice (some _) none none _) (Value.bytes (List.toArray _) _) (Value.ref _)) _ _ _); (with_reducible rename Fr _ _ _ _ => F'); (with_reducible rename News _ _ _ _ => N'); k_dflt (refine' br_cutFrom (s := ⟨_, _, _, _, _⟩) F' N' ?z1 ?z2 ?_; (case z1 => walk_at "sz"); (case z2 => walk_at "sz"); k_whole); intro h' _ _ F' N'; (try k_sweep)))
  (k_with "subscriptTail" => (k_here; (with_reducible show wpAny _ _ (subscriptTail _ (Expr.Slice none (some _) none _) (Value.bytes (List.toArray _) _) (Value.ref _)) _ _ _); (with_reducible rename Fr _ _ _ _ => F'); (with_reducible rename News _ _ _ _ => N'); k_dflt (refine' br_cutTo (s := ⟨_, _, _, _, _⟩) F' N' ?z1 ?z2 ?_; (case z1 => walk_at "sz"); (case z2 => walk_at "sz"); k_whole); intro h' _ _ F' N'; (try k_sweep)))
  (k_with "subscriptTail" => (k_here; (with_reducible show wpAny _ _ (subscriptTail _ _ (Value.ref _) (Value.int _ _)) _ _ _); k_dflt (refine' bo_tail ?g ?z1 ?z2 ?z3 ?_; (case g => exact News.get (by k_asm) (by k_mem)); (case z1 => walk_at "sz"); (case z2 => walk_at "sz"); (case z3 => walk_at "sz"); k_whole); intro _ _))
  (k_with "subscriptTail" => (k_here; (with_reducible show wpAny _ _ (subscriptTail _ (Expr.Slice none (some _) none _) (Value.ref _) (Value.ref _)) _ _ _); (with_reducible rename Fr _ _ _ _ => F'); (with_reducible rename News _ _ _ _ => N'); k_dflt (refine' bo_cutTo (s := ⟨_, _, _, _, _⟩) F' N' ?m ?z1 ?z2 ?_; (case m => k_mem); (case z1 => walk_at "sz"); (case z2 => walk_at "sz"); k_whole); intro h' x' F' N' l1; (try k_lt l1); (try k_sweep)))
  (k_with "getItem ref int" => (k_here; k_dflt (refine' bo_getItem ?g ?z1 ?z2 ?z3 ?_; (case g => exact News.get (by k_asm) (by k_mem)); (case z1 => walk_at "sz"); (case z2 => walk_at "sz"); (case z3 => walk_at "sz"); k_whole); intro _ _))
  (k_with "setItem ref int" => (k_here; (with_reducible show wpAny _ _ (setItem (Value.ref _) (Value.int _ _) (Value.int _ _)) _ _ _); k_dflt (refine' bo_setItemK ?F ?N ?U ?z1 ?z2 ?z3 ?z4 ?z5 ?_; (case F => k_asm); (case N => k_asm); (case U => k_upd); (case z1 => walk_at "sz"); (case z2 => walk_at "sz"); (case z3 => walk_at "sz"); (case z4 => first | (with_reducible exact bx150 _ _) | (with_reducible exact bx310 _ _) | (with_reducible exact bxu0 _ _) | walk_at "sz"); (case z5 => first | (with_reducible exact bx151 _ _) | (with_reducible exact bx311 _ _) | (with_reducible exact bxu1 _ _) | walk_at "sz"); k_whole); intro h' F' N'; (try k_sweep)))
  (k_with "compareOp Eq bytes bytes" => (k_here; (with_reducible show wpAny _ _ (compareOp CmpOp.Eq (Value.bytes (List.toArray _) _) (Value.bytes (List.toArray _) _)) _ _ _); k_dflt (refine br_eq ?_)))
  (k_with "compareOp NotEq bytes bytes" => (k_here; (with_reducible show wpAny _ _ (compareOp CmpOp.NotEq (Value.bytes (List.toArray _) _) (Value.bytes (List.toArray _) _)) _ _ _); k_dflt (refine br_ne ?_)))
  (k_with "call builtin:int.to_bytes" => (k_here; (with_reducible show wpAny _ _ (call (Value.builtin "int.to_bytes") [Value.int _ _, Value.int _ _, Value.str _ _]) _ _ _); k_dflt (refine' br_to ?z1 ?z2 ?z3 ?z4 ?_; (case z1 => walk_at "sz"); (case z2 => walk_at "sz"); (case z3 => first | assumption | walk_at "sz" | exact Int.fmod_nonneg_of_pos _ (by decide)); (case z4 => first | assumption | walk_at "sz" | exact Int.lt_of_lt_of_le (Int.fmod_lt_of_pos _ (by decide)) (by decide)); k_whole); intro _ _))
  (k_with "call ref" => (k_here; (with_reducible show wpAny _ _ (call (Value.ref _) [Value.bytes (List.toArray _) _, Value.str _ _]) _ _ _); kfb_any; k_dflt (refine br_from (by k_asm) (by k_mem) ?z1 ?_; (case z1 => walk_at "sz")); intro _ _))
  (k_with "call type:bytes" => (k_here; (with_reducible show wpAny _ _ (call (Value.type "bytes") [Value.ref _]) _ _ _); k_dflt (refine' bo_bytes ?g ?z1 ?_; (case g => exact News.get (by k_asm) (by k_mem)); (case z1 => walk_at "sz"); k_whole); intro _ _))
  (k_with "pyIter bytes" => (k_here; (with_reducible show wpAny _ _ (pyIter (Value.bytes (List.toArray _) _)) (CompPost _ _ _ _ _ _ _ _ _) _ _); k_dflt (refine' comp_row ?hh ?F ?N ?hk ?hl ?hd ?hz ?_; (case hh => exact rfl); (case F => k_asm); (case N => k_asm); (case hk => exact rfl); (case hl => intro _; exact rfl); (case hd => decide); (case hz => walk_at "sz"); k_whole); intro D' ys' h' tk' F' N' lI' iI'; (try k_sweep)))
  (k_with "call type:bytes" => (k_here; (with_reducible show wpAny _ _ (call (Value.type "bytes") [Value.ref _]) _ _ _); (with_reducible rename IntsAre _ (rowOf _) => rI); k_dflt (refine' row_bytes ?F ?N ?hh ?hl rI ?hz ?_; (case F => k_asm); (case N => k_asm); (case hh => exact rfl); (case hl => assumption); (case hz => walk_at "sz"); k_whole); intro h' _ _ F' N'; (try k_sweep)))
  (k_with "call ref" => (k_here; (with_reducible show wpAny _ _ (call (Value.ref 125) [Value.ref _, Value.int _ _]) _ _ _); k_dflt (refine' take_spec ?B ?F ?X ?N ?T ?kd ?dp ?hc ?ne ?hi ?l0 ?l1 ?k0 ?k1 ?most ?_; (case F => k_asm); (case B => k_asm); (case X => k_asm); (case T => k_asm); (case N => exact news_one (by k_asm) (by k_mem)); (case kd => first | exact rfl | assumption); (case dp => walk_at "dp"); (case hc => is_list); (case ne => first | assumption | (first | lia | omega)); (case hi => l_ints); (case l0 => (first | lia | omega)); (case l1 => (first | lia | omega)); (case k0 => (first | lia | omega)); (case k1 => (first | lia | omega)); (case most => first | (first | lia | omega) | decide | exact Int.pow_pos (by decide)); k_whole); intro _ _ _ _ _ _ _ tkK tkG; k_dflt (refine' kept_step tkK tkG ?F ?N ?U ?_; (case F => k_asm); (case N => k_asm); (case U => k_upd)); clear tkK tkG; intro F' N'; (try k_sweep)))
  (k_with "eval Name" => (k_here; (with_reducible show wpAny _ _ (eval (Expr.Name _ _) _) _ _ _); k_dflt (refine' PyProof.Rows.ld ?k1 ?k2 ?_; (case k1 => k_asm); (case k2 => assumption); k_whole)))
  first | walk1 | trivial
section
section
variable {prog p : Program} {w : World} {loose : List Str} {mean : ExcName → Option Value} {mg mb : Str → Option Value} {G : Heap} {L a c : Addr} {m : Str → Option Value} {rest : List (Addr × Obj)}
  {s : Shared} {Q : Flow → Shared → Prop} {k : Int} {tk : Tok} {n n' : Nat} {vs : List Value} {ns : List Int} {pk : List UInt8} {t1 t2 : Tok} {ot : Int}
set_option maxHeartbeats 2000000 in
theorem law_other (X : (hd.heap_39 w.params).In G) (T : Top p loose mean mg mb G) (B : Below callerA G [] G) (F : Fr G L s.heap m) (hs : m (Str.ofString "state") = some (.ref a))
    (N : News G L s.heap ((a, PySem.W.listOf [.int k tk, .ref c].toArray n) :: (c, PySem.W.listOf vs.toArray n') :: rest)) (hr : ∀ q ∈ rest, q.1 ≠ a) (hca : c ≠ a) (hi : IntsAre vs ns) (hl0 : 0 < vs.length) (hl1 : vs.length ≤ 63) (hk0 : 0 ≤ k) (hk1 : k < 900)
    (hp : m (Str.ofString "packet") = some (.bytes pk.toArray t1)) (hz : pk.length ≤ 200)
    (ret : ∀ (o : Int) t t' h' tk', 1 ≤ o → o ≤ pk.length + 3 → Fr G L h' (fun y => if y = Str.ofString "other" then some (.int o t) else m y) →
      News G L h' ((a, PySem.W.listOf [.int (k + 1) t', .ref c].toArray n) :: (c, PySem.W.listOf vs.toArray n') :: rest) → Q .next { s with heap := h', toks := tk' }) :
    wpAny (model prog w) (callerA.deeper (envL L)) (exec st_189_5_11 (envL L)) Q NoE s := by
  conv in st_189_5_11 => whnf
  have hlen : ns.length = vs.length := hi.length.symm
  k_steps
  (rename Fr _ _ _ _ => F1)
  (rename News _ _ _ _ => N1)
  exact ret _ _ _ _ _ (by (first | lia | omega)) (by (first | lia | omega)) F1 N1
end
end

theorem lines_C26 : True := by
  w_top off
  k_with_none
  (k_with "sz" => (first | (first | lia | omega) | (simp only [List.length_append, List.length_cons, List.length_nil, List.length_take, List.length_drop, List.length_map, List.length_set, List.length_replicate, toB_length, cutB_length]; (first | lia | omega))))
  (k_with "dp" => ((try simp only [depth_mark, depth_under_make, depth_under_kw, depth_in1, depth_deeper, depth_caller]); (try dsimp only [ktrTop]); (first | lia | omega)))
  (k_with "k_room" => ((try simp only [depth_mark, depth_under_make, depth_under_kw, depth_in1, depth_deeper, depth_caller]); simp only [recursionLimit]; (first | lia | omega)))
  (k_with "cell_enter" => (refine' enterF ?k1 ?k2 ?k3 ?k4 ?k5 ?kA ?kF ?kK ?k6 ?k7 ?k8 ?k9 ?kB ?_ ?c2 ?c3 ?c4 ?c5; (case kA => exact rfl); (case kF => exact rfl); (case kK => assumption); (case k1 => k_asm); (case k2 => k_asm); (case k3 => k_asm); (case k4 => k_asm); (case k5 => k_asm); (case k6 => k_is); (case k7 => k_is); (case k8 => ktr_room); (case k9 => exact BindsTo.of_eq rfl); (case c5 => decide); (case kB => exact locs rfl); (case c2 => exact rfl); (case c3 => exact rfl); (case c4 => exact rfl); k_whole; intro g' L' h' HG' F' N' B' X' T'; (try dsimp only)))
  (k_with "cell_enterP" => (refine' enterP ?k1 ?k2 ?k3 ?k4 ?k5 ?kA ?kF ?kK ?k6 ?k7 ?k8 ?k9 ?kB ?_ ?c2 ?c3 ?c4 ?c5; (case kA => exact rfl); (case kF => exact rfl); (case kK => assumption); (case k1 => k_asm); (case k2 => k_asm); (case k3 => k_asm); (case k4 => k_asm); (case k5 => k_asm); (case k6 => k_is); (case k7 => k_is); (case k8 => ktr_room); (case k9 => exact BindsTo.of_eq rfl); (case c5 => decide); (case kB => exact locs rfl); (case c2 => exact rfl); (case c3 => exact rfl); (case c4 => exact rfl); k_whole; intro g' L' h' HG' F' N' B' X' T'; (try dsimp only)))
  (k_with "binaryOp Add bytes bytes" => (k_here; (with_reducible show wpAny _ _ (binaryOp Operator.Add (Value.bytes (List.toArray _) _) (Value.bytes (List.toArray _) _)) _ _ _); k_dflt (refine' br_add ?z1 ?z2 ?_; (case z1 => walk_at "sz"); (case z2 => walk_at "sz"); k_whole); intro _ _))
  (k_with "call builtin:len" => (k_here; (with_reducible show wpAny _ _ (call (Value.builtin "len") [Value.bytes (List.toArray _) _]) _ _ _); k_dflt (refine' br_len ?z1 ?_; (case z1 => walk_at "sz"); k_whole); intro _ _))
  (k_with "subscriptTail" => (k_here; (with_reducible show wpAny _ _ (subscriptTail _ _ (Value.bytes (List.toArray _) _) (Value.int _ _)) _ _ _); k_dflt (refine' br_item ?z1 ?z2 ?z3 ?_; (case z1 => walk_at "sz"); (case z2 => walk_at "sz"); (case z3 => walk_at "sz"); k_whole); intro _ _))
  (k_with "subscriptTail" => (k_here; (with_reducible show wpAny _ _ (subscriptTail _ (Expr.Slice (some _) (some _) none _) (Value.bytes (List.toArray _) _) (Value.ref _)) _ _ _); (with_reducible rename Fr _ _ _ _ => F'); (with_reducible rename News _ _ _ _ => N'); k_dflt (refine' br_cut (s := ⟨_, _, _, _, _⟩) F' N' ?z1 ?z2 ?z3 ?_; (case z1 => walk_at "sz"); (case z2 => walk_at "sz"); (case z3 => walk_at "sz"); k_whole); intro h' _ _ F' N'; (try k_sweep)))
  (k_with "subscriptTail" => (k_here; (with_reducible show wpAny _ _ (subscriptTail _ (Expr.Slice (some _) none none _) (Value.bytes (List.toArray _) _) (Value.ref _)) _ _ _); (with_reducible rename Fr _ _ _ _ => F'); (with_reducible rename News _ _ _ _ => N'); k_dflt (refine' br_cutFrom (s := ⟨_, _, _, _, _⟩) F' N' ?z1 ?z2 ?_; (case z1 => walk_at "sz"); (case z2 => walk_at "sz"); k_whole); intro h' _ _ F' N'; (try k_sweep)))
  (k_with "subscriptTail" => (k_here; (with_reducible show wpAny _ _ (subscriptTail _ (Expr.Slice none (some _) none _) (Value.bytes (List.toArray _) _) (Value.ref _)) _ _ _); (with_reducible rename Fr _ _ _ _ => F'); (with_reducible rename News _ _ _ _ => N'); k_dflt (refine' br_cutTo (s := ⟨_, _, _, _, _⟩) F' N' ?z1 ?z2 ?_; (case z1 => walk_at "sz"); (case z2 => walk_at "sz"); k_whole); intro h' _ _ F' N'; (try k_sweep)))
  (k_with "subscriptTail" => (k_here; (with_reducible show wpAny _ _ (subscriptTail _ _ (Value.ref _) (Value.int _ _)) _ _ _); k_dflt (refine' bo_tail ?g ?z1 ?z2 ?z3 ?_; (case g => exact News.get (by k_asm) (by k_mem)); (case z1 => walk_at "sz"); (case z2 => walk_at "sz"); (case z3 => walk_at "sz"); k_whole); intro _ _))
  (k_with "subscriptTail" => (k_here; (with_reducible show wpAny _ _ (subscriptTail _ (Expr.Slice none (some _) none _) (Value.ref _) (Value.ref _)) _ _ _); (with_reducible rename Fr _ _ _ _ => F'); (with_reducible rename News _ _ _ _ => N'); k_dflt (refine' bo_cutTo (s := ⟨_, _, _, _, _⟩) F' N' ?m ?z1 ?z2 ?_; (case m => k_mem); (case z1 => walk_at "sz"); (case z2 => walk_at "sz"); k_whole); intro h' x' F' N' l1; (try k_lt l1); (try k_sweep)))
  (k_with "getItem ref int" => (k_here; k_dflt (refine' bo_getItem ?g ?z1 ?z2 ?z3 ?_; (case g => exact News.get (by k_asm) (by k_mem)); (case z1 => walk_at "sz"); (case z2 => walk_at "sz"); (case z3 => walk_at "sz"); k_whole); intro _ _))
  (k_with "setItem ref int" => (k_here; (with_reducible show wpAny _ _ (setItem (Value.ref _) (Value.int _ _) (Value.int _ _)) _ _ _); k_dflt (refine' bo_setItemK ?F ?N ?U ?z1 ?z2 ?z3 ?z4 ?z5 ?_; (case F => k_asm); (case N => k_asm); (case U => k_upd); (case z1 => walk_at "sz"); (case z2 => walk_at "sz"); (case z3 => walk_at "sz"); (case z4 => first | (with_reducible exact bx150 _ _) | (with_reducible exact bx310 _ _) | (with_reducible exact bxu0 _ _) | walk_at "sz"); (case z5 => first | (with_reducible exact bx151 _ _) | (with_reducible exact bx311 _ _) | (with_reducible exact bxu1 _ _) | walk_at "sz"); k_whole); intro h' F' N'; (try k_sweep)))
  (k_with "compareOp Eq bytes bytes" => (k_here; (with_reducible show wpAny _ _ (compareOp CmpOp.Eq (Value.bytes (List.toArray _) _) (Value.bytes (List.toArray _) _)) _ _ _); k_dflt (refine br_eq ?_)))
  (k_with "compareOp NotEq bytes bytes" => (k_here; (with_reducible show wpAny _ _ (compareOp CmpOp.NotEq (Value.bytes (List.toArray _) _) (Value.bytes (List.toArray _) _)) _ _ _); k_dflt (refine br_ne ?_)))
  (k_with "call builtin:int.to_bytes" => (k_here; (with_reducible show wpAny _ _ (call (Value.builtin "int.to_bytes") [Value.int _ _, Value.int _ _, Value.str _ _]) _ _ _); k_dflt (refine' br_to ?z1 ?z2 ?z3 ?z4 ?_; (case z1 => walk_at "sz"); (case z2 => walk_at "sz"); (case z3 => first | assumption | walk_at "sz" | exact Int.fmod_nonneg_of_pos _ (by decide)); (case z4 => first | assumption | walk_at "sz" | exact Int.lt_of_lt_of_le (Int.fmod_lt_of_pos _ (by decide)) (by decide)); k_whole); intro _ _))
  (k_with "call ref" => (k_here; (with_reducible show wpAny _ _ (call (Value.ref _) [Value.bytes (List.toArray _) _, Value.str _ _]) _ _ _); kfb_any; k_dflt (refine br_from (by k_asm) (by k_mem) ?z1 ?_; (case z1 => walk_at "sz")); intro _ _))
  (k_with "call type:bytes" => (k_here; (with_reducible show wpAny _ _ (call (Value.type "bytes") [Value.ref _]) _ _ _); k_dflt (refine' bo_bytes ?g ?z1 ?_; (case g => exact News.get (by k_asm) (by k_mem)); (case z1 => walk_at "sz"); k_whole); intro _ _))
  (k_with "pyIter bytes" => (k_here; (with_reducible show wpAny _ _ (pyIter (Value.bytes (List.toArray _) _)) (CompPost _ _ _ _ _ _ _ _ _) _ _); k_dflt (refine' comp_row ?hh ?F ?N ?hk ?hl ?hd ?hz ?_; (case hh => exact rfl); (case F => k_asm); (case N => k_asm); (case hk => exact rfl); (case hl => intro _; exact rfl); (case hd => decide); (case hz => walk_at "sz"); k_whole); intro D' ys' h' tk' F' N' lI' iI'; (try k_sweep)))
  (k_with "call type:bytes" => (k_here; (with_reducible show wpAny _ _ (call (Value.type "bytes") [Value.ref _]) _ _ _); (with_reducible rename IntsAre _ (rowOf _) => rI); k_dflt (refine' row_bytes ?F ?N ?hh ?hl rI ?hz ?_; (case F => k_asm); (case N => k_asm); (case hh => exact rfl); (case hl => assumption); (case hz => walk_at "sz"); k_whole); intro h' _ _ F' N'; (try k_sweep)))
  (k_with "eval Name" => (k_here; (with_reducible show wpAny _ _ (eval (Expr.Name _ _) _) _ _ _); k_dflt (refine' PyProof.Rows.ld ?k1 ?k2 ?_; (case k1 => k_asm); (case k2 => assumption); k_whole)))
  first | walk1 | trivial
section
section
variable {prog p : Program} {w : World} {loose : List Str} {mean : ExcName → Option Value} {mg mb : Str → Option Value} {G : Heap} {L a c : Addr} {m : Str → Option Value} {rest : List (Addr × Obj)}
  {s : Shared} {Q : Flow → Shared → Prop} {pk : List UInt8} {t1 t2 : Tok} {ot : Int}
set_option maxHeartbeats 1000000 in
theorem law_fits (X : (hd.heap_39 w.params).In G) (T : Top p loose mean mg mb G) (B : Below callerA G [] G) (F : Fr G L s.heap m) (N : News G L s.heap rest)
    (hp : m (Str.ofString "packet") = some (.bytes pk.toArray t1)) (ho : m (Str.ofString "other") = some (.int ot t2)) (hz : pk.length ≤ 200)
    (ret : ∀ h' tk', Fr G L h' (fun y => if y = Str.ofString "fits" then some (.bool (decide (ot + 20 ≤ (pk.length : Int)))) else if y = Str.ofString "refused" then some (.bool false) else if y = Str.ofString "told" then some .none else m y) → News G L h' rest → Q .next { s with heap := h', toks := tk' }) :
    wpAny (model prog w) (callerA.deeper (envL L)) (exec st_189_5_12 (envL L)) Q NoE s := by
  conv in st_189_5_12 => whnf
  k_steps
  (rename Fr _ _ _ _ => F1)
  (rename News _ _ _ _ => N1)
  exact ret _ _ F1 fun q hq => N1 q (by repeat (first | exact hq | refine List.mem_cons_of_mem _ ?_))
end
end

theorem lines_C27 : True := by
  w_top off
  k_with_none
  (k_with "sz" => (first | (first | lia | omega) | (simp only [List.length_append, List.length_cons, List.length_nil, List.length_take, List.length_drop, List.length_map, List.length_set, List.length_replicate, toB_length, cutB_length]; (first | lia | omega))))
  (k_with "dp" => ((try simp only [depth_mark, depth_under_make, depth_under_kw, depth_in1, depth_deeper, depth_caller]); (try dsimp only [ktrTop]); (first | lia | omega)))
  (k_with "k_room" => ((try simp only [depth_mark, depth_under_make, depth_under_kw, depth_in1, depth_deeper, depth_caller]); simp only [recursionLimit]; (first | lia | omega)))
  (k_with "cell_enter" => (refine' enterF ?k1 ?k2 ?k3 ?k4 ?k5 ?kA ?kF ?kK ?k6 ?k7 ?k8 ?k9 ?kB ?_ ?c2 ?c3 ?c4 ?c5; (case kA => exact rfl); (case kF => exact rfl); (case kK => assumption); (case k1 => k_asm); (case k2 => k_asm); (case k3 => k_asm); (case k4 => k_asm); (case k5 => k_asm); (case k6 => k_is); (case k7 => k_is); (case k8 => ktr_room); (case k9 => exact BindsTo.of_eq rfl); (case c5 => decide); (case kB => exact locs rfl); (case c2 => exact rfl); (case c3 => exact rfl); (case c4 => exact rfl); k_whole; intro g' L' h' HG' F' N' B' X' T'; (try dsimp only)))
  (k_with "cell_enterP" => (refine' enterP ?k1 ?k2 ?k3 ?k4 ?k5 ?kA ?kF ?kK ?k6 ?k7 ?k8 ?k9 ?kB ?_ ?c2 ?c3 ?c4 ?c5; (case kA => exact rfl); (case kF => exact rfl); (case kK => assumption); (case k1 => k_asm); (case k2 => k_asm); (case k3 => k_asm); (case k4 => k_asm); (case k5 => k_asm); (case k6 => k_is); (case k7 => k_is); (case k8 => ktr_room); (case k9 => exact BindsTo.of_eq rfl); (case c5 => decide); (case kB => exact locs rfl); (case c2 => exact rfl); (case c3 => exact rfl); (case c4 => exact rfl); k_whole; intro g' L' h' HG' F' N' B' X' T'; (try dsimp only)))
  (k_with "binaryOp Add bytes bytes" => (k_here; (with_reducible show wpAny _ _ (binaryOp Operator.Add (Value.bytes (List.toArray _) _) (Value.bytes (List.toArray _) _)) _ _ _); k_dflt (refine' br_add ?z1 ?z2 ?_; (case z1 => walk_at "sz"); (case z2 => walk_at "sz"); k_whole); intro _ _))
  (k_with "call builtin:len" => (k_here; (with_reducible show wpAny _ _ (call (Value.builtin "len") [Value.bytes (List.toArray _) _]) _ _ _); k_dflt (refine' br_len ?z1 ?_; (case z1 => walk_at "sz"); k_whole); intro _ _))
  (k_with "subscriptTail" => (k_here; (with_reducible show wpAny _ _ (subscriptTail _ _ (Value.bytes (List.toArray _) _) (Value.int _ _)) _ _ _); k_dflt (refine' br_item ?z1 ?z2 ?z3 ?_; (case z1 => walk_at "sz"); (case z2 => walk_at "sz"); (case z3 => walk_at "sz"); k_whole); intro _ _))
  (k_with "subscriptTail" => (k_here; (with_reducible show wpAny _ _ (subscriptTail _ (Expr.Slice (some _) (some _) none _) (Value.bytes (List.toArray _) _) (Value.ref _)) _ _ _); (with_reducible rename Fr _ _ _ _ => F'); (with_reducible rename News _ _ _ _ => N'); k_dflt (refine' br_cut (s := ⟨_, _, _, _, _⟩) F' N' ?z1 ?z2 ?z3 ?_; (case z1 => walk_at "sz"); (case z2 => walk_at "sz"); (case z3 => walk_at "sz"); k_whole); intro h' _ _ F' N'; (try k_sweep)))
  (k_with "subscriptTail" => (k_here; (with_reducible show wpAny _ _ (subscriptTail _ (Expr.Slice (some _) none none _) (Value.bytes (List.toArray _) _) (Value.ref _)) _ _ _); (with_reducible rename Fr _ _ _ _ => F'); (with_reducible rename News _ _ _ _ => N'); k_dflt (refine' br_cutFrom (s := ⟨_, _, _, _, _⟩) F' N' ?z1 ?z2 ?_; (case z1 => walk_at "sz"); (case z2 => walk_at "sz"); k_whole); intro h' _ _ F' N'; (try k_sweep)))
  (k_with "subscriptTail" => (k_here; (with_reducible show wpAny _ _ (subscriptTail _ (Expr.Slice none (some _) none _) (Value.bytes (List.toArray _) _) (Value.ref _)) _ _ _); (with_reducible rename Fr _ _ _ _ => F'); (with_reducible rename News _ _ _ _ => N'); k_dflt (refine' br_cutTo (s := ⟨_, _, _, _, _⟩) F' N' ?z1 ?z2 ?_; (case z1 => walk_at "sz"); (case z2 => walk_at "sz"); k_whole); intro h' _ _ F' N'; (try k_sweep)))
  (k_with "subscriptTail" => (k_here; (with_reducible show wpAny _ _ (subscriptTail _ _ (Value.ref _) (Value.int _ _)) _ _ _); k_dflt (refine' bo_tail ?g ?z1 ?z2 ?z3 ?_; (case g => exact News.get (by k_asm) (by k_mem)); (case z1 => walk_at "sz"); (case z2 => walk_at "sz"); (case z3 => walk_at "sz"); k_whole); intro _ _))
  (k_with "subscriptTail" => (k_here; (with_reducible show wpAny _ _ (subscriptTail _ (Expr.Slice none (some _) none _) (Value.ref _) (Value.ref _)) _ _ _); (with_reducible rename Fr _ _ _ _ => F'); (with_reducible rename News _ _ _ _ => N'); k_dflt (refine' bo_cutTo (s := ⟨_, _, _, _, _⟩) F' N' ?m ?z1 ?z2 ?_; (case m => k_mem); (case z1 => walk_at "sz"); (case z2 => walk_at "sz"); k_whole); intro h' x' F' N' l1; (try k_lt l1); (try k_sweep)))
  (k_with "getItem ref int" => (k_here; k_dflt (refine' bo_getItem ?g ?z1 ?z2 ?z3 ?_; (case g => exact News.get (by k_asm) (by k_mem)); (case z1 => walk_at "sz"); (case z2 => walk_at "sz"); (case z3 => walk_at "sz"); k_whole); intro _ _))
  (k_with "setItem ref int" => (k_here; (with_reducible show wpAny _ _ (setItem (Value.ref _) (Value.int _ _) (Value.int _ _)) _ _ _); k_dflt (refine' bo_setItemK ?F ?N ?U ?z1 ?z2 ?z3 ?z4 ?z5 ?_; (case F => k_asm); (case N => k_asm); (case U => k_upd); (case z1 => walk_at "sz"); (case z2 => walk_at "sz"); (case z3 => walk_at "sz"); (case z4 => first | (with_reducible exact bx150 _ _) | (with_reducible exact bx310 _ _) | (with_reducible exact bxu0 _ _) | walk_at "sz"); (case z5 => first | (with_reducible exact bx151 _ _) | (with_reducible exact bx311 _ _) | (with_reducible exact bxu1 _ _) | walk_at "sz"); k_whole); intro h' F' N'; (try k_sweep)))
  (k_with "compareOp Eq bytes bytes" => (k_here; (with_reducible show wpAny _ _ (compareOp CmpOp.Eq (Value.bytes (List.toArray _) _) (Value.bytes (List.toArray _) _)) _ _ _); k_dflt (refine br_eq ?_)))
  (k_with "compareOp NotEq bytes bytes" => (k_here; (with_reducible show wpAny _ _ (compareOp CmpOp.NotEq (Value.bytes (List.toArray _) _) (Value.bytes (List.toArray _) _)) _ _ _); k_dflt (refine br_ne ?_)))
  (k_with "call builtin:int.to_bytes" => (k_here; (with_reducible show wpAny _ _ (call (Value.builtin "int.to_bytes") [Value.int _ _, Value.int _ _, Value.str _ _]) _ _ _); k_dflt (refine' br_to ?z1 ?z2 ?z3 ?z4 ?_; (case z1 => walk_at "sz"); (case z2 => walk_at "sz"); (case z3 => first | assumption | walk_at "sz" | exact Int.fmod_nonneg_of_pos _ (by decide)); (case z4 => first | assumption | walk_at "sz" | exact Int.lt_of_lt_of_le (Int.fmod_lt_of_pos _ (by decide)) (by decide)); k_whole); intro _ _))
  (k_with "call ref" => (k_here; (with_reducible show wpAny _ _ (call (Value.ref _) [Value.bytes (List.toArray _) _, Value.str _ _]) _ _ _); kfb_any; k_dflt (refine br_from (by k_asm) (by k_mem) ?z1 ?_; (case z1 => walk_at "sz")); intro _ _))
  (k_with "call type:bytes" => (k_here; (with_reducible show wpAny _ _ (call (Value.type "bytes") [Value.ref _]) _ _ _); k_dflt (refine' bo_bytes ?g ?z1 ?_; (case g => exact News.get (by k_asm) (by k_mem)); (case z1 => walk_at "sz"); k_whole); intro _ _))
  (k_with "pyIter bytes" => (k_here; (with_reducible show wpAny _ _ (pyIter (Value.bytes (List.toArray _) _)) (CompPost _ _ _ _ _ _ _ _ _) _ _); k_dflt (refine' comp_row ?hh ?F ?N ?hk ?hl ?hd ?hz ?_; (case hh => exact rfl); (case F => k_asm); (case N => k_asm); (case hk => exact rfl); (case hl => intro _; exact rfl); (case hd => decide); (case hz => walk_at "sz"); k_whole); intro D' ys' h' tk' F' N' lI' iI'; (try k_sweep)))
  (k_with "call type:bytes" => (k_here; (with_reducible show wpAny _ _ (call (Value.type "bytes") [Value.ref _]) _ _ _); (with_reducible rename IntsAre _ (rowOf _) => rI); k_dflt (refine' row_bytes ?F ?N ?hh ?hl rI ?hz ?_; (case F => k_asm); (case N => k_asm); (case hh => exact rfl); (case hl => assumption); (case hz => walk_at "sz"); k_whole); intro h' _ _ F' N'; (try k_sweep)))
  (k_with "eval Name" => (k_here; (with_reducible show wpAny _ _ (eval (Expr.Name _ _) _) _ _ _); k_dflt (refine' PyProof.Rows.ld ?k1 ?k2 ?_; (case k1 => k_asm); (case k2 => assumption); k_whole)))
  first | walk1 | trivial
section
section
variable {prog p : Program} {w : World} {loose : List Str} {mean : ExcName → Option Value} {mg mb : Str → Option Value} {G : Heap} {L a c : Addr} {m : Str → Option Value} {rest : List (Addr × Obj)}
  {s : Shared} {Q : Flow → Shared → Prop} {ft : Bool}
set_option maxHeartbeats 1000000 in
theorem law_refused (X : (hd.heap_39 w.params).In G) (T : Top p loose mean mg mb G) (B : Below callerA G [] G) (F : Fr G L s.heap m) (N : News G L s.heap rest)
    (h1 : m (Str.ofString "refused") = some (.bool (!ft))) (h2 : m (Str.ofString "fits") = some (.bool ft))
    (ret : ∀ h' tk', Fr G L h' m → News G L h' rest → Q .next { s with heap := h', toks := tk' }) :
    wpAny (model prog w) (callerA.deeper (envL L)) (exec st_189_5_14 (envL L)) Q NoE s := by
  conv in st_189_5_14 => whnf
  cases ft
  · rw [show (!false) = true from rfl] at h1
    k_steps
    exact ret _ _ (by assumption) (by assumption)
  · rw [show (!true) = false from rfl] at h1
    k_steps
    exact ret _ _ (by assumption) (by assumption)
end
end

theorem lines_C28 : True := by
  w_top off
  k_with_none
  (k_with "sz" => (first | (first | lia | omega) | (simp only [List.length_append, List.length_cons, List.length_nil, List.length_take, List.length_drop, List.length_map, List.length_set, List.length_replicate, toB_length, cutB_length]; (first | lia | omega))))
  (k_with "dp" => ((try simp only [depth_mark, depth_under_make, depth_under_kw, depth_in1, depth_deeper, depth_caller]); (try dsimp only [ktrTop]); (first | lia | omega)))
  (k_with "k_room" => ((try simp only [depth_mark, depth_under_make, depth_under_kw, depth_in1, depth_deeper, depth_caller]); simp only [recursionLimit]; (first | lia | omega)))
  (k_with "cell_enter" => (refine' enterF ?k1 ?k2 ?k3 ?k4 ?k5 ?kA ?kF ?kK ?k6 ?k7 ?k8 ?k9 ?kB ?_ ?c2 ?c3 ?c4 ?c5; (case kA => exact rfl); (case kF => exact rfl); (case kK => assumption); (case k1 => k_asm); (case k2 => k_asm); (case k3 => k_asm); (case k4 => k_asm); (case k5 => k_asm); (case k6 => k_is); (case k7 => k_is); (case k8 => ktr_room); (case k9 => exact BindsTo.of_eq rfl); (case c5 => decide); (case kB => exact locs rfl); (case c2 => exact rfl); (case c3 => exact rfl); (case c4 => exact rfl); k_whole; intro g' L' h' HG' F' N' B' X' T'; (try dsimp only)))
  (k_with "cell_enterP" => (refine' enterP ?k1 ?k2 ?k3 ?k4 ?k5 ?kA ?kF ?kK ?k6 ?k7 ?k8 ?k9 ?kB ?_ ?c2 ?c3 ?c4 ?c5; (case kA => exact rfl); (case kF => exact rfl); (case kK => assumption); (case k1 => k_asm); (case k2 => k_asm); (case k3 => k_asm); (case k4 => k_asm); (case k5 => k_asm); (case k6 => k_is); (case k7 => k_is); (case k8 => ktr_room); (case k9 => exact BindsTo.of_eq rfl); (case c5 => decide); (case kB => exact locs rfl); (case c2 => exact rfl); (case c3 => exact rfl); (case c4 => exact rfl); k_whole; intro g' L' h' HG' F' N' B' X' T'; (try dsimp only)))
  (k_with "binaryOp Add bytes bytes" => (k_here; (with_reducible show wpAny _ _ (binaryOp Operator.Add (Value.bytes (List.toArray _) _) (Value.bytes (List.toArray _) _)) _ _ _); k_dflt (refine' br_add ?z1 ?z2 ?_; (case z1 => walk_at "sz"); (case z2 => walk_at "sz"); k_whole); intro _ _))
  (k_with "call builtin:len" => (k_here; (with_reducible show wpAny _ _ (call (Value.builtin "len") [Value.bytes (List.toArray _) _]) _ _ _); k_dflt (refine' br_len ?z1 ?_; (case z1 => walk_at "sz"); k_whole); intro _ _))
  (k_with "subscriptTail" => (k_here; (with_reducible show wpAny _ _ (subscriptTail _ _ (Value.bytes (List.toArray _) _) (Value.int _ _)) _ _ _); k_dflt (refine' br_item ?z1 ?z2 ?z3 ?_; (case z1 => walk_at "sz"); (case z2 => walk_at "sz"); (case z3 => walk_at "sz"); k_whole); intro _ _))
  (k_with "subscriptTail" => (k_here; (with_reducible show wpAny _ _ (subscriptTail _ (Expr.Slice (some _) (some _) none _) (Value.bytes (List.toArray _) _) (Value.ref _)) _ _ _); (with_reducible rename Fr _ _ _ _ => F'); (with_reducible rename News _ _ _ _ => N'); k_dflt (refine' br_cut (s := ⟨_, _, _, _, _⟩) F' N' ?z1 ?z2 ?z3 ?_; (case z1 => walk_at "sz"); (case z2 => walk_at "sz"); (case z3 => walk_at "sz"); k_whole); intro h' _ _ F' N'; (try k_sweep)))
  (k_with "subscriptTail" => (k_here; (with_reducible show wpAny _ _ (subscriptTail _ (Expr.Slice (some _) none none _) (Value.bytes (List.toArray _) _) (Value.ref _)) _ _ _); (with_reducible rename Fr _ _ _ _ => F'); (with_reducible rename News _ _ _ _ => N'); k_dflt (refine' br_cutFrom (s := ⟨_, _, _, _, _⟩) F' N' ?z1 ?z2 ?_; (case z1 => walk_at "sz"); (case z2 => walk_at "sz"); k_whole); intro h' _ _ F' N'; (try k_sweep)))
  (k_with "subscriptTail" => (k_here; (with_reducible show wpAny _ _ (subscriptTail _ (Expr.Slice none (some _) none _) (Value.bytes (List.toArray _) _) (Value.ref _)) _ _ _); (with_reducible rename Fr _ _ _ _ => F'); (with_reducible rename News _ _ _ _ => N'); k_dflt (refine' br_cutTo (s := ⟨_, _, _, _, _⟩) F' N' ?z1 ?z2 ?_; (case z1 => walk_at "sz"); (case z2 => walk_at "sz"); k_whole); intro h' _ _ F' N'; (try k_sweep)))
  (k_with "subscriptTail" => (k_here; (with_reducible show wpAny _ _ (subscriptTail _ _ (Value.ref _) (Value.int _ _)) _ _ _); k_dflt (refine' bo_tail ?g ?z1 ?z2 ?z3 ?_; (case g => exact News.get (by k_asm) (by k_mem)); (case z1 => walk_at "sz"); (case z2 => walk_at "sz"); (case z3 => walk_at "sz"); k_whole); intro _ _))
  (k_with "subscriptTail" => (k_here; (with_reducible show wpAny _ _ (subscriptTail _ (Expr.Slice none (some _) none _) (Value.ref _) (Value.ref _)) _ _ _); (with_reducible rename Fr _ _ _ _ => F'); (with_reducible rename News _ _ _ _ => N'); k_dflt (refine' bo_cutTo (s := ⟨_, _, _, _, _⟩) F' N' ?m ?z1 ?z2 ?_; (case m => k_mem); (case z1 => walk_at "sz"); (case z2 => walk_at "sz"); k_whole); intro h' x' F' N' l1; (try k_lt l1); (try k_sweep)))
  (k_with "getItem ref int" => (k_here; k_dflt (refine' bo_getItem ?g ?z1 ?z2 ?z3 ?_; (case g => exact News.get (by k_asm) (by k_mem)); (case z1 => walk_at "sz"); (case z2 => walk_at "sz"); (case z3 => walk_at "sz"); k_whole); intro _ _))
  (k_with "setItem ref int" => (k_here; (with_reducible show wpAny _ _ (setItem (Value.ref _) (Value.int _ _) (Value.int _ _)) _ _ _); k_dflt (refine' bo_setItemK ?F ?N ?U ?z1 ?z2 ?z3 ?z4 ?z5 ?_; (case F => k_asm); (case N => k_asm); (case U => k_upd); (case z1 => walk_at "sz"); (case z2 => walk_at "sz"); (case z3 => walk_at "sz"); (case z4 => first | (with_reducible exact bx150 _ _) | (with_reducible exact bx310 _ _) | (with_reducible exact bxu0 _ _) | walk_at "sz"); (case z5 => first | (with_reducible exact bx151 _ _) | (with_reducible exact bx311 _ _) | (with_reducible exact bxu1 _ _) | walk_at "sz"); k_whole); intro h' F' N'; (try k_sweep)))
  (k_with "compareOp Eq bytes bytes" => (k_here; (with_reducible show wpAny _ _ (compareOp CmpOp.Eq (Value.bytes (List.toArray _) _) (Value.bytes (List.toArray _) _)) _ _ _); k_dflt (refine br_eq ?_)))
  (k_with "compareOp NotEq bytes bytes" => (k_here; (with_reducible show wpAny _ _ (compareOp CmpOp.NotEq (Value.bytes (List.toArray _) _) (Value.bytes (List.toArray _) _)) _ _ _); k_dflt (refine br_ne ?_)))
  (k_with "call builtin:int.to_bytes" => (k_here; (with_reducible show wpAny _ _ (call (Value.builtin "int.to_bytes") [Value.int _ _, Value.int _ _, Value.str _ _]) _ _ _); k_dflt (refine' br_to ?z1 ?z2 ?z3 ?z4 ?_; (case z1 => walk_at "sz"); (case z2 => walk_at "sz"); (case z3 => first | assumption | walk_at "sz" | exact Int.fmod_nonneg_of_pos _ (by decide)); (case z4 => first | assumption | walk_at "sz" | exact Int.lt_of_lt_of_le (Int.fmod_lt_of_pos _ (by decide)) (by decide)); k_whole); intro _ _))
  (k_with "call ref" => (k_here; (with_reducible show wpAny _ _ (call (Value.ref _) [Value.bytes (List.toArray _) _, Value.str _ _]) _ _ _); kfb_any; k_dflt (refine br_from (by k_asm) (by k_mem) ?z1 ?_; (case z1 => walk_at "sz")); intro _ _))
  (k_with "call type:bytes" => (k_here; (with_reducible show wpAny _ _ (call (Value.type "bytes") [Value.ref _]) _ _ _); k_dflt (refine' bo_bytes ?g ?z1 ?_; (case g => exact News.get (by k_asm) (by k_mem)); (case z1 => walk_at "sz"); k_whole); intro _ _))
  (k_with "pyIter bytes" => (k_here; (with_reducible show wpAny _ _ (pyIter (Value.bytes (List.toArray _) _)) (CompPost _ _ _ _ _ _ _ _ _) _ _); k_dflt (refine' comp_row ?hh ?F ?N ?hk ?hl ?hd ?hz ?_; (case hh => exact rfl); (case F => k_asm); (case N => k_asm); (case hk => exact rfl); (case hl => intro _; exact rfl); (case hd => decide); (case hz => walk_at "sz"); k_whole); intro D' ys' h' tk' F' N' lI' iI'; (try k_sweep)))
  (k_with "call type:bytes" => (k_here; (with_reducible show wpAny _ _ (call (Value.type "bytes") [Value.ref _]) _ _ _); (with_reducible rename IntsAre _ (rowOf _) => rI); k_dflt (refine' row_bytes ?F ?N ?hh ?hl rI ?hz ?_; (case F => k_asm); (case N => k_asm); (case hh => exact rfl); (case hl => assumption); (case hz => walk_at "sz"); k_whole); intro h' _ _ F' N'; (try k_sweep)))
  (k_with "eval Name" => (k_here; (with_reducible show wpAny _ _ (eval (Expr.Name _ _) _) _ _ _); k_dflt (refine' PyProof.Rows.ld ?k1 ?k2 ?_; (case k1 => k_asm); (case k2 => assumption); k_whole)))
  first | walk1 | trivial
section
section
variable {prog p : Program} {w : World} {loose : List Str} {mean : ExcName → Option Value} {mg mb : Str → Option Value} {G : Heap} {L a c : Addr} {m : Str → Option Value} {rest : List (Addr × Obj)}
  {s : Shared} {Q : Flow → Shared → Prop}
theorem law_nofit (X : (hd.heap_39 w.params).In G) (T : Top p loose mean mg mb G) (B : Below callerA G [] G) (F : Fr G L s.heap m) (N : News G L s.heap rest)
    (h2 : m (Str.ofString "fits") = some (.bool false)) (ret : ∀ h' tk', Fr G L h' m → News G L h' rest → Q .next { s with heap := h', toks := tk' }) :
    wpAny (model prog w) (callerA.deeper (envL L)) (exec st_189_5_15 (envL L)) Q NoE s := by
  conv in st_189_5_15 => whnf
  k_steps
  exact ret _ _ (by assumption) (by assumption)
end
end

theorem lines_MM : True := by
  w_top off
  k_with_none
  (k_with "sz" => (first | (first | lia | omega) | (simp only [List.length_append, List.length_cons, List.length_nil, List.length_take, List.length_drop, List.length_map, List.length_set, List.length_replicate, toB_length, cutB_length]; (first | lia | omega))))
  (k_with "dp" => ((try simp only [depth_mark, depth_under_make, depth_under_kw, depth_in1, depth_deeper, depth_caller]); (try dsimp only [ktrTop]); (first | lia | omega)))
  (k_with "k_room" => ((try simp only [depth_mark, depth_under_make, depth_under_kw, depth_in1, depth_deeper, depth_caller]); simp only [recursionLimit]; (first | lia | omega)))
  (k_with "cell_enter" => (refine' enterF ?k1 ?k2 ?k3 ?k4 ?k5 ?kA ?kF ?kK ?k6 ?k7 ?k8 ?k9 ?kB ?_ ?c2 ?c3 ?c4 ?c5; (case kA => exact rfl); (case kF => exact rfl); (case kK => assumption); (case k1 => k_asm); (case k2 => k_asm); (case k3 => k_asm); (case k4 => k_asm); (case k5 => k_asm); (case k6 => k_is); (case k7 => k_is); (case k8 => ktr_room); (case k9 => exact BindsTo.of_eq rfl); (case c5 => decide); (case kB => exact locs rfl); (case c2 => exact rfl); (case c3 => exact rfl); (case c4 => exact rfl); k_whole; intro g' L' h' HG' F' N' B' X' T'; (try dsimp only)))
  (k_with "cell_enterP" => (refine' enterP ?k1 ?k2 ?k3 ?k4 ?k5 ?kA ?kF ?kK ?k6 ?k7 ?k8 ?k9 ?kB ?_ ?c2 ?c3 ?c4 ?c5; (case kA => exact rfl); (case kF => exact rfl); (case kK => assumption); (case k1 => k_asm); (case k2 => k_asm); (case k3 => k_asm); (case k4 => k_asm); (case k5 => k_asm); (case k6 => k_is); (case k7 => k_is); (case k8 => ktr_room); (case k9 => exact BindsTo.of_eq rfl); (case c5 => decide); (case kB => exact locs rfl); (case c2 => exact rfl); (case c3 => exact rfl); (case c4 => exact rfl); k_whole; intro g' L' h' HG' F' N' B' X' T'; (try dsimp only)))
  (k_with "binaryOp Add bytes bytes" => (k_here; (with_reducible show wpAny _ _ (binaryOp Operator.Add (Value.bytes (List.toArray _) _) (Value.bytes (List.toArray _) _)) _ _ _); k_dflt (refine' br_add ?z1 ?z2 ?_; (case z1 => walk_at "sz"); (case z2 => walk_at "sz"); k_whole); intro _ _))
  (k_with "call builtin:len" => (k_here; (with_reducible show wpAny _ _ (call (Value.builtin "len") [Value.bytes (List.toArray _) _]) _ _ _); k_dflt (refine' br_len ?z1 ?_; (case z1 => walk_at "sz"); k_whole); intro _ _))
  (k_with "subscriptTail" => (k_here; (with_reducible show wpAny _ _ (subscriptTail _ _ (Value.bytes (List.toArray _) _) (Value.int _ _)) _ _ _); k_dflt (refine' br_item ?z1 ?z2 ?z3 ?_; (case z1 => walk_at "sz"); (case z2 => walk_at "sz"); (case z3 => walk_at "sz"); k_whole); intro _ _))
  (k_with "subscriptTail" => (k_here; (with_reducible show wpAny _ _ (subscriptTail _ (Expr.Slice (some _) (some _) none _) (Value.bytes (List.toArray _) _) (Value.ref _)) _ _ _); (with_reducible rename Fr _ _ _ _ => F'); (with_reducible rename News _ _ _ _ => N'); k_dflt (refine' br_cut (s := ⟨_, _, _, _, _⟩) F' N' ?z1 ?z2 ?z3 ?_; (case z1 => walk_at "sz"); (case z2 => walk_at "sz"); (case z3 => walk_at "sz"); k_whole); intro h' _ _ F' N'; (try k_sweep)))
  (k_with "subscriptTail" => (k_here; (with_reducible show wpAny _ _ (subscriptTail _ (Expr.Slice (some _) none none _) (Value.bytes (List.toArray _) _) (Value.ref _)) _ _ _); (with_reducible rename Fr _ _ _ _ => F'); (with_reducible rename News _ _ _ _ => N'); k_dflt (refine' br_cutFrom (s := ⟨_, _, _, _, _⟩) F' N' ?z1 ?z2 ?_; (case z1 => walk_at "sz"); (case z2 => walk_at "sz"); k_whole); intro h' _ _ F' N'; (try k_sweep)))
  (k_with "subscriptTail" => (k_here; (with_reducible show wpAny _ _ (subscriptTail _ (Expr.Slice none (some _) none _) (Value.bytes (List.toArray _) _) (Value.ref _)) _ _ _); (with_reducible rename Fr _ _ _ _ => F'); (with_reducible rename News _ _ _ _ => N'); k_dflt (refine' br_cutTo (s := ⟨_, _, _, _, _⟩) F' N' ?z1 ?z2 ?_; (case z1 => walk_at "sz"); (case z2 => walk_at "sz"); k_whole); intro h' _ _ F' N'; (try k_sweep)))
  (k_with "subscriptTail" => (k_here; (with_reducible show wpAny _ _ (subscriptTail _ _ (Value.ref _) (Value.int _ _)) _ _ _); k_dflt (refine' bo_tail ?g ?z1 ?z2 ?z3 ?_; (case g => exact News.get (by k_asm) (by k_mem)); (case z1 => walk_at "sz"); (case z2 => walk_at "sz"); (case z3 => walk_at "sz"); k_whole); intro _ _))
  (k_with "subscriptTail" => (k_here; (with_reducible show wpAny _ _ (subscriptTail _ (Expr.Slice none (some _) none _) (Value.ref _) (Value.ref _)) _ _ _); (with_reducible rename Fr _ _ _ _ => F'); (with_reducible rename News _ _ _ _ => N'); k_dflt (refine' bo_cutTo (s := ⟨_, _, _, _, _⟩) F' N' ?m ?z1 ?z2 ?_; (case m => k_mem); (case z1 => walk_at "sz"); (case z2 => walk_at "sz"); k_whole); intro h' x' F' N' l1; (try k_lt l1); (try k_sweep)))
  (k_with "getItem ref int" => (k_here; k_dflt (refine' bo_getItem ?g ?z1 ?z2 ?z3 ?_; (case g => exact News.get (by k_asm) (by k_mem)); (case z1 => walk_at "sz"); (case z2 => walk_at "sz"); (case z3 => walk_at "sz"); k_whole); intro _ _))
  (k_with "setItem ref int" => (k_here; (with_reducible show wpAny _ _ (setItem (Value.ref _) (Value.int _ _) (Value.int _ _)) _ _ _); k_dflt (refine' bo_setItemK ?F ?N ?U ?z1 ?z2 ?z3 ?z4 ?z5 ?_; (case F => k_asm); (case N => k_asm); (case U => k_upd); (case z1 => walk_at "sz"); (case z2 => walk_at "sz"); (case z3 => walk_at "sz"); (case z4 => first | (with_reducible exact bx150 _ _) | (with_reducible exact bx310 _ _) | (with_reducible exact bxu0 _ _) | walk_at "sz"); (case z5 => first | (with_reducible exact bx151 _ _) | (with_reducible exact bx311 _ _) | (with_reducible exact bxu1 _ _) | walk_at "sz"); k_whole); intro h' F' N'; (try k_sweep)))
  (k_with "compareOp Eq bytes bytes" => (k_here; (with_reducible show wpAny _ _ (compareOp CmpOp.Eq (Value.bytes (List.toArray _) _) (Value.bytes (List.toArray _) _)) _ _ _); k_dflt (refine br_eq ?_)))
  (k_with "compareOp NotEq bytes bytes" => (k_here; (with_reducible show wpAny _ _ (compareOp CmpOp.NotEq (Value.bytes (List.toArray _) _) (Value.bytes (List.toArray _) _)) _ _ _); k_dflt (refine br_ne ?_)))
  (k_with "call builtin:int.to_bytes" => (k_here; (with_reducible show wpAny _ _ (call (Value.builtin "int.to_bytes") [Value.int _ _, Value.int _ _, Value.str _ _]) _ _ _); k_dflt (refine' br_to ?z1 ?z2 ?z3 ?z4 ?_; (case z1 => walk_at "sz"); (case z2 => walk_at "sz"); (case z3 => first | assumption | walk_at "sz" | exact Int.fmod_nonneg_of_pos _ (by decide)); (case z4 => first | assumption | walk_at "sz" | exact Int.lt_of_lt_of_le (Int.fmod_lt_of_pos _ (by decide)) (by decide)); k_whole); intro _ _))
  (k_with "call ref" => (k_here; (with_reducible show wpAny _ _ (call (Value.ref _) [Value.bytes (List.toArray _) _, Value.str _ _]) _ _ _); kfb_any; k_dflt (refine br_from (by k_asm) (by k_mem) ?z1 ?_; (case z1 => walk_at "sz")); intro _ _))
  (k_with "call type:bytes" => (k_here; (with_reducible show wpAny _ _ (call (Value.type "bytes") [Value.ref _]) _ _ _); k_dflt (refine' bo_bytes ?g ?z1 ?_; (case g => exact News.get (by k_asm) (by k_mem)); (case z1 => walk_at "sz"); k_whole); intro _ _))
  (k_with "pyIter bytes" => (k_here; (with_reducible show wpAny _ _ (pyIter (Value.bytes (List.toArray _) _)) (CompPost _ _ _ _ _ _ _ _ _) _ _); k_dflt (refine' comp_row ?hh ?F ?N ?hk ?hl ?hd ?hz ?_; (case hh => exact rfl); (case F => k_asm); (case N => k_asm); (case hk => exact rfl); (case hl => intro _; exact rfl); (case hd => decide); (case hz => walk_at "sz"); k_whole); intro D' ys' h' tk' F' N' lI' iI'; (try k_sweep)))
  (k_with "call type:bytes" => (k_here; (with_reducible show wpAny _ _ (call (Value.type "bytes") [Value.ref _]) _ _ _); (with_reducible rename IntsAre _ (rowOf _) => rI); k_dflt (refine' row_bytes ?F ?N ?hh ?hl rI ?hz ?_; (case F => k_asm); (case N => k_asm); (case hh => exact rfl); (case hl => assumption); (case hz => walk_at "sz"); k_whole); intro h' _ _ F' N'; (try k_sweep)))
  first | walk1 | trivial
section
/-! ## plain maths: what the masks do to the octets -/
theorem xorL_append {a b c d : List UInt8} (h : a.length = c.length) : xorL (a ++ b) (c ++ d) = xorL a c ++ xorL b d := by
  unfold xorL
  exact List.zipWith_append h
theorem xorL_zeros : ∀ (n : Nat) (a : List UInt8), a.length = n → xorL a (List.replicate n 0) = a
  | 0, a, h => by rw [List.length_eq_zero_iff.mp h]; rfl
  | n + 1, [], h => by cases h
  | n + 1, x :: a, h => by
    have := xorL_zeros n a (by simpa using h)
    unfold xorL at this ⊢
    rw [List.replicate_succ, List.zipWith_cons_cons, this, UInt8.xor_zero]
theorem valB_zeros : ∀ n, valB (List.replicate n 0) = 0
  | 0 => rfl
  | n + 1 => by
    rw [List.replicate_succ', valB_snoc, valB_zeros n]; rfl
theorem valB_zeros_left (n : Nat) (a : List UInt8) : valB (List.replicate n 0 ++ a) = valB a := by
  rw [valB_append, valB_zeros, Nat.zero_mul, Nat.zero_add]
theorem valB_zeros_right (n : Nat) (a : List UInt8) : valB (a ++ List.replicate n 0) = valB a * 256 ^ n := by
  rw [valB_append, valB_zeros, List.length_replicate, Nat.add_zero]
theorem xorAt_length (xs : List UInt8) (i : Nat) (v : UInt8) : (xorAt xs i v).length = xs.length := List.length_set ..
theorem xorAt_split {a b : List UInt8} {x v : UInt8} {i : Nat} (h : a.length = i) : xorAt (a ++ x :: b) i v = a ++ (x ^^^ v) :: b := by
  subst h
  unfold xorAt
  rw [List.set_append_right _ _ (Nat.le_refl _), Nat.sub_self, List.set_cons_zero, List.getD_eq_getElem?_getD, List.getElem?_append_right (Nat.le_refl _), Nat.sub_self]
  rfl
theorem getD_take {M : List UInt8} {i n : Nat} (h : i < n) : (M.take n).getD i 0 = M.getD i 0 := by
  rw [List.getD_eq_getElem?_getD, List.getD_eq_getElem?_getD, List.getElem?_take_of_lt h]
/-- a stretch of octets turned, as one list -/
theorem turnN_split (M : List UInt8) {a b : List UInt8} {off : Nat} (ha : a.length = off) : ∀ (k : Nat) (u : List UInt8), u.length = k → k + 1 ≤ M.length →
    turnN M off k (a ++ u ++ b) = a ++ xorL u ((M.drop 1).take k) ++ b := by
  intro k
  induction k generalizing b with
  | zero => intro u hu _; rw [List.length_eq_zero_iff.mp hu]; rfl
  | succ k ih =>
    intro u hu hM
    obtain ⟨u, y, rfl, hl⟩ := snoc_of hu
    have e : a ++ (u ++ [y]) ++ b = a ++ u ++ (y :: b) := by simp only [List.append_assoc, List.cons_append, List.nil_append]
    rw [turnN, e, ih u hl (by (first | lia | omega))]
    have hd : ((M.drop 1).take k).length = k := by rw [List.length_take, List.length_drop]; (first | lia | omega)
    rw [xorAt_split (by rw [List.length_append, xorL_length (by rw [hl, hd]), ha, hl])]
    have ht : (M.drop 1).take (k + 1) = (M.drop 1).take k ++ [M.getD (1 + k) 0] := by
      rw [List.take_add_one, List.getElem?_drop, List.getD_eq_getElem?_getD, List.getElem?_eq_getElem (by (first | lia | omega))]
      rfl
    rw [ht, xorL_append (by rw [hl, hd])]
    simp only [xorL, List.zipWith_cons_cons, List.zipWith_nil_left, List.append_assoc, List.cons_append, List.nil_append]
theorem headL_cons (M r : List UInt8) (x : UInt8) : headL M (x :: r) = (x ^^^ lowOf x (M.getD 0 0)) :: r := rfl
theorem head_drop {xs : List UInt8} (h : 0 < xs.length) : xs = xs.getD 0 0 :: xs.drop 1 := by
  cases xs with
  | nil => cases h
  | cons x r => rfl
theorem cut_split (xs : List UInt8) (o k : Nat) : xs = xs.take o ++ (xs.drop o).take k ++ xs.drop (o + k) := by
  rw [List.append_assoc, ← List.drop_drop, List.take_append_drop, List.take_append_drop]
theorem xorL_xorL : ∀ (n : Nat) (a b : List UInt8), a.length = n → b.length = n → xorL (xorL a b) b = a
  | 0, a, b, h, _ => by rw [List.length_eq_zero_iff.mp h]; rfl
  | n + 1, [], _, h, _ => by cases h
  | n + 1, _ :: _, [], _, h => by cases h
  | n + 1, x :: a, y :: b, h, h' => by
    have := xorL_xorL n a b (by simpa using h) (by simpa using h')
    unfold xorL at this ⊢
    simp only [List.zipWith_cons_cons]
    rw [this, UInt8.xor_assoc, UInt8.xor_self, UInt8.xor_zero]
/-- the packet turned, as one number -/
theorem turned_eq {xs M : List UInt8} {o k : Nat} (ho : 1 ≤ o) (hk : o + k ≤ xs.length) (hM : k + 1 ≤ M.length) :
    toB xs.length (turnW xs M (lowOf (xs.getD 0 0) (M.getD 0 0)) o k) = turnN M o k (headL M xs) := by
  have hl : (turnN M o k (headL M xs)).length = xs.length := by rw [turnN_length]; exact xorAt_length ..
  rw [← toB_valB _ _ hl]
  congr 1
  generalize hlw : lowOf (xs.getD 0 0) (M.getD 0 0) = lw
  have hx := head_drop (xs := xs) (by (first | lia | omega))
  generalize hx0 : xs.getD 0 0 = x0 at hx hlw
  generalize hxr : xs.drop 1 = r at hx
  have hrl : r.length = xs.length - 1 := by rw [← hxr, List.length_drop]
  have hhead : headL M xs = xorL xs (lw :: List.replicate r.length 0) := by
    rw [hx, headL_cons, hlw]
    show _ = (x0 ^^^ lw) :: xorL r (List.replicate r.length 0)
    rw [xorL_zeros _ _ rfl]
  have hhl : (headL M xs).length = xs.length := xorAt_length ..
  have hsp := cut_split (headL M xs) o k
  have hA : ((M.drop 1).take k).length = k := by rw [List.length_take, List.length_drop]; (first | lia | omega)
  have hu : (((headL M xs).drop o).take k).length = k := by rw [List.length_take, List.length_drop, hhl]; (first | lia | omega)
  have hto : ((headL M xs).take o).length = o := by rw [List.length_take, hhl]; (first | lia | omega)
  have hdo : ((headL M xs).drop (o + k)).length = xs.length - o - k := by rw [List.length_drop, hhl]; (first | lia | omega)
  have e1 : turnN M o k (headL M xs) = xorL (headL M xs) (List.replicate o 0 ++ (M.drop 1).take k ++ List.replicate (xs.length - o - k) 0) := by
    generalize hA1 : (headL M xs).take o = p1 at hsp hto
    generalize hA2 : ((headL M xs).drop o).take k = p2 at hsp hu
    generalize hA3 : (headL M xs).drop (o + k) = p3 at hsp hdo
    rw [hsp, turnN_split M hto k p2 hu hM, xorL_append (by rw [List.length_append, List.length_append, List.length_replicate, hto, hu, hA]), xorL_append (by rw [List.length_replicate, hto]), xorL_zeros _ _ hto, xorL_zeros _ _ hdo]
  rw [e1, valB_xor xs.length _ _ hhl (by rw [List.length_append, List.length_append, List.length_replicate, List.length_replicate, hA]; (first | lia | omega)), hhead,
    valB_xor xs.length _ _ rfl (by rw [List.length_cons, List.length_replicate]; (first | lia | omega))]
  rw [show lw :: List.replicate r.length 0 = [lw] ++ List.replicate r.length 0 from rfl, valB_zeros_right, valB_zeros_right, valB_zeros_left, hrl, show valB [lw] = lw.toNat from (Nat.zero_add _ : 0 * 256 + lw.toNat = lw.toNat)]
  rfl
theorem truncN_eq (M c : List UInt8) (off : Nat) : ∀ k, off + k ≤ c.length → truncN M off c k = ((valB (((turnN M off k c).drop off).take k) : Nat) : Int) := by
  intro k
  induction k with
  | zero => intro _; rfl
  | succ k ih =>
    intro h
    rw [truncN, ih (by (first | lia | omega)), sh8, b_or]
    congr 1
    have hlen : (turnN M off k c).length = c.length := turnN_length ..
    have e1 : ((turnN M off (k + 1) c).drop off).take (k + 1) = ((turnN M off k c).drop off).take k ++ [(turnN M off (k + 1) c).getD (off + k) 0] := by
      rw [List.take_add_one, List.getElem?_drop, List.getD_eq_getElem?_getD, List.getElem?_eq_getElem (by rw [turnN_length]; (first | lia | omega))]
      congr 1
      rw [turnN]
      unfold xorAt
      rw [List.drop_set, if_neg (by (first | lia | omega)), List.take_set_of_le (by (first | lia | omega))]
    rw [e1, valB_snoc]
    have hb := UInt8.toNat_lt ((turnN M off (k + 1) c).getD (off + k) 0)
    generalize valB (((turnN M off k c).drop off).take k) = q
    generalize ((turnN M off (k + 1) c).getD (off + k) 0).toNat = b at hb
    rw [Nat.or_comm, show q * 256 = 2 ^ 8 * q by (first | lia | omega), ← Nat.two_pow_add_eq_or_of_lt hb]
theorem hi_same31 : ∀ x : Fin 256, ∀ m : Fin 32, ((x.val ^^^ m.val) &&& 128) = (x.val &&& 128) := by decide +kernel
theorem lowOf_lt (f m : UInt8) : (lowOf f m).toNat < 32 := by
  unfold lowOf
  split
  · rw [UInt8.toNat_and]; exact Nat.lt_of_le_of_lt Nat.and_le_right (by decide)
  · rw [UInt8.toNat_and]; exact Nat.lt_of_le_of_lt Nat.and_le_right (by decide)
theorem lowOf_turn (f m : UInt8) : lowOf (f ^^^ lowOf f m) m = lowOf f m := by
  have h := hi_same31 ⟨f.toNat, f.toNat_lt⟩ ⟨(lowOf f m).toNat, lowOf_lt f m⟩
  dsimp only at h
  have e : Builtin.bitAnd ((f ^^^ lowOf f m).toNat : Int) 128 = Builtin.bitAnd (f.toNat : Int) 128 := by
    rw [ba_128, ba_128, UInt8.toNat_and, UInt8.toNat_xor, UInt8.toNat_and, show (128 : UInt8).toNat = 128 from rfl, h]
  have h2 : lowOf (f ^^^ lowOf f m) m = if Builtin.bitAnd ((f ^^^ lowOf f m).toNat : Int) 128 = 0 then m &&& 31 else m &&& 15 := rfl
  rw [h2, e]
  rfl
/-! ## the packet that the law says: made, and taken back -/
section
variable {f : UInt8} {xs ys ts M : List UInt8} {pl cn : Nat}
theorem pk_form (hy : ys.length = cn) (hp : pl = xs.length + 1) (hM : cn + 1 ≤ M.length) :
    applyL M ([f] ++ xs ++ ys ++ ts) pl cn = ((f ^^^ lowOf f (M.getD 0 0)) :: xs) ++ xorL ys ((M.drop 1).take cn) ++ ts := by
  unfold applyL
  rw [show [f] ++ xs ++ ys ++ ts = f :: (xs ++ ys ++ ts) from rfl, headL_cons]
  exact turnN_split (a := (f ^^^ lowOf f (M.getD 0 0)) :: xs) M (by rw [List.length_cons, hp]) cn ys hy hM
theorem due_form (hy : ys.length = cn) (hp : pl = xs.length + 1) (hM : cn + 1 ≤ M.length) :
    dueL f (lowOf f (M.getD 0 0)) ([f] ++ xs ++ ys) M ts pl cn = ((f ^^^ lowOf f (M.getD 0 0)) :: xs) ++ xorL ys ((M.drop 1).take cn) ++ ts := by
  have hA : ((M.drop 1).take cn).length = cn := by rw [List.length_take, List.length_drop]; (first | lia | omega)
  have e1 : (([f] ++ xs ++ ys).drop 1).take (pl - 1) = xs := by
    show (xs ++ ys).take (pl - 1) = xs
    rw [hp, Nat.add_sub_cancel, List.take_left']
    rfl
  have e2 : ([f] ++ xs ++ ys).drop pl = ys := by
    rw [hp]
    show (xs ++ ys).drop xs.length = ys
    rw [List.drop_left']
    rfl
  unfold dueL
  rw [e1, e2, ← valB_xor cn _ _ hy hA, toB_valB _ _ (by rw [xorL_length (by rw [hy, hA]), hy])]
  rfl
theorem due_is (hy : ys.length = cn) (hp : pl = xs.length + 1) (hM : cn + 1 ≤ M.length) :
    applyL M ([f] ++ xs ++ ys ++ ts) pl cn = dueL f (lowOf f (M.getD 0 0)) ([f] ++ xs ++ ys) M ts pl cn := (pk_form hy hp hM).trans (due_form hy hp hM).symm
theorem back_form (hy : ys.length = cn) (hp : pl = xs.length + 1) (hM : cn + 1 ≤ M.length) (hk : cn = pnN f) :
    ∀ c k, c = headL M (((f ^^^ lowOf f (M.getD 0 0)) :: xs) ++ xorL ys ((M.drop 1).take cn) ++ ts) → k = pnN (c.getD 0 0) →
      (turnN M pl k c).take (pl + k) = [f] ++ xs ++ ys ∧ truncN M pl c k = ((valB (([f] ++ xs ++ ys).drop pl) : Nat) : Int) := by
  intro c k hc hkk
  have hA : ((M.drop 1).take cn).length = cn := by rw [List.length_take, List.length_drop]; (first | lia | omega)
  have hc' : c = (f :: xs) ++ xorL ys ((M.drop 1).take cn) ++ ts := by
    rw [hc]
    show headL M ((f ^^^ lowOf f (M.getD 0 0)) :: (xs ++ xorL ys ((M.drop 1).take cn) ++ ts)) = _
    rw [headL_cons, lowOf_turn, UInt8.xor_assoc, UInt8.xor_self, UInt8.xor_zero]
    rfl
  have hk2 : k = cn := by
    rw [hkk, hc', hk]
    rfl
  subst hk2
  have hxl : (xorL ys ((M.drop 1).take k)).length = k := by rw [xorL_length (by rw [hy, hA]), hy]
  have ht : turnN M pl k c = (f :: xs) ++ ys ++ ts := by
    rw [hc', turnN_split (a := f :: xs) M (by rw [List.length_cons, hp]) k _ hxl hM, xorL_xorL k _ _ hy hA]
  refine ⟨?_, ?_⟩
  · rw [ht, List.take_left' (by rw [List.length_append, List.length_cons, hy, hp])]
    rfl
  · rw [truncN_eq _ _ _ _ (by rw [hc', List.length_append, List.length_append, List.length_cons, hxl, hp]; (first | lia | omega)), ht]
    congr 2
    rw [hp]
    show ((xs ++ ys ++ ts).drop xs.length).take k = (xs ++ ys).drop xs.length
    rw [List.append_assoc, List.drop_left' rfl, List.drop_left' rfl, List.take_left' hy]
theorem sample_same {hs : List UInt8} {pl cn : Nat} (hl : hs.length = pl + cn) (hc : cn ≤ 4) : (hs ++ ts).drop (pl + 4) = ts.drop (4 - cn) := by
  rw [List.drop_append, List.drop_of_length_le (by (first | lia | omega)), List.nil_append]
  congr 1
  (first | lia | omega)
end
theorem told_is {pk M c : List UInt8} {o : Int} {k : Nat} (ho0 : 1 ≤ o) (ho1 : o + 20 ≤ pk.length) (hM : 5 ≤ M.length) (hc : c = headL M pk) (hk : k = pnN (c.getD 0 0)) :
    k = pnN (pk.getD 0 0 ^^^ lowOf (pk.getD 0 0) (M.getD 0 0)) ∧
      (turnN M o.toNat k c).take (o.toNat + k) = (toB pk.length (turnW pk M (lowOf (pk.getD 0 0) (M.getD 0 0)) o.toNat k)).take (o.toNat + k) ∧
      truncN M o.toNat c k = ((valB (cutB (toB pk.length (turnW pk M (lowOf (pk.getD 0 0) (M.getD 0 0)) o.toNat k)) o (o + (k : Int))) : Nat) : Int) := by
  have hk4 := pnN_le (c.getD 0 0)
  rw [← hk] at hk4
  have hcl : c.length = pk.length := by rw [hc]; exact xorAt_length ..
  have h0 : c.getD 0 0 = pk.getD 0 0 ^^^ lowOf (pk.getD 0 0) (M.getD 0 0) := by
    rw [hc]
    have hx := head_drop (xs := pk) (by (first | lia | omega))
    generalize pk.getD 0 0 = x0 at hx
    rw [hx]
    rfl
  have e := turned_eq (xs := pk) (M := M) (o := o.toNat) (k := k) (by (first | lia | omega)) (by (first | lia | omega)) (by (first | lia | omega))
  rw [e, ← hc]
  refine ⟨by rw [hk, h0], rfl, ?_⟩
  rw [truncN_eq _ _ _ _ (by rw [hcl]; (first | lia | omega))]
  congr 2
  unfold cutB
  rw [show (o + (k : Int)).toNat - o.toNat = k by (first | lia | omega)]
end

theorem lines_C29 : True := by
  w_top off
  k_with_none
  (k_with "sz" => (first | (first | lia | omega) | (simp only [List.length_append, List.length_cons, List.length_nil, List.length_take, List.length_drop, List.length_map, List.length_set, List.length_replicate, toB_length, cutB_length]; (first | lia | omega))))
  (k_with "dp" => ((try simp only [depth_mark, depth_under_make, depth_under_kw, depth_in1, depth_deeper, depth_caller]); (try dsimp only [ktrTop]); (first | lia | omega)))
  (k_with "k_room" => ((try simp only [depth_mark, depth_under_make, depth_under_kw, depth_in1, depth_deeper, depth_caller]); simp only [recursionLimit]; (first | lia | omega)))
  (k_with "cell_enter" => (refine' enterF ?k1 ?k2 ?k3 ?k4 ?k5 ?kA ?kF ?kK ?k6 ?k7 ?k8 ?k9 ?kB ?_ ?c2 ?c3 ?c4 ?c5; (case kA => exact rfl); (case kF => exact rfl); (case kK => assumption); (case k1 => k_asm); (case k2 => k_asm); (case k3 => k_asm); (case k4 => k_asm); (case k5 => k_asm); (case k6 => k_is); (case k7 => k_is); (case k8 => ktr_room); (case k9 => exact BindsTo.of_eq rfl); (case c5 => decide); (case kB => exact locs rfl); (case c2 => exact rfl); (case c3 => exact rfl); (case c4 => exact rfl); k_whole; intro g' L' h' HG' F' N' B' X' T'; (try dsimp only)))
  (k_with "cell_enterP" => (refine' enterP ?k1 ?k2 ?k3 ?k4 ?k5 ?kA ?kF ?kK ?k6 ?k7 ?k8 ?k9 ?kB ?_ ?c2 ?c3 ?c4 ?c5; (case kA => exact rfl); (case kF => exact rfl); (case kK => assumption); (case k1 => k_asm); (case k2 => k_asm); (case k3 => k_asm); (case k4 => k_asm); (case k5 => k_asm); (case k6 => k_is); (case k7 => k_is); (case k8 => ktr_room); (case k9 => exact BindsTo.of_eq rfl); (case c5 => decide); (case kB => exact locs rfl); (case c2 => exact rfl); (case c3 => exact rfl); (case c4 => exact rfl); k_whole; intro g' L' h' HG' F' N' B' X' T'; (try dsimp only)))
  (k_with "binaryOp Add bytes bytes" => (k_here; (with_reducible show wpAny _ _ (binaryOp Operator.Add (Value.bytes (List.toArray _) _) (Value.bytes (List.toArray _) _)) _ _ _); k_dflt (refine' br_add ?z1 ?z2 ?_; (case z1 => walk_at "sz"); (case z2 => walk_at "sz"); k_whole); intro _ _))
  (k_with "call builtin:len" => (k_here; (with_reducible show wpAny _ _ (call (Value.builtin "len") [Value.bytes (List.toArray _) _]) _ _ _); k_dflt (refine' br_len ?z1 ?_; (case z1 => walk_at "sz"); k_whole); intro _ _))
  (k_with "subscriptTail" => (k_here; (with_reducible show wpAny _ _ (subscriptTail _ _ (Value.bytes (List.toArray _) _) (Value.int _ _)) _ _ _); k_dflt (refine' br_item ?z1 ?z2 ?z3 ?_; (case z1 => walk_at "sz"); (case z2 => walk_at "sz"); (case z3 => walk_at "sz"); k_whole); intro _ _))
  (k_with "subscriptTail" => (k_here; (with_reducible show wpAny _ _ (subscriptTail _ (Expr.Slice (some _) (some _) none _) (Value.bytes (List.toArray _) _) (Value.ref _)) _ _ _); (with_reducible rename Fr _ _ _ _ => F'); (with_reducible rename News _ _ _ _ => N'); k_dflt (refine' br_cut (s := ⟨_, _, _, _, _⟩) F' N' ?z1 ?z2 ?z3 ?_; (case z1 => walk_at "sz"); (case z2 => walk_at "sz"); (case z3 => walk_at "sz"); k_whole); intro h' _ _ F' N'; (try k_sweep)))
  (k_with "subscriptTail" => (k_here; (with_reducible show wpAny _ _ (subscriptTail _ (Expr.Slice (some _) none none _) (Value.bytes (List.toArray _) _) (Value.ref _)) _ _ _); (with_reducible rename Fr _ _ _ _ => F'); (with_reducible rename News _ _ _ _ => N'); k_dflt (refine' br_cutFrom (s := ⟨_, _, _, _, _⟩) F' N' ?z1 ?z2 ?_; (case z1 => walk_at "sz"); (case z2 => walk_at "sz"); k_whole); intro h' _ _ F' N'; (try k_sweep)))
  (k_with "subscriptTail" => (k_here; (with_reducible show wpAny _ _ (subscriptTail _ (Expr.Slice none (some _) none _) (Value.bytes (List.toArray _) _) (Value.ref _)) _ _ _); (with_reducible rename Fr _ _ _ _ => F'); (with_reducible rename News _ _ _ _ => N'); k_dflt (refine' br_cutTo (s := ⟨_, _, _, _, _⟩) F' N' ?z1 ?z2 ?_; (case z1 => walk_at "sz"); (case z2 => walk_at "sz"); k_whole); intro h' _ _ F' N'; (try k_sweep)))
  (k_with "subscriptTail" => (k_here; (with_reducible show wpAny _ _ (subscriptTail _ _ (Value.ref _) (Value.int _ _)) _ _ _); k_dflt (refine' bo_tail ?g ?z1 ?z2 ?z3 ?_; (case g => exact News.get (by k_asm) (by k_mem)); (case z1 => walk_at "sz"); (case z2 => walk_at "sz"); (case z3 => walk_at "sz"); k_whole); intro _ _))
  (k_with "subscriptTail" => (k_here; (with_reducible show wpAny _ _ (subscriptTail _ (Expr.Slice none (some _) none _) (Value.ref _) (Value.ref _)) _ _ _); (with_reducible rename Fr _ _ _ _ => F'); (with_reducible rename News _ _ _ _ => N'); k_dflt (refine' bo_cutTo (s := ⟨_, _, _, _, _⟩) F' N' ?m ?z1 ?z2 ?_; (case m => k_mem); (case z1 => walk_at "sz"); (case z2 => walk_at "sz"); k_whole); intro h' x' F' N' l1; (try k_lt l1); (try k_sweep)))
  (k_with "getItem ref int" => (k_here; k_dflt (refine' bo_getItem ?g ?z1 ?z2 ?z3 ?_; (case g => exact News.get (by k_asm) (by k_mem)); (case z1 => walk_at "sz"); (case z2 => walk_at "sz"); (case z3 => walk_at "sz"); k_whole); intro _ _))
  (k_with "setItem ref int" => (k_here; (with_reducible show wpAny _ _ (setItem (Value.ref _) (Value.int _ _) (Value.int _ _)) _ _ _); k_dflt (refine' bo_setItemK ?F ?N ?U ?z1 ?z2 ?z3 ?z4 ?z5 ?_; (case F => k_asm); (case N => k_asm); (case U => k_upd); (case z1 => walk_at "sz"); (case z2 => walk_at "sz"); (case z3 => walk_at "sz"); (case z4 => first | (with_reducible exact bx150 _ _) | (with_reducible exact bx310 _ _) | (with_reducible exact bxu0 _ _) | walk_at "sz"); (case z5 => first | (with_reducible exact bx151 _ _) | (with_reducible exact bx311 _ _) | (with_reducible exact bxu1 _ _) | walk_at "sz"); k_whole); intro h' F' N'; (try k_sweep)))
  (k_with "compareOp Eq bytes bytes" => (k_here; (with_reducible show wpAny _ _ (compareOp CmpOp.Eq (Value.bytes (List.toArray _) _) (Value.bytes (List.toArray _) _)) _ _ _); k_dflt (refine br_eq ?_)))
  (k_with "compareOp NotEq bytes bytes" => (k_here; (with_reducible show wpAny _ _ (compareOp CmpOp.NotEq (Value.bytes (List.toArray _) _) (Value.bytes (List.toArray _) _)) _ _ _); k_dflt (refine br_ne ?_)))
  (k_with "call builtin:int.to_bytes" => (k_here; (with_reducible show wpAny _ _ (call (Value.builtin "int.to_bytes") [Value.int _ _, Value.int _ _, Value.str _ _]) _ _ _); k_dflt (refine' br_to ?z1 ?z2 ?z3 ?z4 ?_; (case z1 => walk_at "sz"); (case z2 => walk_at "sz"); (case z3 => first | assumption | walk_at "sz" | exact Int.fmod_nonneg_of_pos _ (by decide)); (case z4 => first | assumption | walk_at "sz" | exact Int.lt_of_lt_of_le (Int.fmod_lt_of_pos _ (by decide)) (by decide)); k_whole); intro _ _))
  (k_with "call ref" => (k_here; (with_reducible show wpAny _ _ (call (Value.ref _) [Value.bytes (List.toArray _) _, Value.str _ _]) _ _ _); kfb_any; k_dflt (refine br_from (by k_asm) (by k_mem) ?z1 ?_; (case z1 => walk_at "sz")); intro _ _))
  (k_with "call type:bytes" => (k_here; (with_reducible show wpAny _ _ (call (Value.type "bytes") [Value.ref _]) _ _ _); k_dflt (refine' bo_bytes ?g ?z1 ?_; (case g => exact News.get (by k_asm) (by k_mem)); (case z1 => walk_at "sz"); k_whole); intro _ _))
  (k_with "pyIter bytes" => (k_here; (with_reducible show wpAny _ _ (pyIter (Value.bytes (List.toArray _) _)) (CompPost _ _ _ _ _ _ _ _ _) _ _); k_dflt (refine' comp_row ?hh ?F ?N ?hk ?hl ?hd ?hz ?_; (case hh => exact rfl); (case F => k_asm); (case N => k_asm); (case hk => exact rfl); (case hl => intro _; exact rfl); (case hd => decide); (case hz => walk_at "sz"); k_whole); intro D' ys' h' tk' F' N' lI' iI'; (try k_sweep)))
  (k_with "call type:bytes" => (k_here; (with_reducible show wpAny _ _ (call (Value.type "bytes") [Value.ref _]) _ _ _); (with_reducible rename IntsAre _ (rowOf _) => rI); k_dflt (refine' row_bytes ?F ?N ?hh ?hl rI ?hz ?_; (case F => k_asm); (case N => k_asm); (case hh => exact rfl); (case hl => assumption); (case hz => walk_at "sz"); k_whole); intro h' _ _ F' N'; (try k_sweep)))
  (k_with "eval Name" => (k_here; (with_reducible show wpAny _ _ (eval (Expr.Name _ _) _) _ _ _); k_dflt (refine' PyProof.Rows.ld ?k1 ?k2 ?_; (case k1 => k_asm); (case k2 => assumption); k_whole)))
  (k_with "call ref" => (k_here; (with_reducible show wpAny _ _ (call (Value.ref 144) [Value.bytes _ _, Value.bytes _ _, Value.bytes _ _]) _ _ _); k_dflt (refine' mask5_spec ?B ?F ?X ?N ?T ?kd ?dp ?z1 ?z2 ?z3 ?_; (case F => k_asm); (case B => k_asm); (case X => k_asm); (case T => k_asm); (case N => exact news_nil (by k_asm)); (case kd => first | exact rfl | assumption); (case dp => walk_at "dp"); (case z1 => walk_at "sz"); (case z2 => walk_at "sz"); (case z3 => walk_at "sz"); k_whole); intro _ _ _ mkK; k_dflt (refine' kept_step0 mkK ?F ?N ?_; (case F => k_asm); (case N => k_asm)); clear mkK; intro F' N'; (try k_sweep)))
  (k_with "call ref" => (k_here; (with_reducible show wpAny _ _ (call (Value.ref 149) [Value.bytes _ _, Value.bytes _ _, Value.bytes _ _]) _ _ _); k_dflt (refine' mask16_spec ?B ?F ?X ?N ?T ?kd ?dp ?z1 ?z2 ?z3 ?_; (case F => k_asm); (case B => k_asm); (case X => k_asm); (case T => k_asm); (case N => exact news_nil (by k_asm)); (case kd => first | exact rfl | assumption); (case dp => walk_at "dp"); (case z1 => walk_at "sz"); (case z2 => walk_at "sz"); (case z3 => walk_at "sz"); k_whole); intro _ _ _ mkK; k_dflt (refine' kept_step0 mkK ?F ?N ?_; (case F => k_asm); (case N => k_asm)); clear mkK; intro F' N'; (try k_sweep)))
  first | walk1 | trivial
section
theorem kept_new {h₀ h h' : Heap} {L : Addr} {m : Str → Option Value} {news : List (Addr × Obj)} {q : Addr × Obj} {P : Prop} (K : Kept [] h h') (D : News h₀ L h' [q]) (F : Fr h₀ L h m) (N : News h₀ L h news) (k : Fr h₀ L h' m → News h₀ L h' (q :: news) → P) : P :=
  k (K.fr F (by simp) (by simp)) fun p hp => by
    rcases List.mem_cons.mp hp with rfl | hp
    · exact D _ (.head _)
    · exact K.news N (by simp) p hp
theorem lines_C29_1 : True := by
  (k_with "call ref" => (k_here; (with_reducible show wpAny _ _ (call (Value.ref 170) [Value.bytes _ _, Value.int _ _, Value.bytes _ _]) _ _ _); k_dflt (refine' turned_spec ?B ?F ?X ?N ?T ?kd ?dp ?z1 ?z2 ?z3 ?z4 ?z5 ?_; (case F => k_asm); (case B => k_asm); (case X => k_asm); (case T => k_asm); (case N => exact news_nil (by k_asm)); (case kd => first | exact rfl | assumption); (case dp => first | walk_at "dp" | decide); (case z1 => (first | lia | omega)); (case z2 => first | (first | lia | omega) | assumption); (case z3 => first | (first | lia | omega) | assumption); (case z4 => (first | lia | omega)); (case z5 => (first | lia | omega)); k_whole); intro _ _ _ _ _ _ tnE tnK tnN; k_dflt (refine' kept_new tnK tnN ?F ?N ?_; (case F => k_asm); (case N => k_asm)); clear tnK tnN; intro F' N'))
  trivial

section
variable {prog p : Program} {w : World} {loose : List Str} {mean : ExcName → Option Value} {mg mb : Str → Option Value} {G : Heap} {L a c : Addr} {m : Str → Option Value} {rest : List (Addr × Obj)}
  {s : Shared} {Q : Flow → Shared → Prop} {pk nm ky zs M ws : List UInt8} {t1 t2 t3 t4 t5 t6 t7 : Tok} {o i : Int} {TD : Addr} {wide : Bool} {k : Nat}
set_option maxHeartbeats 2000000 in
theorem told_mask (X : (hd.heap_39 w.params).In G) (T : Top p loose mean mg mb G) (B : Below callerA G [] G) (F : Fr G L s.heap m) (N : News G L s.heap rest)
    (h2 : m (Str.ofString "packet") = some (.bytes pk.toArray t1)) (h3 : m (Str.ofString "other") = some (.int o t2))
    (h5 : m (Str.ofString "wide") = some (.bool wide)) (h6 : m (Str.ofString "name") = some (.bytes nm.toArray t3)) (h7 : m (Str.ofString "key") = some (.bytes ky.toArray t4))
    (hz : pk.length ≤ 200) (hn : nm.length ≤ 100) (hk : ky.length ≤ 100) (ho0 : 1 ≤ o) (ho1 : o + 20 ≤ pk.length)
    (ret : ∀ t h' tk', Fr G L h' (fun y => if y = Str.ofString "mask" then some (.bytes (maskV wide nm ky (cutB pk (o + 4) (o + 20))).toArray t) else m y) → News G L h' rest → Q .next { s with heap := h', toks := tk' }) :
    wpAny (model prog w) (callerA.deeper (envL L)) (exec st_189_5_15_0 (envL L)) Q NoE s := by
  conv in st_189_5_15_0 => whnf
  have hcz : (cutB pk (o + 4) (o + 20)).length ≤ 100 := by rw [cutB_length]; (first | lia | omega)
  cases wide
  · k_steps
    (rename Fr _ _ _ _ => F1)
    (rename News _ _ _ _ => N1)
    exact ret _ _ _ F1 fun q hq => N1 q (by repeat (first | exact hq | refine List.mem_cons_of_mem _ ?_))
  · k_steps
    (rename Fr _ _ _ _ => F1)
    (rename News _ _ _ _ => N1)
    exact ret _ _ _ F1 fun q hq => N1 q (by repeat (first | exact hq | refine List.mem_cons_of_mem _ ?_))
set_option maxHeartbeats 2000000 in
theorem told_turn (X : (hd.heap_39 w.params).In G) (T : Top p loose mean mg mb G) (B : Below callerA G [] G) (F : Fr G L s.heap m) (N : News G L s.heap rest)
    (h2 : m (Str.ofString "packet") = some (.bytes pk.toArray t1)) (h3 : m (Str.ofString "other") = some (.int o t2)) (h4 : m (Str.ofString "mask") = some (.bytes M.toArray t3))
    (hz : pk.length ≤ 200) (hM0 : 5 ≤ M.length) (hM1 : M.length ≤ 16) (ho0 : 1 ≤ o) (ho1 : o + 20 ≤ pk.length)
    (ret : ∀ k t t' h' tk', k = pnN (pk.getD 0 0 ^^^ lowOf (pk.getD 0 0) (M.getD 0 0)) → Fr G L h' (fun y => if y = Str.ofString "count" then some (.int (k : Int) t') else if y = Str.ofString "again" then some (.bytes (toB pk.length (turnW pk M (lowOf (pk.getD 0 0) (M.getD 0 0)) o.toNat k)).toArray t) else m y) → News G L h' rest → Q .next { s with heap := h', toks := tk' }) :
    wpAny (model prog w) (callerA.deeper (envL L)) (exec st_189_5_15_1 (envL L)) Q NoE s := by
  conv in st_189_5_15_1 => whnf
  k_steps
  (rename Fr _ _ _ _ => F1)
  (rename News _ _ _ _ => N1)
  (rename _ = pnN _ => kE)
  exact ret _ _ _ _ _ kE F1 fun q hq => N1 q (.tail _ hq)
theorem lines_C29_2 : True := by
  (k_with "compareOp NotEq ref ref" => (k_here; (with_reducible show wpAny _ _ (compareOp CmpOp.NotEq (Value.ref _) (Value.ref _)) _ _ _); k_dflt (refine' ne_two ?N ?a ?b ?u ?_; (case N => k_asm); (case a => k_mem); (case b => k_mem); (case u => exact units_law); k_whole)))
  trivial
set_option maxHeartbeats 2000000 in
theorem told_if (X : (hd.heap_39 w.params).In G) (T : Top p loose mean mg mb G) (B : Below callerA G [] G) (F : Fr G L s.heap m) (N : News G L s.heap ((TD, tupN [.bytes zs.toArray t5, .int i t6]) :: rest))
    (h1 : m (Str.ofString "again") = some (.bytes ws.toArray t1)) (h2 : m (Str.ofString "count") = some (.int (k : Int) t2)) (h3 : m (Str.ofString "other") = some (.int o t3)) (h4 : m (Str.ofString "told") = some (.ref TD))
    (hz : ws.length ≤ 200) (hk : k ≤ 4) (ho0 : 1 ≤ o) (ho1 : o + 20 ≤ ws.length) (e1 : zs = ws.take (o.toNat + k)) (e2 : i = ((valB (cutB ws o (o + (k : Int))) : Nat) : Int))
    (ret : ∀ h' tk', Fr G L h' m → News G L h' rest → Q .next { s with heap := h', toks := tk' }) :
    wpAny (model prog w) (callerA.deeper (envL L)) (exec st_189_5_15_2 (envL L)) Q NoE s := by
  conv in st_189_5_15_2 => whnf
  k_steps
  · (rename Fr _ _ _ _ => F1)
    (rename News _ _ _ _ => N1)
    exact ret _ _ F1 fun q hq => N1 q (by repeat (first | exact hq | refine List.mem_cons_of_mem _ ?_))
  · rename ¬ (_ = _) => hne
    exact absurd (by rw [e1, e2, show o.toNat + k = (o + (k : Int)).toNat by (first | lia | omega)]) hne
end
theorem if_any {M : Model} {A : Around} {E : Value → Shared → Prop} {s : Shared} {env : Env} {test : Expr} {body orelse : List Stmt} {pos : Pos} {Q : Flow → Shared → Prop}
    (h : wpAny M A (isTrue test env (eval test env)) (fun b s₂ => if b then wpAny M A (execs body env) Q E s₂ else wpAny M A (execs orelse env) Q E s₂) E s) :
    wpAny M A (exec (.If test body orelse pos) env) Q E s := by
  rw [exec_If]
  refine wpAny_bind (wpAny_standAt (wpAny_bind (wpAny_mono h (fun b s₂ h₂ => ?_) fun _ _ x => x)))
  cases b <;> exact h₂
section
variable {prog p : Program} {w : World} {loose : List Str} {mean : ExcName → Option Value} {mg mb : Str → Option Value} {G : Heap} {L a c : Addr} {m : Str → Option Value} {rest : List (Addr × Obj)}
  {s : Shared} {Q : Flow → Shared → Prop} {pk nm ky zs : List UInt8} {t1 t2 t3 t4 t5 t6 : Tok} {o i : Int} {TD : Addr} {wide : Bool}
theorem fits_true {px : Pos} {Q : Bool → Shared → Prop} (X : (hd.heap_39 w.params).In G) (T : Top p loose mean mg mb G) (B : Below callerA G [] G) (F : Fr G L s.heap m) (N : News G L s.heap rest) (h1 : m (Str.ofString "fits") = some (.bool true))
    (ret : ∀ h' tk', Fr G L h' m → News G L h' rest → Q true { s with heap := h', toks := tk' }) : wpAny (model prog w) (callerA.deeper (envL L)) (isTrue (.Name (Str.ofString "fits") px) (envL L) (eval (.Name (Str.ofString "fits") px) (envL L))) Q NoE s := by
  k_steps
  exact ret _ _ F N
set_option maxHeartbeats 1000000 in
theorem law_told (X : (hd.heap_39 w.params).In G) (T : Top p loose mean mg mb G) (B : Below callerA G [] G) (F : Fr G L s.heap m) (N : News G L s.heap ((TD, tupN [.bytes zs.toArray t5, .int i t6]) :: rest))
    (h1 : m (Str.ofString "fits") = some (.bool true)) (h2 : m (Str.ofString "packet") = some (.bytes pk.toArray t1)) (h3 : m (Str.ofString "other") = some (.int o t2)) (h4 : m (Str.ofString "told") = some (.ref TD))
    (h5 : m (Str.ofString "wide") = some (.bool wide)) (h6 : m (Str.ofString "name") = some (.bytes nm.toArray t3)) (h7 : m (Str.ofString "key") = some (.bytes ky.toArray t4))
    (hz : pk.length ≤ 200) (hn : nm.length ≤ 100) (hk : ky.length ≤ 100) (ho0 : 1 ≤ o) (ho1 : o + 20 ≤ pk.length)
    (told : ∀ M k, M = maskV wide nm ky (cutB pk (o + 4) (o + 20)) → k = pnN (pk.getD 0 0 ^^^ lowOf (pk.getD 0 0) (M.getD 0 0)) → zs = (toB pk.length (turnW pk M (lowOf (pk.getD 0 0) (M.getD 0 0)) o.toNat k)).take (o.toNat + k) ∧ i = ((valB (cutB (toB pk.length (turnW pk M (lowOf (pk.getD 0 0) (M.getD 0 0)) o.toNat k)) o (o + (k : Int))) : Nat) : Int))
    (ret : ∀ h' tk' m', Fr G L h' m' → (∀ y, y ≠ Str.ofString "mask" → y ≠ Str.ofString "again" → y ≠ Str.ofString "count" → m' y = m y) → News G L h' rest → Q .next { s with heap := h', toks := tk' }) :
    wpAny (model prog w) (callerA.deeper (envL L)) (exec st_189_5_15 (envL L)) Q NoE s := by
  conv in st_189_5_15 => whnf
  refine if_any ?_
  refine fits_true X T B F N h1 fun h0 k0 F0 N0 => ?_
  show wpAny _ _ (execs [st_189_5_15_0, st_189_5_15_1, st_189_5_15_2] (envL L)) Q NoE _
  have hml := maskV_length wide nm ky (cutB pk (o + 4) (o + 20))
  refine cons_any (told_mask X T B F0 N0 h2 h3 h5 h6 h7 hz hn hk ho0 ho1 ?_)
  intro tm h8 k8 F8 N8
  generalize hM : maskV wide nm ky (cutB pk (o + 4) (o + 20)) = M at F8 hml
  show wpAny _ _ (execs _ _) Q NoE _
  refine cons_any (told_turn X T B F8 N8 ((if_neg (by decide)).trans h2) ((if_neg (by decide)).trans h3) (if_pos rfl) hz hml.1 hml.2 ho0 ho1 ?_)
  intro k t t' h9 k9 hkk F9 N9
  have hk4 := pnN_le (pk.getD 0 0 ^^^ lowOf (pk.getD 0 0) (M.getD 0 0))
  rw [← hkk] at hk4
  obtain ⟨e1, e2⟩ := told M k hM.symm hkk
  have hwl := toB_length pk.length (turnW pk M (lowOf (pk.getD 0 0) (M.getD 0 0)) o.toNat k)
  generalize toB pk.length (turnW pk M (lowOf (pk.getD 0 0) (M.getD 0 0)) o.toNat k) = ws at F9 e1 e2 hwl
  show wpAny _ _ (execs _ _) Q NoE _
  refine cons_any (told_if X T B F9 N9 (ws := ws) (k := k) (o := o) ((if_neg (by decide)).trans (if_pos rfl)) (if_pos rfl) ((if_neg (by decide)).trans ((if_neg (by decide)).trans ((if_neg (by decide)).trans h3))) ((if_neg (by decide)).trans ((if_neg (by decide)).trans ((if_neg (by decide)).trans h4))) (by (first | lia | omega)) hk4.2 ho0 (by (first | lia | omega)) e1 e2 ?_)
  intro h10 k10 F10 N10
  show wpAny _ _ (execs _ _) Q NoE _
  refine wpAny_execs_nil (ret _ _ _ F10 (fun y y1 y2 y3 => ?_) N10)
  rw [if_neg y3, if_neg y2, if_neg y1]
end
end

theorem lines_C30 : True := by
  w_top off
  k_with_none
  (k_with "sz" => (first | (first | lia | omega) | (simp only [List.length_append, List.length_cons, List.length_nil, List.length_take, List.length_drop, List.length_map, List.length_set, List.length_replicate, toB_length, cutB_length]; (first | lia | omega))))
  (k_with "dp" => ((try simp only [depth_mark, depth_under_make, depth_under_kw, depth_in1, depth_deeper, depth_caller]); (try dsimp only [ktrTop]); (first | lia | omega)))
  (k_with "k_room" => ((try simp only [depth_mark, depth_under_make, depth_under_kw, depth_in1, depth_deeper, depth_caller]); simp only [recursionLimit]; (first | lia | omega)))
  (k_with "cell_enter" => (refine' enterF ?k1 ?k2 ?k3 ?k4 ?k5 ?kA ?kF ?kK ?k6 ?k7 ?k8 ?k9 ?kB ?_ ?c2 ?c3 ?c4 ?c5; (case kA => exact rfl); (case kF => exact rfl); (case kK => assumption); (case k1 => k_asm); (case k2 => k_asm); (case k3 => k_asm); (case k4 => k_asm); (case k5 => k_asm); (case k6 => k_is); (case k7 => k_is); (case k8 => ktr_room); (case k9 => exact BindsTo.of_eq rfl); (case c5 => decide); (case kB => exact locs rfl); (case c2 => exact rfl); (case c3 => exact rfl); (case c4 => exact rfl); k_whole; intro g' L' h' HG' F' N' B' X' T'; (try dsimp only)))
  (k_with "cell_enterP" => (refine' enterP ?k1 ?k2 ?k3 ?k4 ?k5 ?kA ?kF ?kK ?k6 ?k7 ?k8 ?k9 ?kB ?_ ?c2 ?c3 ?c4 ?c5; (case kA => exact rfl); (case kF => exact rfl); (case kK => assumption); (case k1 => k_asm); (case k2 => k_asm); (case k3 => k_asm); (case k4 => k_asm); (case k5 => k_asm); (case k6 => k_is); (case k7 => k_is); (case k8 => ktr_room); (case k9 => exact BindsTo.of_eq rfl); (case c5 => decide); (case kB => exact locs rfl); (case c2 => exact rfl); (case c3 => exact rfl); (case c4 => exact rfl); k_whole; intro g' L' h' HG' F' N' B' X' T'; (try dsimp only)))
  (k_with "binaryOp Add bytes bytes" => (k_here; (with_reducible show wpAny _ _ (binaryOp Operator.Add (Value.bytes (List.toArray _) _) (Value.bytes (List.toArray _) _)) _ _ _); k_dflt (refine' br_add ?z1 ?z2 ?_; (case z1 => walk_at "sz"); (case z2 => walk_at "sz"); k_whole); intro _ _))
  (k_with "call builtin:len" => (k_here; (with_reducible show wpAny _ _ (call (Value.builtin "len") [Value.bytes (List.toArray _) _]) _ _ _); k_dflt (refine' br_len ?z1 ?_; (case z1 => walk_at "sz"); k_whole); intro _ _))
  (k_with "subscriptTail" => (k_here; (with_reducible show wpAny _ _ (subscriptTail _ _ (Value.bytes (List.toArray _) _) (Value.int _ _)) _ _ _); k_dflt (refine' br_item ?z1 ?z2 ?z3 ?_; (case z1 => walk_at "sz"); (case z2 => walk_at "sz"); (case z3 => walk_at "sz"); k_whole); intro _ _))
  (k_with "subscriptTail" => (k_here; (with_reducible show wpAny _ _ (subscriptTail _ (Expr.Slice (some _) (some _) none _) (Value.bytes (List.toArray _) _) (Value.ref _)) _ _ _); (with_reducible rename Fr _ _ _ _ => F'); (with_reducible rename News _ _ _ _ => N'); k_dflt (refine' br_cut (s := ⟨_, _, _, _, _⟩) F' N' ?z1 ?z2 ?z3 ?_; (case z1 => walk_at "sz"); (case z2 => walk_at "sz"); (case z3 => walk_at "sz"); k_whole); intro h' _ _ F' N'; (try k_sweep)))
  (k_with "subscriptTail" => (k_here; (with_reducible show wpAny _ _ (subscriptTail _ (Expr.Slice (some _) none none _) (Value.bytes (List.toArray _) _) (Value.ref _)) _ _ _); (with_reducible rename Fr _ _ _ _ => F'); (with_reducible rename News _ _ _ _ => N'); k_dflt (refine' br_cutFrom (s := ⟨_, _, _, _, _⟩) F' N' ?z1 ?z2 ?_; (case z1 => walk_at "sz"); (case z2 => walk_at "sz"); k_whole); intro h' _ _ F' N'; (try k_sweep)))
  (k_with "subscriptTail" => (k_here; (with_reducible show wpAny _ _ (subscriptTail _ (Expr.Slice none (some _) none _) (Value.bytes (List.toArray _) _) (Value.ref _)) _ _ _); (with_reducible rename Fr _ _ _ _ => F'); (with_reducible rename News _ _ _ _ => N'); k_dflt (refine' br_cutTo (s := ⟨_, _, _, _, _⟩) F' N' ?z1 ?z2 ?_; (case z1 => walk_at "sz"); (case z2 => walk_at "sz"); k_whole); intro h' _ _ F' N'; (try k_sweep)))
  (k_with "subscriptTail" => (k_here; (with_reducible show wpAny _ _ (subscriptTail _ _ (Value.ref _) (Value.int _ _)) _ _ _); k_dflt (refine' bo_tail ?g ?z1 ?z2 ?z3 ?_; (case g => exact News.get (by k_asm) (by k_mem)); (case z1 => walk_at "sz"); (case z2 => walk_at "sz"); (case z3 => walk_at "sz"); k_whole); intro _ _))
  (k_with "subscriptTail" => (k_here; (with_reducible show wpAny _ _ (subscriptTail _ (Expr.Slice none (some _) none _) (Value.ref _) (Value.ref _)) _ _ _); (with_reducible rename Fr _ _ _ _ => F'); (with_reducible rename News _ _ _ _ => N'); k_dflt (refine' bo_cutTo (s := ⟨_, _, _, _, _⟩) F' N' ?m ?z1 ?z2 ?_; (case m => k_mem); (case z1 => walk_at "sz"); (case z2 => walk_at "sz"); k_whole); intro h' x' F' N' l1; (try k_lt l1); (try k_sweep)))
  (k_with "getItem ref int" => (k_here; k_dflt (refine' bo_getItem ?g ?z1 ?z2 ?z3 ?_; (case g => exact News.get (by k_asm) (by k_mem)); (case z1 => walk_at "sz"); (case z2 => walk_at "sz"); (case z3 => walk_at "sz"); k_whole); intro _ _))
  (k_with "setItem ref int" => (k_here; (with_reducible show wpAny _ _ (setItem (Value.ref _) (Value.int _ _) (Value.int _ _)) _ _ _); k_dflt (refine' bo_setItemK ?F ?N ?U ?z1 ?z2 ?z3 ?z4 ?z5 ?_; (case F => k_asm); (case N => k_asm); (case U => k_upd); (case z1 => walk_at "sz"); (case z2 => walk_at "sz"); (case z3 => walk_at "sz"); (case z4 => first | (with_reducible exact bx150 _ _) | (with_reducible exact bx310 _ _) | (with_reducible exact bxu0 _ _) | walk_at "sz"); (case z5 => first | (with_reducible exact bx151 _ _) | (with_reducible exact bx311 _ _) | (with_reducible exact bxu1 _ _) | walk_at "sz"); k_whole); intro h' F' N'; (try k_sweep)))
  (k_with "compareOp Eq bytes bytes" => (k_here; (with_reducible show wpAny _ _ (compareOp CmpOp.Eq (Value.bytes (List.toArray _) _) (Value.bytes (List.toArray _) _)) _ _ _); k_dflt (refine br_eq ?_)))
  (k_with "compareOp NotEq bytes bytes" => (k_here; (with_reducible show wpAny _ _ (compareOp CmpOp.NotEq (Value.bytes (List.toArray _) _) (Value.bytes (List.toArray _) _)) _ _ _); k_dflt (refine br_ne ?_)))
  (k_with "call builtin:int.to_bytes" => (k_here; (with_reducible show wpAny _ _ (call (Value.builtin "int.to_bytes") [Value.int _ _, Value.int _ _, Value.str _ _]) _ _ _); k_dflt (refine' br_to ?z1 ?z2 ?z3 ?z4 ?_; (case z1 => walk_at "sz"); (case z2 => walk_at "sz"); (case z3 => first | assumption | walk_at "sz" | exact Int.fmod_nonneg_of_pos _ (by decide)); (case z4 => first | assumption | walk_at "sz" | exact Int.lt_of_lt_of_le (Int.fmod_lt_of_pos _ (by decide)) (by decide)); k_whole); intro _ _))
  (k_with "call ref" => (k_here; (with_reducible show wpAny _ _ (call (Value.ref _) [Value.bytes (List.toArray _) _, Value.str _ _]) _ _ _); kfb_any; k_dflt (refine br_from (by k_asm) (by k_mem) ?z1 ?_; (case z1 => walk_at "sz")); intro _ _))
  (k_with "call type:bytes" => (k_here; (with_reducible show wpAny _ _ (call (Value.type "bytes") [Value.ref _]) _ _ _); k_dflt (refine' bo_bytes ?g ?z1 ?_; (case g => exact News.get (by k_asm) (by k_mem)); (case z1 => walk_at "sz"); k_whole); intro _ _))
  (k_with "pyIter bytes" => (k_here; (with_reducible show wpAny _ _ (pyIter (Value.bytes (List.toArray _) _)) (CompPost _ _ _ _ _ _ _ _ _) _ _); k_dflt (refine' comp_row ?hh ?F ?N ?hk ?hl ?hd ?hz ?_; (case hh => exact rfl); (case F => k_asm); (case N => k_asm); (case hk => exact rfl); (case hl => intro _; exact rfl); (case hd => decide); (case hz => walk_at "sz"); k_whole); intro D' ys' h' tk' F' N' lI' iI'; (try k_sweep)))
  (k_with "call type:bytes" => (k_here; (with_reducible show wpAny _ _ (call (Value.type "bytes") [Value.ref _]) _ _ _); (with_reducible rename IntsAre _ (rowOf _) => rI); k_dflt (refine' row_bytes ?F ?N ?hh ?hl rI ?hz ?_; (case F => k_asm); (case N => k_asm); (case hh => exact rfl); (case hl => assumption); (case hz => walk_at "sz"); k_whole); intro h' _ _ F' N'; (try k_sweep)))
  (k_with "eval Name" => (k_here; (with_reducible show wpAny _ _ (eval (Expr.Name _ _) _) _ _ _); k_dflt (refine' PyProof.Rows.ld ?k1 ?k2 ?_; (case k1 => k_asm); (case k2 => assumption); k_whole)))
  first | walk1 | trivial
section
section
variable {prog p : Program} {w : World} {loose : List Str} {mean : ExcName → Option Value} {mg mb : Str → Option Value} {G : Heap} {L a c : Addr} {m : Str → Option Value} {rest : List (Addr × Obj)}
  {s : Shared} {Q : Flow → Shared → Prop} {pk nm ky : List UInt8} {t1 t2 t3 tn tk u1 u2 : Tok} {n : Nat} {x dx : Addr} {wide : Bool} {o : Int}
set_option maxHeartbeats 2000000 in
theorem law_try1 (X : (hd.heap_39 w.params).In G) (T : Top p loose mean mg mb G) (B : Below callerA G [] G) (F : Fr G L s.heap m) (N : News G L s.heap ((x, instObj 114 dx) :: (dx, dictOf (hpDict w.params t1 t2 t3 tn tk nm ky (handAt wide)) n) :: rest))
    (h1 : m (Str.ofString "packet") = some (.bytes pk.toArray u1)) (h2 : m (Str.ofString "other") = some (.int o u2)) (h3 : m (Str.ofString "hp") = some (.ref x))
    (hx : nm.length ≤ 100) (hy : ky.length ≤ 100) (hl : pk.length ≤ 200) (ho0 : 1 ≤ o) (ho1 : o + 20 ≤ pk.length)
    (ret : ∀ M c k zs v t t' D h' tk', M = maskV wide nm ky (cutB pk (o + 4) (o + 4 + 16)) → c = headL M pk → k = pnN (c.getD 0 0) → zs = (turnN M o.toNat k c).take (o.toNat + k) → v = truncN M o.toNat c k →
      Fr G L h' (fun y => if y = Str.ofString "told" then some (.ref D) else m y) → News G L h' ((D, tupN [.bytes zs.toArray t, .int v t']) :: (x, instObj 114 dx) :: (dx, dictOf (hpDict w.params t1 t2 t3 tn tk nm ky (handAt wide)) n) :: rest) → Q .next { s with heap := h', toks := tk' }) :
    wpP (model prog w) (callerA.deeper (envL L)) (exec st_189_5_13 (envL L)) Q NoE s := by
  conv in st_189_5_13 => whnf
  refine try_P (cons_P (assign_P (callMeth_P ?_)))
  k_steps
  refine callWith_KP X (by k_is) ?_
  k_steps
  (rename Fr _ _ _ _ => F1)
  (rename News _ _ _ _ => N1)
  (try dsimp only [List.cons_append, List.nil_append])
  refine remove_spec (un := _) (wide := wide) B F1 X (news_two N1 (.head _) (.tail _ (.head _))) T rfl (by first | decide | ((try simp only [depth_mark, depth_under_make, depth_under_kw, depth_in1, depth_deeper, depth_caller]); (first | lia | omega))) hx hy hl ho0 ho1 ?_
  intro M cc kk r v t t' D h' tk' hM hc hk hr hv K ND
  refine kept_step0 K F1 N1 fun F2 N2 => ?_
  have N3 := News.app ND N2
  simp only [List.cons_append, List.nil_append] at N3
  subst hr
  k_steps
  (rename Fr _ _ _ _ => F9)
  (rename News _ _ _ _ => N9)
  (try dsimp only [Then])
  exact wpP_of (wpAny_execs_nil (ret M cc kk _ v t t' D _ _ hM hc hk rfl hv F9 N9))
end
section
variable {prog p : Program} {w : World} {loose : List Str} {mean : ExcName → Option Value} {mg mb : Str → Option Value} {G : Heap} {L a c : Addr} {m : Str → Option Value} {rest : List (Addr × Obj)}
  {s : Shared} {Q : Flow → Shared → Prop} {pk nm ky : List UInt8} {t1 t2 t3 tn tk u1 u2 : Tok} {n : Nat} {x dx : Addr} {o : Int} {wide : Bool}
set_option maxHeartbeats 2000000 in
theorem law_try0 (X : (hd.heap_39 w.params).In G) (T : Top p loose mean mg mb G) (B : Below callerA G [] G) (F : Fr G L s.heap m) (N : News G L s.heap ((x, instObj 114 dx) :: (dx, dictOf (hpDict w.params t1 t2 t3 tn tk nm ky (handAt wide)) n) :: rest))
    (h1 : m (Str.ofString "packet") = some (.bytes pk.toArray u1)) (h2 : m (Str.ofString "other") = some (.int o u2)) (h3 : m (Str.ofString "hp") = some (.ref x))
    (hl : pk.length ≤ 200) (ho0 : 1 ≤ o) (ho1 : ¬ (o + 20 ≤ pk.length)) (ho2 : o ≤ 300)
    (ret : ∀ h' tk', Fr G L h' (fun y => if y = Str.ofString "refused" then some (.bool true) else m y) → News G L h' ((x, instObj 114 dx) :: (dx, dictOf (hpDict w.params t1 t2 t3 tn tk nm ky (handAt wide)) n) :: rest) → Q .next { s with heap := h', toks := tk' }) :
    wpAny (model prog w) (callerA.deeper (envL L)) (exec st_189_5_13 (envL L)) Q NoE s := by
  conv in st_189_5_13 => whnf
  k_steps
  (rename Fr _ _ _ _ => F9)
  (rename News _ _ _ _ => N9)
  exact ret _ _ F9 fun q hq => N9 q (by repeat (first | exact hq | refine List.mem_cons_of_mem _ ?_))
end
end

theorem lines_C31 : True := by
  w_top off
  k_with_none
  (k_with "sz" => (first | (first | lia | omega) | (simp only [List.length_append, List.length_cons, List.length_nil, List.length_take, List.length_drop, List.length_map, List.length_set, List.length_replicate, toB_length, cutB_length]; (first | lia | omega))))
  (k_with "dp" => ((try simp only [depth_mark, depth_under_make, depth_under_kw, depth_in1, depth_deeper, depth_caller]); (try dsimp only [ktrTop]); (first | lia | omega)))
  (k_with "k_room" => ((try simp only [depth_mark, depth_under_make, depth_under_kw, depth_in1, depth_deeper, depth_caller]); simp only [recursionLimit]; (first | lia | omega)))
  (k_with "cell_enter" => (refine' enterF ?k1 ?k2 ?k3 ?k4 ?k5 ?kA ?kF ?kK ?k6 ?k7 ?k8 ?k9 ?kB ?_ ?c2 ?c3 ?c4 ?c5; (case kA => exact rfl); (case kF => exact rfl); (case kK => assumption); (case k1 => k_asm); (case k2 => k_asm); (case k3 => k_asm); (case k4 => k_asm); (case k5 => k_asm); (case k6 => k_is); (case k7 => k_is); (case k8 => ktr_room); (case k9 => exact BindsTo.of_eq rfl); (case c5 => decide); (case kB => exact locs rfl); (case c2 => exact rfl); (case c3 => exact rfl); (case c4 => exact rfl); k_whole; intro g' L' h' HG' F' N' B' X' T'; (try dsimp only)))
  (k_with "cell_enterP" => (refine' enterP ?k1 ?k2 ?k3 ?k4 ?k5 ?kA ?kF ?kK ?k6 ?k7 ?k8 ?k9 ?kB ?_ ?c2 ?c3 ?c4 ?c5; (case kA => exact rfl); (case kF => exact rfl); (case kK => assumption); (case k1 => k_asm); (case k2 => k_asm); (case k3 => k_asm); (case k4 => k_asm); (case k5 => k_asm); (case k6 => k_is); (case k7 => k_is); (case k8 => ktr_room); (case k9 => exact BindsTo.of_eq rfl); (case c5 => decide); (case kB => exact locs rfl); (case c2 => exact rfl); (case c3 => exact rfl); (case c4 => exact rfl); k_whole; intro g' L' h' HG' F' N' B' X' T'; (try dsimp only)))
  (k_with "binaryOp Add bytes bytes" => (k_here; (with_reducible show wpAny _ _ (binaryOp Operator.Add (Value.bytes (List.toArray _) _) (Value.bytes (List.toArray _) _)) _ _ _); k_dflt (refine' br_add ?z1 ?z2 ?_; (case z1 => walk_at "sz"); (case z2 => walk_at "sz"); k_whole); intro _ _))
  (k_with "call builtin:len" => (k_here; (with_reducible show wpAny _ _ (call (Value.builtin "len") [Value.bytes (List.toArray _) _]) _ _ _); k_dflt (refine' br_len ?z1 ?_; (case z1 => walk_at "sz"); k_whole); intro _ _))
  (k_with "subscriptTail" => (k_here; (with_reducible show wpAny _ _ (subscriptTail _ _ (Value.bytes (List.toArray _) _) (Value.int _ _)) _ _ _); k_dflt (refine' br_item ?z1 ?z2 ?z3 ?_; (case z1 => walk_at "sz"); (case z2 => walk_at "sz"); (case z3 => walk_at "sz"); k_whole); intro _ _))
  (k_with "subscriptTail" => (k_here; (with_reducible show wpAny _ _ (subscriptTail _ (Expr.Slice (some _) (some _) none _) (Value.bytes (List.toArray _) _) (Value.ref _)) _ _ _); (with_reducible rename Fr _ _ _ _ => F'); (with_reducible rename News _ _ _ _ => N'); k_dflt (refine' br_cut (s := ⟨_, _, _, _, _⟩) F' N' ?z1 ?z2 ?z3 ?_; (case z1 => walk_at "sz"); (case z2 => walk_at "sz"); (case z3 => walk_at "sz"); k_whole); intro h' _ _ F' N'; (try k_sweep)))
  (k_with "subscriptTail" => (k_here; (with_reducible show wpAny _ _ (subscriptTail _ (Expr.Slice (some _) none none _) (Value.bytes (List.toArray _) _) (Value.ref _)) _ _ _); (with_reducible rename Fr _ _ _ _ => F'); (with_reducible rename News _ _ _ _ => N'); k_dflt (refine' br_cutFrom (s := ⟨_, _, _, _, _⟩) F' N' ?z1 ?z2 ?_; (case z1 => walk_at "sz"); (case z2 => walk_at "sz"); k_whole); intro h' _ _ F' N'; (try k_sweep)))
  (k_with "subscriptTail" => (k_here; (with_reducible show wpAny _ _ (subscriptTail _ (Expr.Slice none (some _) none _) (Value.bytes (List.toArray _) _) (Value.ref _)) _ _ _); (with_reducible rename Fr _ _ _ _ => F'); (with_reducible rename News _ _ _ _ => N'); k_dflt (refine' br_cutTo (s := ⟨_, _, _, _, _⟩) F' N' ?z1 ?z2 ?_; (case z1 => walk_at "sz"); (case z2 => walk_at "sz"); k_whole); intro h' _ _ F' N'; (try k_sweep)))
  (k_with "subscriptTail" => (k_here; (with_reducible show wpAny _ _ (subscriptTail _ _ (Value.ref _) (Value.int _ _)) _ _ _); k_dflt (refine' bo_tail ?g ?z1 ?z2 ?z3 ?_; (case g => exact News.get (by k_asm) (by k_mem)); (case z1 => walk_at "sz"); (case z2 => walk_at "sz"); (case z3 => walk_at "sz"); k_whole); intro _ _))
  (k_with "subscriptTail" => (k_here; (with_reducible show wpAny _ _ (subscriptTail _ (Expr.Slice none (some _) none _) (Value.ref _) (Value.ref _)) _ _ _); (with_reducible rename Fr _ _ _ _ => F'); (with_reducible rename News _ _ _ _ => N'); k_dflt (refine' bo_cutTo (s := ⟨_, _, _, _, _⟩) F' N' ?m ?z1 ?z2 ?_; (case m => k_mem); (case z1 => walk_at "sz"); (case z2 => walk_at "sz"); k_whole); intro h' x' F' N' l1; (try k_lt l1); (try k_sweep)))
  (k_with "getItem ref int" => (k_here; k_dflt (refine' bo_getItem ?g ?z1 ?z2 ?z3 ?_; (case g => exact News.get (by k_asm) (by k_mem)); (case z1 => walk_at "sz"); (case z2 => walk_at "sz"); (case z3 => walk_at "sz"); k_whole); intro _ _))
  (k_with "setItem ref int" => (k_here; (with_reducible show wpAny _ _ (setItem (Value.ref _) (Value.int _ _) (Value.int _ _)) _ _ _); k_dflt (refine' bo_setItemK ?F ?N ?U ?z1 ?z2 ?z3 ?z4 ?z5 ?_; (case F => k_asm); (case N => k_asm); (case U => k_upd); (case z1 => walk_at "sz"); (case z2 => walk_at "sz"); (case z3 => walk_at "sz"); (case z4 => first | (with_reducible exact bx150 _ _) | (with_reducible exact bx310 _ _) | (with_reducible exact bxu0 _ _) | walk_at "sz"); (case z5 => first | (with_reducible exact bx151 _ _) | (with_reducible exact bx311 _ _) | (with_reducible exact bxu1 _ _) | walk_at "sz"); k_whole); intro h' F' N'; (try k_sweep)))
  (k_with "compareOp Eq bytes bytes" => (k_here; (with_reducible show wpAny _ _ (compareOp CmpOp.Eq (Value.bytes (List.toArray _) _) (Value.bytes (List.toArray _) _)) _ _ _); k_dflt (refine br_eq ?_)))
  (k_with "compareOp NotEq bytes bytes" => (k_here; (with_reducible show wpAny _ _ (compareOp CmpOp.NotEq (Value.bytes (List.toArray _) _) (Value.bytes (List.toArray _) _)) _ _ _); k_dflt (refine br_ne ?_)))
  (k_with "call builtin:int.to_bytes" => (k_here; (with_reducible show wpAny _ _ (call (Value.builtin "int.to_bytes") [Value.int _ _, Value.int _ _, Value.str _ _]) _ _ _); k_dflt (refine' br_to ?z1 ?z2 ?z3 ?z4 ?_; (case z1 => walk_at "sz"); (case z2 => walk_at "sz"); (case z3 => first | assumption | walk_at "sz" | exact Int.fmod_nonneg_of_pos _ (by decide)); (case z4 => first | assumption | walk_at "sz" | exact Int.lt_of_lt_of_le (Int.fmod_lt_of_pos _ (by decide)) (by decide)); k_whole); intro _ _))
  (k_with "call ref" => (k_here; (with_reducible show wpAny _ _ (call (Value.ref _) [Value.bytes (List.toArray _) _, Value.str _ _]) _ _ _); kfb_any; k_dflt (refine br_from (by k_asm) (by k_mem) ?z1 ?_; (case z1 => walk_at "sz")); intro _ _))
  (k_with "call type:bytes" => (k_here; (with_reducible show wpAny _ _ (call (Value.type "bytes") [Value.ref _]) _ _ _); k_dflt (refine' bo_bytes ?g ?z1 ?_; (case g => exact News.get (by k_asm) (by k_mem)); (case z1 => walk_at "sz"); k_whole); intro _ _))
  (k_with "pyIter bytes" => (k_here; (with_reducible show wpAny _ _ (pyIter (Value.bytes (List.toArray _) _)) (CompPost _ _ _ _ _ _ _ _ _) _ _); k_dflt (refine' comp_row ?hh ?F ?N ?hk ?hl ?hd ?hz ?_; (case hh => exact rfl); (case F => k_asm); (case N => k_asm); (case hk => exact rfl); (case hl => intro _; exact rfl); (case hd => decide); (case hz => walk_at "sz"); k_whole); intro D' ys' h' tk' F' N' lI' iI'; (try k_sweep)))
  (k_with "call type:bytes" => (k_here; (with_reducible show wpAny _ _ (call (Value.type "bytes") [Value.ref _]) _ _ _); (with_reducible rename IntsAre _ (rowOf _) => rI); k_dflt (refine' row_bytes ?F ?N ?hh ?hl rI ?hz ?_; (case F => k_asm); (case N => k_asm); (case hh => exact rfl); (case hl => assumption); (case hz => walk_at "sz"); k_whole); intro h' _ _ F' N'; (try k_sweep)))
  first | walk1 | trivial
section
/-! ## a turn of the law's loop -/
def Knows (m : Str → Option Value) (l : List (Str × Value)) : Prop := ∀ p ∈ l, m p.1 = some p.2
theorem knows_put {G h : Heap} {L : Addr} {m : Str → Option Value} {l : List (Str × Value)} {x : Str} {v : Value} {P : Prop} (K : Knows m l) (hl : (l.all fun p => !decide (p.1 = x)) = true) (F : Fr G L h (fun y => if y = x then some v else m y))
    (k : ∀ m', Knows m' ((x, v) :: l) → Fr G L h m' → P) : P := by
  refine k _ (fun p hp => ?_) F
  rcases List.mem_cons.mp hp with rfl | hp
  · exact if_pos rfl
  · have := List.all_eq_true.mp hl p hp
    rw [if_neg (by simpa using this)]
    exact K p hp
theorem knows_nil {m : Str → Option Value} : Knows m [] := fun _ h => nomatch h
theorem knows_cons {m : Str → Option Value} {l : List (Str × Value)} {x : Str} {v : Value} (h : m x = some v) (K : Knows m l) : Knows m ((x, v) :: l) := fun p hp => by
  rcases List.mem_cons.mp hp with rfl | hp
  · exact h
  · exact K p hp
theorem knows_sub {m : Str → Option Value} {l l' : List (Str × Value)} (K : Knows m l) (h : ∀ p ∈ l', p ∈ l) : Knows m l' := fun p hp => K p (h p hp)
theorem knows_eq {m m' : Str → Option Value} {l : List (Str × Value)} (K : Knows m l) (h : ∀ p ∈ l, m' p.1 = m p.1) : Knows m' l := fun p hp => (h p hp).trans (K p hp)
theorem news_rot4 {G h : Heap} {L : Addr} {q1 q2 q3 q4 : Addr × Obj} {rest : List (Addr × Obj)} (N : News G L h (q1 :: q2 :: q3 :: q4 :: rest)) : News G L h (q3 :: q4 :: q1 :: q2 :: rest) := fun p hp => by
  simp only [List.mem_cons] at hp
  refine N p ?_
  simp only [List.mem_cons]
  rcases hp with h | h | h | h | h
  · exact .inr (.inr (.inl h))
  · exact .inr (.inr (.inr (.inl h)))
  · exact .inl h
  · exact .inr (.inl h)
  · exact .inr (.inr (.inr (.inr h)))
theorem lines_C31_1 : True := by
  (k_with "kn" => first | with_reducible exact List.mem_cons_self | (refine List.mem_cons_of_mem _ ?_; walk_at "kn"))
  trivial
section
variable {prog p : Program} {w : World} {loose : List Str} {mean : ExcName → Option Value} {mg mb : Str → Option Value} {G : Heap} {L a c x dx : Addr} {m : Str → Option Value} {rest : List (Addr × Obj)}
  {s : Shared} {Q : Flow → Shared → Prop} {k : Int} {tk t1 t2 t3 tn ty tn' ty' : Tok} {n n' n2 : Nat} {vs : List Value} {ns : List Int} {nm ky : List UInt8} {wide : Bool}
set_option maxHeartbeats 4000000 in
theorem law_turn (X : (hd.heap_39 w.params).In G) (T : Top p loose mean mg mb G) (B : Below callerA G [] G) (F : Fr G L s.heap m)
    (K : Knows m [(Str.ofString "state", .ref a), (Str.ofString "hp", .ref x), (Str.ofString "key", .bytes ky.toArray ty), (Str.ofString "wide", .bool wide), (Str.ofString "name", .bytes nm.toArray tn)])
    (N : News G L s.heap ((a, PySem.W.listOf [.int k tk, .ref c].toArray n) :: (c, PySem.W.listOf vs.toArray n') :: (x, instObj 114 dx) :: (dx, dictOf (hpDict w.params t1 t2 t3 tn' ty' nm ky (handAt wide)) n2) :: rest))
    (hr : ∀ q ∈ rest, q.1 ≠ a) (hca : c ≠ a) (hxa : x ≠ a) (hda : dx ≠ a) (hi : IntsAre vs ns) (hl0 : 0 < vs.length) (hl1 : vs.length ≤ 63) (hk0 : 0 ≤ k) (hk1 : k < 800) (hnl : nm.length ≤ 100) (hyl : ky.length ≤ 100)
    (ret : ∀ m' k' tk1 h' tk', k ≤ k' → k' ≤ k + 8 → Fr G L h' m' → Knows m' [(Str.ofString "state", .ref a), (Str.ofString "hp", .ref x), (Str.ofString "key", .bytes ky.toArray ty), (Str.ofString "wide", .bool wide), (Str.ofString "name", .bytes nm.toArray tn)] →
      News G L h' ((a, PySem.W.listOf [.int k' tk1, .ref c].toArray n) :: (c, PySem.W.listOf vs.toArray n') :: (x, instObj 114 dx) :: (dx, dictOf (hpDict w.params t1 t2 t3 tn' ty' nm ky (handAt wide)) n2) :: rest) → Q .next { s with heap := h', toks := tk' }) :
    wpP (model prog w) (callerA.deeper (envL L)) (execs [st_189_5_0, st_189_5_1, st_189_5_2, st_189_5_3, st_189_5_4, st_189_5_5, st_189_5_6, st_189_5_7, st_189_5_8, st_189_5_9, st_189_5_10, st_189_5_11, st_189_5_12, st_189_5_13, st_189_5_14, st_189_5_15] (envL L)) Q NoE s := by
  have hr4 : ∀ q ∈ ((x, instObj 114 dx) :: (dx, dictOf (hpDict w.params t1 t2 t3 tn' ty' nm ky (handAt wide)) n2) :: rest), q.1 ≠ a := fun q hq => by
    rcases List.mem_cons.mp hq with rfl | hq
    · exact hxa
    · rcases List.mem_cons.mp hq with rfl | hq
      · exact hda
      · exact hr q hq
  -- first
  refine cons_A (law_first X T B F (K ⟨Str.ofString "state", _⟩ (by walk_at "kn")) N hr4 hca hi hl0 hl1 hk0 (by (first | lia | omega)) ?_)
  intro f tf ta1 h1 tk1 F N
  refine then_next (knows_put K rfl F fun m1 K F => ?_)
  -- count
  refine cons_A (law_count X T B F (K ⟨Str.ofString "first", _⟩ (by walk_at "kn")) N ?_)
  intro tc h2 tk2 F N
  refine then_next (knows_put K rfl F fun m2 K F => ?_)
  -- header
  refine cons_A (law_header X T B F (K ⟨Str.ofString "state", _⟩ (by walk_at "kn")) N hr4 hca hi hl0 hl1 (by (first | lia | omega)) (by (first | lia | omega)) (K ⟨Str.ofString "first", _⟩ (by walk_at "kn")) (K ⟨Str.ofString "count", _⟩ (by walk_at "kn")) ?_)
  intro xs ys k1 th ta2 h3 tk3 hxs hys hka hkb F N
  refine then_next (knows_put K rfl F fun m3 K F => ?_)
  -- text
  refine cons_A (law_text X T B F (K ⟨Str.ofString "state", _⟩ (by walk_at "kn")) N hr4 hca hi hl0 hl1 (by (first | lia | omega)) (by (first | lia | omega)) (K ⟨Str.ofString "count", _⟩ (by walk_at "kn")) ?_)
  intro ts k2 tt ta3 h4 tk4 ht0 ht1 hkc hkd F N
  refine then_next (knows_put K rfl F fun m4 K F => ?_)
  have hpn := pnN_le f
  have hhl : ([f] ++ xs ++ ys).length = (xs.length + 1) + pnN f := by rw [List.length_append, List.length_append, List.length_singleton, hys]; (first | lia | omega)
  -- place
  refine cons_A (law_place X T B F N (K ⟨Str.ofString "header", _⟩ (by walk_at "kn")) (K ⟨Str.ofString "count", _⟩ (by walk_at "kn")) (by (first | lia | omega)) (by (first | lia | omega)) ?_)
  intro tp h5 tk5 F N
  rw [show ([f] ++ xs ++ ys).length - pnN f = xs.length + 1 by (first | lia | omega)] at F
  refine then_next (knows_put K rfl F fun m5 K F => ?_)
  -- plain
  refine cons_A (law_plain X T B F N (K ⟨Str.ofString "header", _⟩ (by walk_at "kn")) (K ⟨Str.ofString "text", _⟩ (by walk_at "kn")) (by (first | lia | omega)) (by (first | lia | omega)) ?_)
  intro tpl h6 tk6 F N
  refine then_next (knows_put K rfl F fun m6 K F => ?_)
  -- mask
  refine cons_A (law_mask X T B F N (K ⟨Str.ofString "plain", _⟩ (by walk_at "kn")) (K ⟨Str.ofString "place", _⟩ (by walk_at "kn")) (K ⟨Str.ofString "wide", _⟩ (by walk_at "kn")) (K ⟨Str.ofString "name", _⟩ (by walk_at "kn")) (K ⟨Str.ofString "key", _⟩ (by walk_at "kn")) (by rw [List.length_append]; (first | lia | omega)) hnl hyl ?_)
  intro tm h7 tk7 F N
  rw [sample_same (cn := pnN f) hhl (by (first | lia | omega))] at F
  have hml := maskV_length wide nm ky ((ts.drop (4 - pnN f)).take 16)
  generalize hM : maskV wide nm ky ((ts.drop (4 - pnN f)).take 16) = M at F hml
  refine then_next (knows_put K rfl F fun m7 K F => ?_)
  -- low
  refine cons_A (law_low X T B F N (K ⟨Str.ofString "mask", _⟩ (by walk_at "kn")) (K ⟨Str.ofString "first", _⟩ (by walk_at "kn")) (by (first | lia | omega)) (by (first | lia | omega)) ?_)
  intro tl h8 tk8 F N
  refine then_next (knows_put K rfl F fun m8 K F => ?_)
  -- due
  refine cons_A (law_due X T B F N (K ⟨Str.ofString "first", _⟩ (by walk_at "kn")) (K ⟨Str.ofString "low", _⟩ (by walk_at "kn")) (K ⟨Str.ofString "header", _⟩ (by walk_at "kn")) (K ⟨Str.ofString "place", _⟩ (by walk_at "kn")) (K ⟨Str.ofString "mask", _⟩ (by walk_at "kn")) (K ⟨Str.ofString "count", _⟩ (by walk_at "kn")) (K ⟨Str.ofString "text", _⟩ (by walk_at "kn"))
    (by (first | lia | omega)) (by (first | lia | omega)) (by (first | lia | omega)) (by (first | lia | omega)) (by (first | lia | omega)) (by (first | lia | omega)) (by (first | lia | omega)) (by (first | lia | omega)) ?_)
  intro td h9 tk9 F N
  refine then_next (knows_put K rfl F fun m9 K F => ?_)
  -- packet
  refine cons_P (law_packet (hs := [f] ++ xs ++ ys) (ts := ts) X T B F (news_rot4 N) (K ⟨Str.ofString "hp", _⟩ (by walk_at "kn")) (K ⟨Str.ofString "header", _⟩ (by walk_at "kn")) (K ⟨Str.ofString "text", _⟩ (by walk_at "kn")) hnl hyl (show pnN f < ([f] ++ xs ++ ys).length by (first | lia | omega)) (by (first | lia | omega)) (by (first | lia | omega)) ?_)
  intro r tr h10 tk10 hrr F N
  replace N := news_rot4 N
  have hM1 : pnN f + 1 ≤ M.length := by (first | lia | omega)
  have hrr : r = applyL M ([f] ++ xs ++ ys ++ ts) (xs.length + 1) (pnN f) := by
    rw [hrr]
    show applyL (maskV wide nm ky ((ts.drop (4 - pnN f)).take 16)) _ (([f] ++ xs ++ ys).length - pnN f) (pnN f) = _
    rw [hM, show ([f] ++ xs ++ ys).length - pnN f = xs.length + 1 by (first | lia | omega)]
  have hdue := hrr.trans (due_is hys rfl hM1)
  have hform := hrr.trans (pk_form (ts := ts) hys rfl hM1)
  have hA : ((M.drop 1).take (pnN f)).length = pnN f := by rw [List.length_take, List.length_drop]; (first | lia | omega)
  have hpkl : r.length = (xs.length + 1) + pnN f + ts.length := by rw [hform, List.length_append, List.length_append, List.length_cons, xorL_length (by rw [hys, hA]), hys]
  rw [← hdue] at K
  refine then_next (knows_put K rfl F fun m10 K F => ?_)
  -- if
  refine cons_P (law_if X T B F (news_rot4 N) (K ⟨Str.ofString "packet", _⟩ (by walk_at "kn")) (K ⟨Str.ofString "due", _⟩ (by walk_at "kn")) (K ⟨Str.ofString "hp", _⟩ (by walk_at "kn")) (K ⟨Str.ofString "place", _⟩ (by walk_at "kn")) (K ⟨Str.ofString "header", _⟩ (by walk_at "kn")) hnl hyl (by (first | lia | omega)) (by (first | lia | omega)) (by (first | lia | omega)) (by (first | lia | omega)) ?_ ?_)
  · intro M' c' k' hM' hc' hk'
    have e : (r.drop (xs.length + 1 + 4)) = ts.drop (4 - pnN f) := by
      rw [hform]
      exact sample_same (by rw [List.length_append, List.length_cons, xorL_length (by rw [hys, hA]), hys]) (by (first | lia | omega))
    rw [e, hM] at hM'
    subst hM'
    exact back_form (ts := ts) hys rfl hM1 rfl c' k' (by rw [hc', hform]) hk'
  intro h11 tk11 F N
  replace N := news_rot4 N
  refine then_next ?_
  clear hform hdue hrr hM1 hA
  -- other
  refine cons_A (law_other X T B F (K ⟨Str.ofString "state", _⟩ (by walk_at "kn")) N hr4 hca hi hl0 hl1 (by (first | lia | omega)) (by (first | lia | omega)) (K ⟨Str.ofString "packet", _⟩ (by walk_at "kn")) (by (first | lia | omega)) ?_)
  intro o to ta4 h12 tk12 ho0 ho1 F N
  refine then_next (knows_put K rfl F fun m12 K F => ?_)
  -- fits
  refine cons_A (law_fits X T B F N (K ⟨Str.ofString "packet", _⟩ (by walk_at "kn")) (K ⟨Str.ofString "other", _⟩ (by walk_at "kn")) (by (first | lia | omega)) ?_)
  intro h13 tk13 F N
  have K5 : Knows m12 [(Str.ofString "packet", .bytes r.toArray tr), (Str.ofString "other", .int o to), (Str.ofString "state", .ref a), (Str.ofString "hp", .ref x), (Str.ofString "key", .bytes ky.toArray ty), (Str.ofString "wide", .bool wide), (Str.ofString "name", .bytes nm.toArray tn)] := by
    exact knows_cons (K ⟨Str.ofString "packet", _⟩ (by walk_at "kn")) (knows_cons (K ⟨Str.ofString "other", _⟩ (by walk_at "kn")) (knows_cons (K ⟨Str.ofString "state", _⟩ (by walk_at "kn")) (knows_cons (K ⟨Str.ofString "hp", _⟩ (by walk_at "kn")) (knows_cons (K ⟨Str.ofString "key", _⟩ (by walk_at "kn")) (knows_cons (K ⟨Str.ofString "wide", _⟩ (by walk_at "kn")) (knows_cons (K ⟨Str.ofString "name", _⟩ (by walk_at "kn")) (knows_nil)))))))
  clear K
  have K6 : Knows (fun y => if y = Str.ofString "fits" then some (.bool (decide (o + 20 ≤ (r.length : Int)))) else if y = Str.ofString "refused" then some (.bool false) else if y = Str.ofString "told" then some .none else m12 y)
      [(Str.ofString "fits", .bool (decide (o + 20 ≤ (r.length : Int)))), (Str.ofString "refused", .bool false), (Str.ofString "packet", .bytes r.toArray tr), (Str.ofString "other", .int o to), (Str.ofString "state", .ref a), (Str.ofString "hp", .ref x), (Str.ofString "key", .bytes ky.toArray ty), (Str.ofString "wide", .bool wide), (Str.ofString "name", .bytes nm.toArray tn)] := by
    exact knows_cons (if_pos rfl) (knows_cons ((if_neg (by decide)).trans (if_pos rfl)) (knows_cons (((if_neg (by decide)).trans ((if_neg (by decide)).trans (if_neg (by decide)))).trans (K5 ⟨Str.ofString "packet", _⟩ (by walk_at "kn"))) (knows_cons (((if_neg (by decide)).trans ((if_neg (by decide)).trans (if_neg (by decide)))).trans (K5 ⟨Str.ofString "other", _⟩ (by walk_at "kn"))) (knows_cons (((if_neg (by decide)).trans ((if_neg (by decide)).trans (if_neg (by decide)))).trans (K5 ⟨Str.ofString "state", _⟩ (by walk_at "kn"))) (knows_cons (((if_neg (by decide)).trans ((if_neg (by decide)).trans (if_neg (by decide)))).trans (K5 ⟨Str.ofString "hp", _⟩ (by walk_at "kn"))) (knows_cons (((if_neg (by decide)).trans ((if_neg (by decide)).trans (if_neg (by decide)))).trans (K5 ⟨Str.ofString "key", _⟩ (by walk_at "kn"))) (knows_cons (((if_neg (by decide)).trans ((if_neg (by decide)).trans (if_neg (by decide)))).trans (K5 ⟨Str.ofString "wide", _⟩ (by walk_at "kn"))) (knows_cons (((if_neg (by decide)).trans ((if_neg (by decide)).trans (if_neg (by decide)))).trans (K5 ⟨Str.ofString "name", _⟩ (by walk_at "kn"))) (knows_nil)))))))))
  clear K5
  generalize (fun y => if y = Str.ofString "fits" then some (Value.bool (decide (o + 20 ≤ (r.length : Int)))) else if y = Str.ofString "refused" then some (Value.bool false) else if y = Str.ofString "told" then some Value.none else m12 y) = m13 at F K6
  refine then_next ?_
  have K := K6
  clear K6
  by_cases hf : o + 20 ≤ (r.length : Int)
  · rw [decide_eq_true hf] at K
    refine cons_P (law_try1 X T B F (news_rot4 N) (K ⟨Str.ofString "packet", _⟩ (by walk_at "kn")) (K ⟨Str.ofString "other", _⟩ (by walk_at "kn")) (K ⟨Str.ofString "hp", _⟩ (by walk_at "kn")) hnl hyl (by (first | lia | omega)) ho0 hf ?_)
    intro M' c' k' zs v t' t'' D h14 tk14 hM' hc' hk' hzs hv F N
    refine then_next (knows_put K rfl F fun m14 K F => ?_)
    refine cons_A (law_refused (ft := true) X T B F N (K ⟨Str.ofString "refused", .bool false⟩ (by walk_at "kn")) (K ⟨Str.ofString "fits", _⟩ (by walk_at "kn")) ?_)
    intro h15 tk15 F N
    refine then_next ?_
    refine cons_A (law_told X T B F N (K ⟨Str.ofString "fits", _⟩ (by walk_at "kn")) (K ⟨Str.ofString "packet", _⟩ (by walk_at "kn")) (K ⟨Str.ofString "other", _⟩ (by walk_at "kn")) (K ⟨Str.ofString "told", _⟩ (by walk_at "kn")) (K ⟨Str.ofString "wide", _⟩ (by walk_at "kn")) (K ⟨Str.ofString "name", _⟩ (by walk_at "kn")) (K ⟨Str.ofString "key", _⟩ (by walk_at "kn")) (by (first | lia | omega)) hnl hyl ho0 hf ?_ ?_)
    · intro M'' k'' hM'' hk''
      have eM : M'' = M' := by rw [hM'', hM', show o + 4 + 16 = o + 20 by (first | lia | omega)]
      subst eM
      have hml' := maskV_length wide nm ky (cutB r (o + 4) (o + 20))
      rw [← hM''] at hml'
      have := told_is ho0 hf (by (first | lia | omega)) hc' hk'
      obtain ⟨e1, e2, e3⟩ := this
      have ek : k'' = k' := hk''.trans e1.symm
      subst ek
      exact ⟨hzs.trans e2, hv.trans e3⟩
    intro h16 tk16 m16 F hm N
    exact then_next (wpP_of (wpAny_execs_nil (ret m16 _ _ _ _ (by (first | lia | omega)) (by (first | lia | omega)) F (knows_cons ((hm _ (by decide) (by decide) (by decide)).trans (K ⟨Str.ofString "state", _⟩ (by walk_at "kn"))) (knows_cons ((hm _ (by decide) (by decide) (by decide)).trans (K ⟨Str.ofString "hp", _⟩ (by walk_at "kn"))) (knows_cons ((hm _ (by decide) (by decide) (by decide)).trans (K ⟨Str.ofString "key", _⟩ (by walk_at "kn"))) (knows_cons ((hm _ (by decide) (by decide) (by decide)).trans (K ⟨Str.ofString "wide", _⟩ (by walk_at "kn"))) (knows_cons ((hm _ (by decide) (by decide) (by decide)).trans (K ⟨Str.ofString "name", _⟩ (by walk_at "kn"))) (knows_nil)))))) (news_rot4 N))))
  · rw [decide_eq_false hf] at K
    have K7 : Knows m13 [(Str.ofString "fits", .bool false), (Str.ofString "state", .ref a), (Str.ofString "hp", .ref x), (Str.ofString "key", .bytes ky.toArray ty), (Str.ofString "wide", .bool wide), (Str.ofString "name", .bytes nm.toArray tn)] := knows_cons (K ⟨Str.ofString "fits", _⟩ (by walk_at "kn")) (knows_cons (K ⟨Str.ofString "state", _⟩ (by walk_at "kn")) (knows_cons (K ⟨Str.ofString "hp", _⟩ (by walk_at "kn")) (knows_cons (K ⟨Str.ofString "key", _⟩ (by walk_at "kn")) (knows_cons (K ⟨Str.ofString "wide", _⟩ (by walk_at "kn")) (knows_cons (K ⟨Str.ofString "name", _⟩ (by walk_at "kn")) (knows_nil))))))
    refine cons_A (law_try0 X T B F (news_rot4 N) (K ⟨Str.ofString "packet", _⟩ (by walk_at "kn")) (K ⟨Str.ofString "other", _⟩ (by walk_at "kn")) (K ⟨Str.ofString "hp", _⟩ (by walk_at "kn")) (by (first | lia | omega)) ho0 hf (by (first | lia | omega)) ?_)
    intro h14 tk14 F N
    refine then_next (knows_put K7 rfl F fun m14 K F => ?_)
    refine cons_A (law_refused (ft := false) X T B F N (K ⟨Str.ofString "refused", .bool true⟩ (by walk_at "kn")) (K ⟨Str.ofString "fits", _⟩ (by walk_at "kn")) ?_)
    intro h15 tk15 F N
    refine then_next ?_
    refine cons_A (law_nofit X T B F N (K ⟨Str.ofString "fits", _⟩ (by walk_at "kn")) ?_)
    intro h16 tk16 F N
    exact then_next (wpP_of (wpAny_execs_nil (ret m14 _ _ _ _ (by (first | lia | omega)) (by (first | lia | omega)) F (knows_cons (K ⟨Str.ofString "state", _⟩ (by walk_at "kn")) (knows_cons (K ⟨Str.ofString "hp", _⟩ (by walk_at "kn")) (knows_cons (K ⟨Str.ofString "key", _⟩ (by walk_at "kn")) (knows_cons (K ⟨Str.ofString "wide", _⟩ (by walk_at "kn")) (knows_cons (K ⟨Str.ofString "name", _⟩ (by walk_at "kn")) (knows_nil)))))) (news_rot4 N))))
end
end

theorem lines_C32 : True := by
  w_top off
  k_with_none
  (k_with "sz" => (first | (first | lia | omega) | (simp only [List.length_append, List.length_cons, List.length_nil, List.length_take, List.length_drop, List.length_map, List.length_set, List.length_replicate, toB_length, cutB_length]; (first | lia | omega))))
  (k_with "dp" => ((try simp only [depth_mark, depth_under_make, depth_under_kw, depth_in1, depth_deeper, depth_caller]); (try dsimp only [ktrTop]); (first | lia | omega)))
  (k_with "k_room" => ((try simp only [depth_mark, depth_under_make, depth_under_kw, depth_in1, depth_deeper, depth_caller]); simp only [recursionLimit]; (first | lia | omega)))
  (k_with "cell_enter" => (refine' enterF ?k1 ?k2 ?k3 ?k4 ?k5 ?kA ?kF ?kK ?k6 ?k7 ?k8 ?k9 ?kB ?_ ?c2 ?c3 ?c4 ?c5; (case kA => exact rfl); (case kF => exact rfl); (case kK => assumption); (case k1 => k_asm); (case k2 => k_asm); (case k3 => k_asm); (case k4 => k_asm); (case k5 => k_asm); (case k6 => k_is); (case k7 => k_is); (case k8 => ktr_room); (case k9 => exact BindsTo.of_eq rfl); (case c5 => decide); (case kB => exact locs rfl); (case c2 => exact rfl); (case c3 => exact rfl); (case c4 => exact rfl); k_whole; intro g' L' h' HG' F' N' B' X' T'; (try dsimp only)))
  (k_with "cell_enterP" => (refine' enterP ?k1 ?k2 ?k3 ?k4 ?k5 ?kA ?kF ?kK ?k6 ?k7 ?k8 ?k9 ?kB ?_ ?c2 ?c3 ?c4 ?c5; (case kA => exact rfl); (case kF => exact rfl); (case kK => assumption); (case k1 => k_asm); (case k2 => k_asm); (case k3 => k_asm); (case k4 => k_asm); (case k5 => k_asm); (case k6 => k_is); (case k7 => k_is); (case k8 => ktr_room); (case k9 => exact BindsTo.of_eq rfl); (case c5 => decide); (case kB => exact locs rfl); (case c2 => exact rfl); (case c3 => exact rfl); (case c4 => exact rfl); k_whole; intro g' L' h' HG' F' N' B' X' T'; (try dsimp only)))
  (k_with "binaryOp Add bytes bytes" => (k_here; (with_reducible show wpAny _ _ (binaryOp Operator.Add (Value.bytes (List.toArray _) _) (Value.bytes (List.toArray _) _)) _ _ _); k_dflt (refine' br_add ?z1 ?z2 ?_; (case z1 => walk_at "sz"); (case z2 => walk_at "sz"); k_whole); intro _ _))
  (k_with "call builtin:len" => (k_here; (with_reducible show wpAny _ _ (call (Value.builtin "len") [Value.bytes (List.toArray _) _]) _ _ _); k_dflt (refine' br_len ?z1 ?_; (case z1 => walk_at "sz"); k_whole); intro _ _))
  (k_with "subscriptTail" => (k_here; (with_reducible show wpAny _ _ (subscriptTail _ _ (Value.bytes (List.toArray _) _) (Value.int _ _)) _ _ _); k_dflt (refine' br_item ?z1 ?z2 ?z3 ?_; (case z1 => walk_at "sz"); (case z2 => walk_at "sz"); (case z3 => walk_at "sz"); k_whole); intro _ _))
  (k_with "subscriptTail" => (k_here; (with_reducible show wpAny _ _ (subscriptTail _ (Expr.Slice (some _) (some _) none _) (Value.bytes (List.toArray _) _) (Value.ref _)) _ _ _); (with_reducible rename Fr _ _ _ _ => F'); (with_reducible rename News _ _ _ _ => N'); k_dflt (refine' br_cut (s := ⟨_, _, _, _, _⟩) F' N' ?z1 ?z2 ?z3 ?_; (case z1 => walk_at "sz"); (case z2 => walk_at "sz"); (case z3 => walk_at "sz"); k_whole); intro h' _ _ F' N'; (try k_sweep)))
  (k_with "subscriptTail" => (k_here; (with_reducible show wpAny _ _ (subscriptTail _ (Expr.Slice (some _) none none _) (Value.bytes (List.toArray _) _) (Value.ref _)) _ _ _); (with_reducible rename Fr _ _ _ _ => F'); (with_reducible rename News _ _ _ _ => N'); k_dflt (refine' br_cutFrom (s := ⟨_, _, _, _, _⟩) F' N' ?z1 ?z2 ?_; (case z1 => walk_at "sz"); (case z2 => walk_at "sz"); k_whole); intro h' _ _ F' N'; (try k_sweep)))
  (k_with "subscriptTail" => (k_here; (with_reducible show wpAny _ _ (subscriptTail _ (Expr.Slice none (some _) none _) (Value.bytes (List.toArray _) _) (Value.ref _)) _ _ _); (with_reducible rename Fr _ _ _ _ => F'); (with_reducible rename News _ _ _ _ => N'); k_dflt (refine' br_cutTo (s := ⟨_, _, _, _, _⟩) F' N' ?z1 ?z2 ?_; (case z1 => walk_at "sz"); (case z2 => walk_at "sz"); k_whole); intro h' _ _ F' N'; (try k_sweep)))
  (k_with "subscriptTail" => (k_here; (with_reducible show wpAny _ _ (subscriptTail _ _ (Value.ref _) (Value.int _ _)) _ _ _); k_dflt (refine' bo_tail ?g ?z1 ?z2 ?z3 ?_; (case g => exact News.get (by k_asm) (by k_mem)); (case z1 => walk_at "sz"); (case z2 => walk_at "sz"); (case z3 => walk_at "sz"); k_whole); intro _ _))
  (k_with "subscriptTail" => (k_here; (with_reducible show wpAny _ _ (subscriptTail _ (Expr.Slice none (some _) none _) (Value.ref _) (Value.ref _)) _ _ _); (with_reducible rename Fr _ _ _ _ => F'); (with_reducible rename News _ _ _ _ => N'); k_dflt (refine' bo_cutTo (s := ⟨_, _, _, _, _⟩) F' N' ?m ?z1 ?z2 ?_; (case m => k_mem); (case z1 => walk_at "sz"); (case z2 => walk_at "sz"); k_whole); intro h' x' F' N' l1; (try k_lt l1); (try k_sweep)))
  (k_with "getItem ref int" => (k_here; k_dflt (refine' bo_getItem ?g ?z1 ?z2 ?z3 ?_; (case g => exact News.get (by k_asm) (by k_mem)); (case z1 => walk_at "sz"); (case z2 => walk_at "sz"); (case z3 => walk_at "sz"); k_whole); intro _ _))
  (k_with "setItem ref int" => (k_here; (with_reducible show wpAny _ _ (setItem (Value.ref _) (Value.int _ _) (Value.int _ _)) _ _ _); k_dflt (refine' bo_setItemK ?F ?N ?U ?z1 ?z2 ?z3 ?z4 ?z5 ?_; (case F => k_asm); (case N => k_asm); (case U => k_upd); (case z1 => walk_at "sz"); (case z2 => walk_at "sz"); (case z3 => walk_at "sz"); (case z4 => first | (with_reducible exact bx150 _ _) | (with_reducible exact bx310 _ _) | (with_reducible exact bxu0 _ _) | walk_at "sz"); (case z5 => first | (with_reducible exact bx151 _ _) | (with_reducible exact bx311 _ _) | (with_reducible exact bxu1 _ _) | walk_at "sz"); k_whole); intro h' F' N'; (try k_sweep)))
  (k_with "compareOp Eq bytes bytes" => (k_here; (with_reducible show wpAny _ _ (compareOp CmpOp.Eq (Value.bytes (List.toArray _) _) (Value.bytes (List.toArray _) _)) _ _ _); k_dflt (refine br_eq ?_)))
  (k_with "compareOp NotEq bytes bytes" => (k_here; (with_reducible show wpAny _ _ (compareOp CmpOp.NotEq (Value.bytes (List.toArray _) _) (Value.bytes (List.toArray _) _)) _ _ _); k_dflt (refine br_ne ?_)))
  (k_with "call builtin:int.to_bytes" => (k_here; (with_reducible show wpAny _ _ (call (Value.builtin "int.to_bytes") [Value.int _ _, Value.int _ _, Value.str _ _]) _ _ _); k_dflt (refine' br_to ?z1 ?z2 ?z3 ?z4 ?_; (case z1 => walk_at "sz"); (case z2 => walk_at "sz"); (case z3 => first | assumption | walk_at "sz" | exact Int.fmod_nonneg_of_pos _ (by decide)); (case z4 => first | assumption | walk_at "sz" | exact Int.lt_of_lt_of_le (Int.fmod_lt_of_pos _ (by decide)) (by decide)); k_whole); intro _ _))
  (k_with "call ref" => (k_here; (with_reducible show wpAny _ _ (call (Value.ref _) [Value.bytes (List.toArray _) _, Value.str _ _]) _ _ _); kfb_any; k_dflt (refine br_from (by k_asm) (by k_mem) ?z1 ?_; (case z1 => walk_at "sz")); intro _ _))
  (k_with "call type:bytes" => (k_here; (with_reducible show wpAny _ _ (call (Value.type "bytes") [Value.ref _]) _ _ _); k_dflt (refine' bo_bytes ?g ?z1 ?_; (case g => exact News.get (by k_asm) (by k_mem)); (case z1 => walk_at "sz"); k_whole); intro _ _))
  (k_with "pyIter bytes" => (k_here; (with_reducible show wpAny _ _ (pyIter (Value.bytes (List.toArray _) _)) (CompPost _ _ _ _ _ _ _ _ _) _ _); k_dflt (refine' comp_row ?hh ?F ?N ?hk ?hl ?hd ?hz ?_; (case hh => exact rfl); (case F => k_asm); (case N => k_asm); (case hk => exact rfl); (case hl => intro _; exact rfl); (case hd => decide); (case hz => walk_at "sz"); k_whole); intro D' ys' h' tk' F' N' lI' iI'; (try k_sweep)))
  (k_with "call type:bytes" => (k_here; (with_reducible show wpAny _ _ (call (Value.type "bytes") [Value.ref _]) _ _ _); (with_reducible rename IntsAre _ (rowOf _) => rI); k_dflt (refine' row_bytes ?F ?N ?hh ?hl rI ?hz ?_; (case F => k_asm); (case N => k_asm); (case hh => exact rfl); (case hl => assumption); (case hz => walk_at "sz"); k_whole); intro h' _ _ F' N'; (try k_sweep)))
  (k_with "eval Name" => (k_here; (with_reducible show wpAny _ _ (eval (Expr.Name _ _) _) _ _ _); k_dflt (refine' PyProof.Rows.ld ?k1 ?k2 ?_; (case k1 => k_asm); (case k2 => assumption); k_whole)))
  first | walk1 | trivial
section
/-! ## the law's loop -/
section
variable {prog p : Program} {w : World} {loose : List Str} {mean : ExcName → Option Value} {mg mb : Str → Option Value} {G : Heap} {L a c x dx it : Addr} {px : Pos}
  {Q : Flow → Shared → Prop} {t1 t2 t3 tn ty tn' ty' : Tok} {n n' n2 : Nat} {vs : List Value} {ns : List Int} {nm ky : List UInt8} {wide : Bool}
theorem law_loop (X : (hd.heap_39 w.params).In G) (T : Top p loose mean mg mb G) (B : Below callerA G [] G)
    (hca : c ≠ a) (hxa : x ≠ a) (hda : dx ≠ a) (hia : a < it) (hic : c < it) (hix : x < it) (hid : dx < it) (hi : IntsAre vs ns) (hl0 : 0 < vs.length) (hl1 : vs.length ≤ 63) (hnl : nm.length ≤ 100) (hyl : ky.length ≤ 100) :
    ∀ (j : Nat) (i k : Int) (tk : Tok) (m : Str → Option Value) (s : Shared), 0 ≤ k → k + 8 * (j : Int) ≤ 700 → Fr G L s.heap m →
    Knows m [(Str.ofString "state", .ref a), (Str.ofString "hp", .ref x), (Str.ofString "key", .bytes ky.toArray ty), (Str.ofString "wide", .bool wide), (Str.ofString "name", .bytes nm.toArray tn)] →
    News G L s.heap ((a, PySem.W.listOf [.int k tk, .ref c].toArray n) :: (c, PySem.W.listOf vs.toArray n') :: (x, instObj 114 dx) :: (dx, dictOf (hpDict w.params t1 t2 t3 tn' ty' nm ky (handAt wide)) n2) :: [(it, rIt i (j : Int))]) →
    (∀ m' h' tk', Fr G L h' m' → Q .next { s with heap := h', toks := tk' }) →
    codeP (model prog w) (callerA.deeper (envL L)) (.forLoop (.Name (Str.ofString "turn") px) (.ref it) [st_189_5_0, st_189_5_1, st_189_5_2, st_189_5_3, st_189_5_4, st_189_5_5, st_189_5_6, st_189_5_7, st_189_5_8, st_189_5_9, st_189_5_10, st_189_5_11, st_189_5_12, st_189_5_13, st_189_5_14, st_189_5_15] [] (envL L))
      (fun r s' => match r with | .ok f => Q f s' | .error _ => False) s := by
  intro j
  induction j with
  | zero =>
    intro i k tk m s hk0 hk1 F K N ret
    have hit := N _ (.tail _ (.tail _ (.tail _ (.tail _ (.head _)))))
    refine forTurn_P ?_
    refine wpAny_pyNext_range_end rfl hit.1 (by decide) fun h' sb => ?_
    have kk : Kept [it] s.heap h' := fun b o hb e => sb b o (by simpa using hb) e
    exact ret m h' _ (kk.fr F (by simpa using Ne.symm hit.2.1) (by simpa using hit.2.2))
  | succ j ih =>
    intro i k tk m s hk0 hk1 F K N ret
    have hit := N _ (.tail _ (.tail _ (.tail _ (.tail _ (.head _)))))
    refine forTurn_P ?_
    refine wpAny_pyNext_range_item hit.1 (by (first | lia | omega)) fun h' g sb => ?_
    have kk : Kept [it] s.heap h' := fun b o hb e => (sb.2 b (by simpa using hb)).trans e
    have F1 := kk.fr F (by simpa using Ne.symm hit.2.1) (by simpa using hit.2.2)
    have N1 : News G L h' ((a, PySem.W.listOf [.int k tk, .ref c].toArray n) :: (c, PySem.W.listOf vs.toArray n') :: (x, instObj 114 dx) :: (dx, dictOf (hpDict w.params t1 t2 t3 tn' ty' nm ky (handAt wide)) n2) :: [(it, rIt (i + 1) (j : Int))]) := by
      have ex : ∀ q ∈ [(a, PySem.W.listOf [.int k tk, .ref c].toArray n), (c, PySem.W.listOf vs.toArray n'), (x, instObj 114 dx), (dx, dictOf (hpDict w.params t1 t2 t3 tn' ty' nm ky (handAt wide)) n2)], q.1 < it := fun q hq => by
        simp only [List.mem_cons, List.not_mem_nil, or_false] at hq
        rcases hq with rfl | rfl | rfl | rfl
        · exact hia
        · exact hic
        · exact hix
        · exact hid
      have N4 := kk.news (News.sub N (b := [(a, PySem.W.listOf [.int k tk, .ref c].toArray n), (c, PySem.W.listOf vs.toArray n'), (x, instObj 114 dx), (dx, dictOf (hpDict w.params t1 t2 t3 tn' ty' nm ky (handAt wide)) n2)]) fun q hq => List.mem_append_left [(it, rIt i ((j + 1 : Nat) : Int))] hq) fun q hq => by
          have := ex q hq
          simpa using Nat.ne_of_lt this
      have e : ((j + 1 : Nat) : Int) - 1 = (j : Int) := by (first | lia | omega)
      rw [e] at g
      exact News.app N4 (fun q hq => by
        rw [List.mem_singleton.mp hq]
        exact ⟨g, hit.2⟩)
    refine stN F1 N1 (fun h2 F2 N2 => ?_) rfl rfl
    refine knows_put K rfl F2 fun m2 K2 F2 => ?_
    refine law_turn X T B F2 (knows_sub K2 fun q hq => .tail _ hq) N2 (fun q hq => by rw [List.mem_singleton.mp hq]; exact (Nat.ne_of_lt hia).symm) hca hxa hda hi hl0 hl1 hk0 (by (first | lia | omega)) hnl hyl ?_
    intro m' k' tk1 h3 tk3 hka hkb F3 K3 N3
    exact ih (i + 1) k' tk1 m' _ (by (first | lia | omega)) (by (first | lia | omega)) F3 K3 N3 fun m'' h'' tk'' F' => ret m'' h'' tk'' F'
theorem law_for {m : Str → Option Value} {s : Shared} {k : Int} {tk : Tok} (X : (hd.heap_39 w.params).In G) (T : Top p loose mean mg mb G) (B : Below callerA G [] G)
    (hca : c ≠ a) (hxa : x ≠ a) (hda : dx ≠ a) (hi : IntsAre vs ns) (hl0 : 0 < vs.length) (hl1 : vs.length ≤ 63) (hnl : nm.length ≤ 100) (hyl : ky.length ≤ 100) (hk0 : 0 ≤ k) (hk1 : k ≤ 100) (F : Fr G L s.heap m)
    (K : Knows m [(Str.ofString "state", .ref a), (Str.ofString "hp", .ref x), (Str.ofString "key", .bytes ky.toArray ty), (Str.ofString "wide", .bool wide), (Str.ofString "name", .bytes nm.toArray tn)])
    (N : News G L s.heap [(a, PySem.W.listOf [.int k tk, .ref c].toArray n), (c, PySem.W.listOf vs.toArray n'), (x, instObj 114 dx), (dx, dictOf (hpDict w.params t1 t2 t3 tn' ty' nm ky (handAt wide)) n2)])
    (ret : ∀ m' h' tk', Fr G L h' m' → Q .next { s with heap := h', toks := tk' }) :
    wpP (model prog w) (callerA.deeper (envL L)) (exec st_189_5 (envL L)) Q NoE s := by
  conv in st_189_5 => whnf
  refine for_P ?_
  k_steps
  (rename Fr _ _ _ _ => F0)
  (rename News _ _ _ _ => N0)
  (rename IsRange _ _ _ _ _ _ _ _ => R0)
  refine wpAny_pyIter_range R0 (by decide) ?_
  have N1 := News.push F0 N0 (rIt 0 4)
  have F1 := F0.push (rIt 0 4)
  have lt := fun (p : Addr × Obj) hp => Heap.lt_size (N0 p hp).1
  refine law_loop (t1 := t1) (t2 := t2) (t3 := t3) (tn' := tn') (ty' := ty') (n := n) (n' := n') (n2 := n2) X T B hca hxa hda (lt _ (.head _)) (lt _ (.tail _ (.head _))) (lt _ (.tail _ (.tail _ (.head _)))) (lt _ (.tail _ (.tail _ (.tail _ (.head _))))) hi hl0 hl1 hnl hyl 4 0 k tk m _ hk0 (by (first | lia | omega)) F1 K ?_ ?_
  · intro p hp
    simp only [List.mem_cons, List.not_mem_nil, or_false] at hp
    refine N1 p ?_
    simp only [List.mem_cons, List.not_mem_nil, or_false]
    rcases hp with h | h | h | h | h
    · exact .inr (.inl h)
    · exact .inr (.inr (.inl h))
    · exact .inr (.inr (.inr (.inl h)))
    · exact .inr (.inr (.inr (.inr h)))
    · exact .inl h
  · intro m' h' tk' F'
    exact ret m' h' tk' F'
end
end

theorem lines_C33 : True := by
  w_top off
  k_with_none
  (k_with "sz" => (first | (first | lia | omega) | (simp only [List.length_append, List.length_cons, List.length_nil, List.length_take, List.length_drop, List.length_map, List.length_set, List.length_replicate, toB_length, cutB_length]; (first | lia | omega))))
  (k_with "dp" => ((try simp only [depth_mark, depth_under_make, depth_under_kw, depth_in1, depth_deeper, depth_caller]); (try dsimp only [ktrTop]); (first | lia | omega)))
  (k_with "k_room" => ((try simp only [depth_mark, depth_under_make, depth_under_kw, depth_in1, depth_deeper, depth_caller]); simp only [recursionLimit]; (first | lia | omega)))
  (k_with "cell_enter" => (refine' enterF ?k1 ?k2 ?k3 ?k4 ?k5 ?kA ?kF ?kK ?k6 ?k7 ?k8 ?k9 ?kB ?_ ?c2 ?c3 ?c4 ?c5; (case kA => exact rfl); (case kF => exact rfl); (case kK => assumption); (case k1 => k_asm); (case k2 => k_asm); (case k3 => k_asm); (case k4 => k_asm); (case k5 => k_asm); (case k6 => k_is); (case k7 => k_is); (case k8 => ktr_room); (case k9 => exact BindsTo.of_eq rfl); (case c5 => decide); (case kB => exact locs rfl); (case c2 => exact rfl); (case c3 => exact rfl); (case c4 => exact rfl); k_whole; intro g' L' h' HG' F' N' B' X' T'; (try dsimp only)))
  (k_with "cell_enterP" => (refine' enterP ?k1 ?k2 ?k3 ?k4 ?k5 ?kA ?kF ?kK ?k6 ?k7 ?k8 ?k9 ?kB ?_ ?c2 ?c3 ?c4 ?c5; (case kA => exact rfl); (case kF => exact rfl); (case kK => assumption); (case k1 => k_asm); (case k2 => k_asm); (case k3 => k_asm); (case k4 => k_asm); (case k5 => k_asm); (case k6 => k_is); (case k7 => k_is); (case k8 => ktr_room); (case k9 => exact BindsTo.of_eq rfl); (case c5 => decide); (case kB => exact locs rfl); (case c2 => exact rfl); (case c3 => exact rfl); (case c4 => exact rfl); k_whole; intro g' L' h' HG' F' N' B' X' T'; (try dsimp only)))
  (k_with "binaryOp Add bytes bytes" => (k_here; (with_reducible show wpAny _ _ (binaryOp Operator.Add (Value.bytes (List.toArray _) _) (Value.bytes (List.toArray _) _)) _ _ _); k_dflt (refine' br_add ?z1 ?z2 ?_; (case z1 => walk_at "sz"); (case z2 => walk_at "sz"); k_whole); intro _ _))
  (k_with "call builtin:len" => (k_here; (with_reducible show wpAny _ _ (call (Value.builtin "len") [Value.bytes (List.toArray _) _]) _ _ _); k_dflt (refine' br_len ?z1 ?_; (case z1 => walk_at "sz"); k_whole); intro _ _))
  (k_with "subscriptTail" => (k_here; (with_reducible show wpAny _ _ (subscriptTail _ _ (Value.bytes (List.toArray _) _) (Value.int _ _)) _ _ _); k_dflt (refine' br_item ?z1 ?z2 ?z3 ?_; (case z1 => walk_at "sz"); (case z2 => walk_at "sz"); (case z3 => walk_at "sz"); k_whole); intro _ _))
  (k_with "subscriptTail" => (k_here; (with_reducible show wpAny _ _ (subscriptTail _ (Expr.Slice (some _) (some _) none _) (Value.bytes (List.toArray _) _) (Value.ref _)) _ _ _); (with_reducible rename Fr _ _ _ _ => F'); (with_reducible rename News _ _ _ _ => N'); k_dflt (refine' br_cut (s := ⟨_, _, _, _, _⟩) F' N' ?z1 ?z2 ?z3 ?_; (case z1 => walk_at "sz"); (case z2 => walk_at "sz"); (case z3 => walk_at "sz"); k_whole); intro h' _ _ F' N'; (try k_sweep)))
  (k_with "subscriptTail" => (k_here; (with_reducible show wpAny _ _ (subscriptTail _ (Expr.Slice (some _) none none _) (Value.bytes (List.toArray _) _) (Value.ref _)) _ _ _); (with_reducible rename Fr _ _ _ _ => F'); (with_reducible rename News _ _ _ _ => N'); k_dflt (refine' br_cutFrom (s := ⟨_, _, _, _, _⟩) F' N' ?z1 ?z2 ?_; (case z1 => walk_at "sz"); (case z2 => walk_at "sz"); k_whole); intro h' _ _ F' N'; (try k_sweep)))
  (k_with "subscriptTail" => (k_here; (with_reducible show wpAny _ _ (subscriptTail _ (Expr.Slice none (some _) none _) (Value.bytes (List.toArray _) _) (Value.ref _)) _ _ _); (with_reducible rename Fr _ _ _ _ => F'); (with_reducible rename News _ _ _ _ => N'); k_dflt (refine' br_cutTo (s := ⟨_, _, _, _, _⟩) F' N' ?z1 ?z2 ?_; (case z1 => walk_at "sz"); (case z2 => walk_at "sz"); k_whole); intro h' _ _ F' N'; (try k_sweep)))
  (k_with "subscriptTail" => (k_here; (with_reducible show wpAny _ _ (subscriptTail _ _ (Value.ref _) (Value.int _ _)) _ _ _); k_dflt (refine' bo_tail ?g ?z1 ?z2 ?z3 ?_; (case g => exact News.get (by k_asm) (by k_mem)); (case z1 => walk_at "sz"); (case z2 => walk_at "sz"); (case z3 => walk_at "sz"); k_whole); intro _ _))
  (k_with "subscriptTail" => (k_here; (with_reducible show wpAny _ _ (subscriptTail _ (Expr.Slice none (some _) none _) (Value.ref _) (Value.ref _)) _ _ _); (with_reducible rename Fr _ _ _ _ => F'); (with_reducible rename News _ _ _ _ => N'); k_dflt (refine' bo_cutTo (s := ⟨_, _, _, _, _⟩) F' N' ?m ?z1 ?z2 ?_; (case m => k_mem); (case z1 => walk_at "sz"); (case z2 => walk_at "sz"); k_whole); intro h' x' F' N' l1; (try k_lt l1); (try k_sweep)))
  (k_with "getItem ref int" => (k_here; k_dflt (refine' bo_getItem ?g ?z1 ?z2 ?z3 ?_; (case g => exact News.get (by k_asm) (by k_mem)); (case z1 => walk_at "sz"); (case z2 => walk_at "sz"); (case z3 => walk_at "sz"); k_whole); intro _ _))
  (k_with "setItem ref int" => (k_here; (with_reducible show wpAny _ _ (setItem (Value.ref _) (Value.int _ _) (Value.int _ _)) _ _ _); k_dflt (refine' bo_setItemK ?F ?N ?U ?z1 ?z2 ?z3 ?z4 ?z5 ?_; (case F => k_asm); (case N => k_asm); (case U => k_upd); (case z1 => walk_at "sz"); (case z2 => walk_at "sz"); (case z3 => walk_at "sz"); (case z4 => first | (with_reducible exact bx150 _ _) | (with_reducible exact bx310 _ _) | (with_reducible exact bxu0 _ _) | walk_at "sz"); (case z5 => first | (with_reducible exact bx151 _ _) | (with_reducible exact bx311 _ _) | (with_reducible exact bxu1 _ _) | walk_at "sz"); k_whole); intro h' F' N'; (try k_sweep)))
  (k_with "compareOp Eq bytes bytes" => (k_here; (with_reducible show wpAny _ _ (compareOp CmpOp.Eq (Value.bytes (List.toArray _) _) (Value.bytes (List.toArray _) _)) _ _ _); k_dflt (refine br_eq ?_)))
  (k_with "compareOp NotEq bytes bytes" => (k_here; (with_reducible show wpAny _ _ (compareOp CmpOp.NotEq (Value.bytes (List.toArray _) _) (Value.bytes (List.toArray _) _)) _ _ _); k_dflt (refine br_ne ?_)))
  (k_with "call builtin:int.to_bytes" => (k_here; (with_reducible show wpAny _ _ (call (Value.builtin "int.to_bytes") [Value.int _ _, Value.int _ _, Value.str _ _]) _ _ _); k_dflt (refine' br_to ?z1 ?z2 ?z3 ?z4 ?_; (case z1 => walk_at "sz"); (case z2 => walk_at "sz"); (case z3 => first | assumption | walk_at "sz" | exact Int.fmod_nonneg_of_pos _ (by decide)); (case z4 => first | assumption | walk_at "sz" | exact Int.lt_of_lt_of_le (Int.fmod_lt_of_pos _ (by decide)) (by decide)); k_whole); intro _ _))
  (k_with "call ref" => (k_here; (with_reducible show wpAny _ _ (call (Value.ref _) [Value.bytes (List.toArray _) _, Value.str _ _]) _ _ _); kfb_any; k_dflt (refine br_from (by k_asm) (by k_mem) ?z1 ?_; (case z1 => walk_at "sz")); intro _ _))
  (k_with "call type:bytes" => (k_here; (with_reducible show wpAny _ _ (call (Value.type "bytes") [Value.ref _]) _ _ _); k_dflt (refine' bo_bytes ?g ?z1 ?_; (case g => exact News.get (by k_asm) (by k_mem)); (case z1 => walk_at "sz"); k_whole); intro _ _))
  (k_with "pyIter bytes" => (k_here; (with_reducible show wpAny _ _ (pyIter (Value.bytes (List.toArray _) _)) (CompPost _ _ _ _ _ _ _ _ _) _ _); k_dflt (refine' comp_row ?hh ?F ?N ?hk ?hl ?hd ?hz ?_; (case hh => exact rfl); (case F => k_asm); (case N => k_asm); (case hk => exact rfl); (case hl => intro _; exact rfl); (case hd => decide); (case hz => walk_at "sz"); k_whole); intro D' ys' h' tk' F' N' lI' iI'; (try k_sweep)))
  (k_with "call type:bytes" => (k_here; (with_reducible show wpAny _ _ (call (Value.type "bytes") [Value.ref _]) _ _ _); (with_reducible rename IntsAre _ (rowOf _) => rI); k_dflt (refine' row_bytes ?F ?N ?hh ?hl rI ?hz ?_; (case F => k_asm); (case N => k_asm); (case hh => exact rfl); (case hl => assumption); (case hz => walk_at "sz"); k_whole); intro h' _ _ F' N'; (try k_sweep)))
  (k_with "eval Name" => (k_here; (with_reducible show wpAny _ _ (eval (Expr.Name _ _) _) _ _ _); k_dflt (refine' PyProof.Rows.ld ?k1 ?k2 ?_; (case k1 => k_asm); (case k2 => assumption); k_whole)))
  first | walk1 | trivial
section
theorem eq_lists {prog : Program} {w : World} {A : Around} {E : Value → Shared → Prop} {s : Shared} {g : Heap} {L l l' : Addr} {vs vs' : List Value} {n n' : Nat} {ps ps' : List (List UInt8 × Int)} {all : List (Addr × Obj)} {Q : Value → Shared → Prop}
    (N : News g L s.heap all) (hl : (l, PySem.W.listOf vs.toArray n) ∈ all) (hl' : (l', PySem.W.listOf vs'.toArray n') ∈ all) (h : PIn all vs ps) (h' : PIn all vs' ps') (e : ps = ps') (hu : A.units + 1 < cLine) (q : Q (.bool true) s) :
    wpAny (model prog w) A (compareOp .Eq (.ref l) (.ref l')) Q E s := by
  subst e
  exact eq_pairs ⟨_, N.get hl, rfl, _, rfl⟩ ⟨_, N.get hl', rfl, _, rfl⟩ (h.at N) (h'.at N) hu q
theorem units_law1 {L : Addr} : (callerA.deeper (envL L)).units + 1 < cLine := by
  first | decide | (show 5 + 1 < cLine; decide) | (show 6 + 1 < cLine; decide) | (show 7 + 1 < cLine; decide) | (show 8 + 1 < cLine; decide)
theorem lines_C33_1 : True := by
  (k_with "call ref" => (k_here; (with_reducible show wpAny _ _ (call (Value.ref 177) ([] ++ [])) _ _ _); k_dflt (show wpAny _ _ (call (Value.ref 177) []) _ _ _); k_dflt (refine' names_spec ?B ?F ?X ?N ?T ?XB ?TB ?kd ?dp ?_; (case F => k_asm); (case B => k_asm); (case X => k_asm); (case T => k_asm); (case N => exact news_nil (by k_asm)); (case XB => k_asm); (case TB => k_asm); (case kd => first | exact rfl | assumption); (case dp => first | decide | walk_at "dp"); k_whole); intro nD nvs nn nall nh ntk nF nN nM nP))
  (k_with "call ref" => (k_here; (with_reducible show wpAny _ _ (call (Value.ref 182) ([] ++ [])) _ _ _); k_dflt (show wpAny _ _ (call (Value.ref 182) []) _ _ _); k_dflt (refine' due_spec ?B ?F ?X ?N ?T ?kd ?dp ?_; (case F => k_asm); (case B => k_asm); (case X => k_asm); (case T => k_asm); (case N => k_asm); (case kd => first | exact rfl | assumption); (case dp => first | decide | walk_at "dp"); k_whole); intro dD dvs dn dall dh dtk dF dN dM dP dO))
  trivial
section
variable {prog p : Program} {w : World} {loose : List Str} {mean : ExcName → Option Value} {mg mb : Str → Option Value} {G : Heap} {L a c : Addr} {m : Str → Option Value} {rest : List (Addr × Obj)}
  {s : Shared} {Q : Flow → Shared → Prop}
set_option maxHeartbeats 1000000 in
theorem law_ret (X : (hd.heap_39 w.params).In G) (T : Top p loose mean mg mb G) (B : Below callerA G [] G) (F : Fr G L s.heap m) (N : News G L s.heap [])
    (ret : ∀ h' tk', Fr G L h' m → Q (.ret (.bool true)) { s with heap := h', toks := tk' }) :
    wpAny (model prog w) (callerA.deeper (envL L)) (exec st_189_6 (envL L)) Q NoE s := by
  conv in st_189_6 => whnf
  k_steps
  refine eq_lists dN (dO _ nM) dM (nP.mono fun a vs h => dO _ h) dP names_eq units_law1 ?_
  k_steps
  exact ret _ _ dF
end
end

theorem lines_C34 : True := by
  w_top off
  k_with_none
  (k_with "sz" => (first | (first | lia | omega) | (simp only [List.length_append, List.length_cons, List.length_nil, List.length_take, List.length_drop, List.length_map, List.length_set, List.length_replicate, toB_length, cutB_length]; (first | lia | omega))))
  (k_with "dp" => ((try simp only [depth_mark, depth_under_make, depth_under_kw, depth_in1, depth_deeper, depth_caller]); (try dsimp only [ktrTop]); (first | lia | omega)))
  (k_with "k_room" => ((try simp only [depth_mark, depth_under_make, depth_under_kw, depth_in1, depth_deeper, depth_caller]); simp only [recursionLimit]; (first | lia | omega)))
  (k_with "cell_enter" => (refine' enterF ?k1 ?k2 ?k3 ?k4 ?k5 ?kA ?kF ?kK ?k6 ?k7 ?k8 ?k9 ?kB ?_ ?c2 ?c3 ?c4 ?c5; (case kA => exact rfl); (case kF => exact rfl); (case kK => assumption); (case k1 => k_asm); (case k2 => k_asm); (case k3 => k_asm); (case k4 => k_asm); (case k5 => k_asm); (case k6 => k_is); (case k7 => k_is); (case k8 => ktr_room); (case k9 => exact BindsTo.of_eq rfl); (case c5 => decide); (case kB => exact locs rfl); (case c2 => exact rfl); (case c3 => exact rfl); (case c4 => exact rfl); k_whole; intro g' L' h' HG' F' N' B' X' T'; (try dsimp only)))
  (k_with "cell_enterP" => (refine' enterP ?k1 ?k2 ?k3 ?k4 ?k5 ?kA ?kF ?kK ?k6 ?k7 ?k8 ?k9 ?kB ?_ ?c2 ?c3 ?c4 ?c5; (case kA => exact rfl); (case kF => exact rfl); (case kK => assumption); (case k1 => k_asm); (case k2 => k_asm); (case k3 => k_asm); (case k4 => k_asm); (case k5 => k_asm); (case k6 => k_is); (case k7 => k_is); (case k8 => ktr_room); (case k9 => exact BindsTo.of_eq rfl); (case c5 => decide); (case kB => exact locs rfl); (case c2 => exact rfl); (case c3 => exact rfl); (case c4 => exact rfl); k_whole; intro g' L' h' HG' F' N' B' X' T'; (try dsimp only)))
  (k_with "binaryOp Add bytes bytes" => (k_here; (with_reducible show wpAny _ _ (binaryOp Operator.Add (Value.bytes (List.toArray _) _) (Value.bytes (List.toArray _) _)) _ _ _); k_dflt (refine' br_add ?z1 ?z2 ?_; (case z1 => walk_at "sz"); (case z2 => walk_at "sz"); k_whole); intro _ _))
  (k_with "call builtin:len" => (k_here; (with_reducible show wpAny _ _ (call (Value.builtin "len") [Value.bytes (List.toArray _) _]) _ _ _); k_dflt (refine' br_len ?z1 ?_; (case z1 => walk_at "sz"); k_whole); intro _ _))
  (k_with "subscriptTail" => (k_here; (with_reducible show wpAny _ _ (subscriptTail _ _ (Value.bytes (List.toArray _) _) (Value.int _ _)) _ _ _); k_dflt (refine' br_item ?z1 ?z2 ?z3 ?_; (case z1 => walk_at "sz"); (case z2 => walk_at "sz"); (case z3 => walk_at "sz"); k_whole); intro _ _))
  (k_with "subscriptTail" => (k_here; (with_reducible show wpAny _ _ (subscriptTail _ (Expr.Slice (some _) (some _) none _) (Value.bytes (List.toArray _) _) (Value.ref _)) _ _ _); (with_reducible rename Fr _ _ _ _ => F'); (with_reducible rename News _ _ _ _ => N'); k_dflt (refine' br_cut (s := ⟨_, _, _, _, _⟩) F' N' ?z1 ?z2 ?z3 ?_; (case z1 => walk_at "sz"); (case z2 => walk_at "sz"); (case z3 => walk_at "sz"); k_whole); intro h' _ _ F' N'; (try k_sweep)))
  (k_with "subscriptTail" => (k_here; (with_reducible show wpAny _ _ (subscriptTail _ (Expr.Slice (some _) none none _) (Value.bytes (List.toArray _) _) (Value.ref _)) _ _ _); (with_reducible rename Fr _ _ _ _ => F'); (with_reducible rename News _ _ _ _ => N'); k_dflt (refine' br_cutFrom (s := ⟨_, _, _, _, _⟩) F' N' ?z1 ?z2 ?_; (case z1 => walk_at "sz"); (case z2 => walk_at "sz"); k_whole); intro h' _ _ F' N'; (try k_sweep)))
  (k_with "subscriptTail" => (k_here; (with_reducible show wpAny _ _ (subscriptTail _ (Expr.Slice none (some _) none _) (Value.bytes (List.toArray _) _) (Value.ref _)) _ _ _); (with_reducible rename Fr _ _ _ _ => F'); (with_reducible rename News _ _ _ _ => N'); k_dflt (refine' br_cutTo (s := ⟨_, _, _, _, _⟩) F' N' ?z1 ?z2 ?_; (case z1 => walk_at "sz"); (case z2 => walk_at "sz"); k_whole); intro h' _ _ F' N'; (try k_sweep)))
  (k_with "subscriptTail" => (k_here; (with_reducible show wpAny _ _ (subscriptTail _ _ (Value.ref _) (Value.int _ _)) _ _ _); k_dflt (refine' bo_tail ?g ?z1 ?z2 ?z3 ?_; (case g => exact News.get (by k_asm) (by k_mem)); (case z1 => walk_at "sz"); (case z2 => walk_at "sz"); (case z3 => walk_at "sz"); k_whole); intro _ _))
  (k_with "subscriptTail" => (k_here; (with_reducible show wpAny _ _ (subscriptTail _ (Expr.Slice none (some _) none _) (Value.ref _) (Value.ref _)) _ _ _); (with_reducible rename Fr _ _ _ _ => F'); (with_reducible rename News _ _ _ _ => N'); k_dflt (refine' bo_cutTo (s := ⟨_, _, _, _, _⟩) F' N' ?m ?z1 ?z2 ?_; (case m => k_mem); (case z1 => walk_at "sz"); (case z2 => walk_at "sz"); k_whole); intro h' x' F' N' l1; (try k_lt l1); (try k_sweep)))
  (k_with "getItem ref int" => (k_here; k_dflt (refine' bo_getItem ?g ?z1 ?z2 ?z3 ?_; (case g => exact News.get (by k_asm) (by k_mem)); (case z1 => walk_at "sz"); (case z2 => walk_at "sz"); (case z3 => walk_at "sz"); k_whole); intro _ _))
  (k_with "setItem ref int" => (k_here; (with_reducible show wpAny _ _ (setItem (Value.ref _) (Value.int _ _) (Value.int _ _)) _ _ _); k_dflt (refine' bo_setItemK ?F ?N ?U ?z1 ?z2 ?z3 ?z4 ?z5 ?_; (case F => k_asm); (case N => k_asm); (case U => k_upd); (case z1 => walk_at "sz"); (case z2 => walk_at "sz"); (case z3 => walk_at "sz"); (case z4 => first | (with_reducible exact bx150 _ _) | (with_reducible exact bx310 _ _) | (with_reducible exact bxu0 _ _) | walk_at "sz"); (case z5 => first | (with_reducible exact bx151 _ _) | (with_reducible exact bx311 _ _) | (with_reducible exact bxu1 _ _) | walk_at "sz"); k_whole); intro h' F' N'; (try k_sweep)))
  (k_with "compareOp Eq bytes bytes" => (k_here; (with_reducible show wpAny _ _ (compareOp CmpOp.Eq (Value.bytes (List.toArray _) _) (Value.bytes (List.toArray _) _)) _ _ _); k_dflt (refine br_eq ?_)))
  (k_with "compareOp NotEq bytes bytes" => (k_here; (with_reducible show wpAny _ _ (compareOp CmpOp.NotEq (Value.bytes (List.toArray _) _) (Value.bytes (List.toArray _) _)) _ _ _); k_dflt (refine br_ne ?_)))
  (k_with "call builtin:int.to_bytes" => (k_here; (with_reducible show wpAny _ _ (call (Value.builtin "int.to_bytes") [Value.int _ _, Value.int _ _, Value.str _ _]) _ _ _); k_dflt (refine' br_to ?z1 ?z2 ?z3 ?z4 ?_; (case z1 => walk_at "sz"); (case z2 => walk_at "sz"); (case z3 => first | assumption | walk_at "sz" | exact Int.fmod_nonneg_of_pos _ (by decide)); (case z4 => first | assumption | walk_at "sz" | exact Int.lt_of_lt_of_le (Int.fmod_lt_of_pos _ (by decide)) (by decide)); k_whole); intro _ _))
  (k_with "call ref" => (k_here; (with_reducible show wpAny _ _ (call (Value.ref _) [Value.bytes (List.toArray _) _, Value.str _ _]) _ _ _); kfb_any; k_dflt (refine br_from (by k_asm) (by k_mem) ?z1 ?_; (case z1 => walk_at "sz")); intro _ _))
  (k_with "call type:bytes" => (k_here; (with_reducible show wpAny _ _ (call (Value.type "bytes") [Value.ref _]) _ _ _); k_dflt (refine' bo_bytes ?g ?z1 ?_; (case g => exact News.get (by k_asm) (by k_mem)); (case z1 => walk_at "sz"); k_whole); intro _ _))
  (k_with "pyIter bytes" => (k_here; (with_reducible show wpAny _ _ (pyIter (Value.bytes (List.toArray _) _)) (CompPost _ _ _ _ _ _ _ _ _) _ _); k_dflt (refine' comp_row ?hh ?F ?N ?hk ?hl ?hd ?hz ?_; (case hh => exact rfl); (case F => k_asm); (case N => k_asm); (case hk => exact rfl); (case hl => intro _; exact rfl); (case hd => decide); (case hz => walk_at "sz"); k_whole); intro D' ys' h' tk' F' N' lI' iI'; (try k_sweep)))
  (k_with "call type:bytes" => (k_here; (with_reducible show wpAny _ _ (call (Value.type "bytes") [Value.ref _]) _ _ _); (with_reducible rename IntsAre _ (rowOf _) => rI); k_dflt (refine' row_bytes ?F ?N ?hh ?hl rI ?hz ?_; (case F => k_asm); (case N => k_asm); (case hh => exact rfl); (case hl => assumption); (case hz => walk_at "sz"); k_whole); intro h' _ _ F' N'; (try k_sweep)))
  (k_with "call ref" => (k_here; (with_reducible show wpAny _ _ (call (Value.ref 125) [Value.ref _, Value.int _ _]) _ _ _); k_dflt (refine' take_spec ?B ?F ?X ?N ?T ?kd ?dp ?hc ?ne ?hi ?l0 ?l1 ?k0 ?k1 ?most ?_; (case F => k_asm); (case B => k_asm); (case X => k_asm); (case T => k_asm); (case N => exact news_one (by k_asm) (by k_mem)); (case kd => first | exact rfl | assumption); (case dp => walk_at "dp"); (case hc => is_list); (case ne => first | assumption | (first | lia | omega)); (case hi => l_ints); (case l0 => (first | lia | omega)); (case l1 => (first | lia | omega)); (case k0 => (first | lia | omega)); (case k1 => (first | lia | omega)); (case most => first | (first | lia | omega) | decide | exact Int.pow_pos (by decide)); k_whole); intro _ _ _ _ _ _ _ tkK tkG; k_dflt (refine' kept_step tkK tkG ?F ?N ?U ?_; (case F => k_asm); (case N => k_asm); (case U => k_upd)); clear tkK tkG; intro F' N'; (try k_sweep)))
  first | walk1 | trivial
section
section
variable {prog p : Program} {w : World} {loose : List Str} {mean : ExcName → Option Value} {mg mb : Str → Option Value} {G : Heap} {L a c : Addr}
set_option maxHeartbeats 1000000 in
theorem law_rest {s : Shared} {Q : Flow → Shared → Prop} {mf : Str → Option Value} {tk : Tok} {n n' : Nat} {vs : List Value} {ns : List Int}
    (X : (hd.heap_39 w.params).In G) (T : Top p loose mean mg mb G) (B : Below callerA G [] G) (F : Fr G L s.heap (fun y => if y = Str.ofString "state" then some (.ref a) else mf y))
    (N : News G L s.heap [(a, PySem.W.listOf [.int 0 tk, .ref c].toArray n), (c, PySem.W.listOf vs.toArray n')]) (hca : c ≠ a) (hi : IntsAre vs ns) (hl0 : 0 < vs.length) (hl1 : vs.length ≤ 63)
    (ret : ∀ m' h' tk', Fr G L h' m' → Q (.ret (.bool true)) { s with heap := h', toks := tk' }) :
    wpP (model prog w) (callerA.deeper (envL L)) (execs [st_189_1, st_189_2, st_189_3, st_189_4, st_189_5, st_189_6] (envL L)) Q NoE s := by
  refine cons_A (law_name X T B F N hca hi hl0 hl1 (by (first | lia | omega)) (by (first | lia | omega)) ?_)
  intro nm tn ta1 h1 k1 hnm hnl F1 N1
  refine then_next ?_
  refine cons_A (law_wide X T B F1 N1 hca hi hl0 hl1 (by (first | lia | omega)) (by (first | lia | omega)) ?_)
  intro wide ta2 h2 k2 F2 N2
  refine then_next ?_
  refine cons_A (law_key X T B F2 N2 hca hi hl0 hl1 (by (first | lia | omega)) (by (first | lia | omega)) ?_)
  intro ky k' ty ta3 h3 k3 hky hka hkb F3 N3
  refine then_next ?_
  refine cons_A (law_hp X T B F3 N3 hnm hnl (by (first | lia | omega)) ?_)
  intro x dx n2 t1 t2 t3 tn' ty' h4 k4 F4 N4 q1 q2 q3 q4 q5
  refine then_next ?_
  have K : Knows (fun y => if y = Str.ofString "hp" then some (Value.ref x) else if y = Str.ofString "key" then some (.bytes ky.toArray ty) else if y = Str.ofString "wide" then some (.bool wide) else if y = Str.ofString "name" then some (.bytes nm.toArray tn) else if y = Str.ofString "state" then some (.ref a) else mf y)
      [(Str.ofString "state", .ref a), (Str.ofString "hp", .ref x), (Str.ofString "key", .bytes ky.toArray ty), (Str.ofString "wide", .bool wide), (Str.ofString "name", .bytes nm.toArray tn)] := by
    intro p hp
    simp only [List.mem_cons, List.not_mem_nil, or_false] at hp
    rcases hp with rfl | rfl | rfl | rfl | rfl
    · exact (if_neg (by dsimp only; decide)).trans ((if_neg (by dsimp only; decide)).trans ((if_neg (by dsimp only; decide)).trans ((if_neg (by dsimp only; decide)).trans (if_pos rfl))))
    · exact if_pos rfl
    · exact (if_neg (by dsimp only; decide)).trans (if_pos rfl)
    · exact (if_neg (by dsimp only; decide)).trans ((if_neg (by dsimp only; decide)).trans (if_pos rfl))
    · exact (if_neg (by dsimp only; decide)).trans ((if_neg (by dsimp only; decide)).trans ((if_neg (by dsimp only; decide)).trans (if_pos rfl)))
  refine cons_P (law_for X T B hca q2 q4 hi hl0 hl1 hnl (by (first | lia | omega)) (by (first | lia | omega)) (by (first | lia | omega)) F4 K (news_rot4 N4) ?_)
  intro m5 h5 k5 F5
  refine then_next ?_
  refine cons_A (law_ret X T B F5 (fun _ hq => nomatch hq) ?_)
  intro h6 k6 F6
  exact Then_ret (ret m5 h6 k6 F6)
end
set_option maxHeartbeats 4000000 in
theorem law_go : PySem.Challenge.rw_ja0001_01.Holds := by
  refine Mine.hd ?_
  intro w s₀ s₁ mg mb G Y fa o pm cd doc dV kV ho hd hcd hD hmg hg args vals as hpre hlay hrd hwl hlo
  have KX := kIn_of Y
  have X := (Ground.X G).1
  have V := (Ground.X G).2
  refine Ground.open G ?_
  intro T B D TE TW
  wrow_args hpre hlay hrd hwl hlo
  all_goals (try all_lens)
  x_fa T KX hmg
  refine at_one ?_ _
  clear hmg hd ho hcd hD
  k_dflt (refine' enterTop KX T ?k6 ?k7 ?k9 ?kB ?_ ?c2 ?c3 ?c4 ?c5; (case k6 => k_is); (case k7 => k_is); (case k9 => exact BindsTo.of_eq rfl); (case kB => exact locs rfl); (case c2 => exact rfl); (case c3 => exact rfl); (case c4 => exact rfl); (case c5 => decide); k_whole)
  intro L h1 F1 B1
  have N1 : News s₁.heap L h1 [] := fun _ h => nomatch h
  (try dsimp only)
  refine cons_A ?_
  k_steps
  · (rename Fr _ _ _ _ => F9)
    (rename News _ _ _ _ => N9)
    (rename IntsAre _ _ => iA)
    have hlen := iA.length
    refine then_next (law_rest KX T B1 F9 N9 (Nat.ne_of_lt (by assumption)) iA (by (first | lia | omega)) (by rw [hlen, List.length_take]; (first | lia | omega)) ?_)
    intro m' h' tk' F'
    refine ⟨.inl ⟨.bool true, .bool true, [], rfl, fun _ => ?r1, .bool true, ?r2, ?r3⟩, OldK.of_keep F'.keep, rfl, ?r4⟩
    case r1 => exact rfl
    case r2 => first | wrow_post | exact postW_of (by wrow_shape) (by wtm_val) (by decide) | (show _ && _ = true; decide) | decide
    case r3 => exact fun _ => ⟨.nil, fun _ h => nomatch h⟩
    case r4 => exact .of_eq hg
  · (rename Fr _ _ _ _ => F9)
    (rename News _ _ _ _ => N9)
    (rename _ ∧ _ => l9)
    refine then_next (law_rest KX T B1 F9 (news_two N9 (.head _) (.tail _ (.head _))) (Nat.ne_of_lt l9.1) (.cons _ _ .nil) (by simp) (by simp) ?_)
    intro m' h' tk' F'
    refine ⟨.inl ⟨.bool true, .bool true, [], rfl, fun _ => ?r1, .bool true, ?r2, ?r3⟩, OldK.of_keep F'.keep, rfl, ?r4⟩
    case r1 => exact rfl
    case r2 => first | wrow_post | exact postW_of (by wrow_shape) (by wtm_val) (by decide) | (show _ && _ = true; decide) | decide
    case r3 => exact fun _ => ⟨.nil, fun _ h => nomatch h⟩
    case r4 => exact .of_eq hg
end

end Mine
end

theorem PySem.Challenge.cw_ja0001_01_holds : PySem.Challenge.rw_ja0001_01.Holds := by
  exact Mine.law_go
